/- The law on one flag of a symbol: the walks, the further flags. -/
import Derived.Test.YtnnhdoocklaeoaaSymFlags
namespace Go.Proofs.Ytnnhdoocklaeoaa
open Go.RowKit

set_option maxHeartbeats 4000000 in
theorem fnSymbolFlag_s0 (w : World) : Calls Try.prog 7 #[.int .i64 0, .bool true] w (LawEnd w) := by
  have hf : flags1 0 = .agg #[.bool false, .bool false, .bool false, .bool false, .bool false, .bool false, .bool false] := by simp [flags1, fl]; decide
  have hg : flags2 1 = .agg #[.bool true, .bool false, .bool false, .bool false, .bool false, .bool false, .bool false, .bool false] := by simp [flags2, fl]; decide
  have i0 : ∀ W, (Instr.index 39 (.agg #[.bool false, .bool false, .bool false, .bool false, .bool false, .bool false, .bool false]) (.int .i64 0)).run Try.prog W = .ok (.bool false) W := fun _ => by kernel_rfl
  have i1 : ∀ W, (Instr.index 39 (.agg #[.bool false, .bool false, .bool false, .bool false, .bool false, .bool false, .bool false]) (.int .i64 1)).run Try.prog W = .ok (.bool false) W := fun _ => by kernel_rfl
  have i2 : ∀ W, (Instr.index 39 (.agg #[.bool false, .bool false, .bool false, .bool false, .bool false, .bool false, .bool false]) (.int .i64 2)).run Try.prog W = .ok (.bool false) W := fun _ => by kernel_rfl
  have i3 : ∀ W, (Instr.index 39 (.agg #[.bool false, .bool false, .bool false, .bool false, .bool false, .bool false, .bool false]) (.int .i64 3)).run Try.prog W = .ok (.bool false) W := fun _ => by kernel_rfl
  have i4 : ∀ W, (Instr.index 39 (.agg #[.bool false, .bool false, .bool false, .bool false, .bool false, .bool false, .bool false]) (.int .i64 4)).run Try.prog W = .ok (.bool false) W := fun _ => by kernel_rfl
  have i5 : ∀ W, (Instr.index 39 (.agg #[.bool false, .bool false, .bool false, .bool false, .bool false, .bool false, .bool false]) (.int .i64 5)).run Try.prog W = .ok (.bool false) W := fun _ => by kernel_rfl
  have i6 : ∀ W, (Instr.index 39 (.agg #[.bool false, .bool false, .bool false, .bool false, .bool false, .bool false, .bool false]) (.int .i64 6)).run Try.prog W = .ok (.bool false) W := fun _ => by kernel_rfl
  have j0 : ∀ W, (Instr.index 40 (.agg #[.bool true, .bool false, .bool false, .bool false, .bool false, .bool false, .bool false, .bool false]) (.int .i64 0)).run Try.prog W = .ok (.bool true) W := fun _ => by kernel_rfl
  have j1 : ∀ W, (Instr.index 40 (.agg #[.bool true, .bool false, .bool false, .bool false, .bool false, .bool false, .bool false, .bool false]) (.int .i64 1)).run Try.prog W = .ok (.bool false) W := fun _ => by kernel_rfl
  have j2 : ∀ W, (Instr.index 40 (.agg #[.bool true, .bool false, .bool false, .bool false, .bool false, .bool false, .bool false, .bool false]) (.int .i64 2)).run Try.prog W = .ok (.bool false) W := fun _ => by kernel_rfl
  have j3 : ∀ W, (Instr.index 40 (.agg #[.bool true, .bool false, .bool false, .bool false, .bool false, .bool false, .bool false, .bool false]) (.int .i64 3)).run Try.prog W = .ok (.bool false) W := fun _ => by kernel_rfl
  have j4 : ∀ W, (Instr.index 40 (.agg #[.bool true, .bool false, .bool false, .bool false, .bool false, .bool false, .bool false, .bool false]) (.int .i64 4)).run Try.prog W = .ok (.bool false) W := fun _ => by kernel_rfl
  have j5 : ∀ W, (Instr.index 40 (.agg #[.bool true, .bool false, .bool false, .bool false, .bool false, .bool false, .bool false, .bool false]) (.int .i64 5)).run Try.prog W = .ok (.bool false) W := fun _ => by kernel_rfl
  have j6 : ∀ W, (Instr.index 40 (.agg #[.bool true, .bool false, .bool false, .bool false, .bool false, .bool false, .bool false, .bool false]) (.int .i64 6)).run Try.prog W = .ok (.bool false) W := fun _ => by kernel_rfl
  have j7 : ∀ W, (Instr.index 40 (.agg #[.bool true, .bool false, .bool false, .bool false, .bool false, .bool false, .bool false, .bool false]) (.int .i64 7)).run Try.prog W = .ok (.bool false) W := fun _ => by kernel_rfl
  have HF := Lib.hid hf
  have HG := Lib.hid hg
  clear hf hg
  go_enter Try.func7, Try.ntmps7
  go_wp2_with fail
  refine (symbolFlags_any 0 0 0 1 0 0 _ (by omega) (by omega) (by omega) (by omega) (by omega) (by omega)).mono ?_
  rintro e w1 ⟨rfl, hb1⟩
  rw [HF.out, HG.out]
  have hB := Lib.hid (below_from (by (repeat' (first | (with_reducible exact Below.refl _ _) | (with_reducible assumption) | (with_reducible refine below_drewN ?_ _) | (with_reducible refine Below.alloc ?_ ?_ _) | (with_reducible refine Below.drew ?_) | (with_reducible refine Below.setCell ?_ ?_ _) | go_size))) hb1 : Below w.heap.size w w1)
  have hz := hb1.size
  simp at hz
  clear hb1
  go_wp2_with fail
  refine wp_loop_rounds 8 ?_
  rw [rounds_succ]
  go_wp2_with fail
  rw [rounds_succ]
  go_wp2_with fail
  rw [rounds_succ]
  go_wp2_with fail
  rw [rounds_succ]
  go_wp2_with fail
  rw [rounds_succ]
  go_wp2_with fail
  rw [rounds_succ]
  go_wp2_with fail
  rw [rounds_succ]
  go_wp2_with fail
  rw [rounds_succ]
  go_wp2_with fail
  refine wp_loop_rounds 9 ?_
  rw [rounds_succ]
  go_wp2_with fail
  rw [rounds_succ]
  go_wp2_with fail
  rw [rounds_succ]
  go_wp2_with fail
  rw [rounds_succ]
  go_wp2_with fail
  rw [rounds_succ]
  go_wp2_with fail
  rw [rounds_succ]
  go_wp2_with fail
  rw [rounds_succ]
  go_wp2_with fail
  rw [rounds_succ]
  go_wp2_with fail
  rw [rounds_succ]
  go_wp2_with fail
  have hB := hB.out
  go_returns
  exact ⟨by simp, by (repeat' (first | (with_reducible exact Below.refl _ _) | (with_reducible assumption) | (with_reducible refine below_drewN ?_ _) | (with_reducible refine Below.alloc ?_ ?_ _) | (with_reducible refine Below.drew ?_) | (with_reducible refine Below.setCell ?_ ?_ _) | go_size))⟩
set_option maxHeartbeats 4000000 in
theorem fnSymbolFlag_s1 (w : World) : Calls Try.prog 7 #[.int .i64 1, .bool true] w (LawEnd w) := by
  have hf : flags1 0 = .agg #[.bool false, .bool false, .bool false, .bool false, .bool false, .bool false, .bool false] := by simp [flags1, fl]; decide
  have hg : flags2 2 = .agg #[.bool false, .bool true, .bool false, .bool false, .bool false, .bool false, .bool false, .bool false] := by simp [flags2, fl]; decide
  have i0 : ∀ W, (Instr.index 39 (.agg #[.bool false, .bool false, .bool false, .bool false, .bool false, .bool false, .bool false]) (.int .i64 0)).run Try.prog W = .ok (.bool false) W := fun _ => by kernel_rfl
  have i1 : ∀ W, (Instr.index 39 (.agg #[.bool false, .bool false, .bool false, .bool false, .bool false, .bool false, .bool false]) (.int .i64 1)).run Try.prog W = .ok (.bool false) W := fun _ => by kernel_rfl
  have i2 : ∀ W, (Instr.index 39 (.agg #[.bool false, .bool false, .bool false, .bool false, .bool false, .bool false, .bool false]) (.int .i64 2)).run Try.prog W = .ok (.bool false) W := fun _ => by kernel_rfl
  have i3 : ∀ W, (Instr.index 39 (.agg #[.bool false, .bool false, .bool false, .bool false, .bool false, .bool false, .bool false]) (.int .i64 3)).run Try.prog W = .ok (.bool false) W := fun _ => by kernel_rfl
  have i4 : ∀ W, (Instr.index 39 (.agg #[.bool false, .bool false, .bool false, .bool false, .bool false, .bool false, .bool false]) (.int .i64 4)).run Try.prog W = .ok (.bool false) W := fun _ => by kernel_rfl
  have i5 : ∀ W, (Instr.index 39 (.agg #[.bool false, .bool false, .bool false, .bool false, .bool false, .bool false, .bool false]) (.int .i64 5)).run Try.prog W = .ok (.bool false) W := fun _ => by kernel_rfl
  have i6 : ∀ W, (Instr.index 39 (.agg #[.bool false, .bool false, .bool false, .bool false, .bool false, .bool false, .bool false]) (.int .i64 6)).run Try.prog W = .ok (.bool false) W := fun _ => by kernel_rfl
  have j0 : ∀ W, (Instr.index 40 (.agg #[.bool false, .bool true, .bool false, .bool false, .bool false, .bool false, .bool false, .bool false]) (.int .i64 0)).run Try.prog W = .ok (.bool false) W := fun _ => by kernel_rfl
  have j1 : ∀ W, (Instr.index 40 (.agg #[.bool false, .bool true, .bool false, .bool false, .bool false, .bool false, .bool false, .bool false]) (.int .i64 1)).run Try.prog W = .ok (.bool true) W := fun _ => by kernel_rfl
  have j2 : ∀ W, (Instr.index 40 (.agg #[.bool false, .bool true, .bool false, .bool false, .bool false, .bool false, .bool false, .bool false]) (.int .i64 2)).run Try.prog W = .ok (.bool false) W := fun _ => by kernel_rfl
  have j3 : ∀ W, (Instr.index 40 (.agg #[.bool false, .bool true, .bool false, .bool false, .bool false, .bool false, .bool false, .bool false]) (.int .i64 3)).run Try.prog W = .ok (.bool false) W := fun _ => by kernel_rfl
  have j4 : ∀ W, (Instr.index 40 (.agg #[.bool false, .bool true, .bool false, .bool false, .bool false, .bool false, .bool false, .bool false]) (.int .i64 4)).run Try.prog W = .ok (.bool false) W := fun _ => by kernel_rfl
  have j5 : ∀ W, (Instr.index 40 (.agg #[.bool false, .bool true, .bool false, .bool false, .bool false, .bool false, .bool false, .bool false]) (.int .i64 5)).run Try.prog W = .ok (.bool false) W := fun _ => by kernel_rfl
  have j6 : ∀ W, (Instr.index 40 (.agg #[.bool false, .bool true, .bool false, .bool false, .bool false, .bool false, .bool false, .bool false]) (.int .i64 6)).run Try.prog W = .ok (.bool false) W := fun _ => by kernel_rfl
  have j7 : ∀ W, (Instr.index 40 (.agg #[.bool false, .bool true, .bool false, .bool false, .bool false, .bool false, .bool false, .bool false]) (.int .i64 7)).run Try.prog W = .ok (.bool false) W := fun _ => by kernel_rfl
  have HF := Lib.hid hf
  have HG := Lib.hid hg
  clear hf hg
  go_enter Try.func7, Try.ntmps7
  go_wp2_with fail
  refine (symbolFlags_any 0 0 0 2 0 0 _ (by omega) (by omega) (by omega) (by omega) (by omega) (by omega)).mono ?_
  rintro e w1 ⟨rfl, hb1⟩
  rw [HF.out, HG.out]
  have hB := Lib.hid (below_from (by (repeat' (first | (with_reducible exact Below.refl _ _) | (with_reducible assumption) | (with_reducible refine below_drewN ?_ _) | (with_reducible refine Below.alloc ?_ ?_ _) | (with_reducible refine Below.drew ?_) | (with_reducible refine Below.setCell ?_ ?_ _) | go_size))) hb1 : Below w.heap.size w w1)
  have hz := hb1.size
  simp at hz
  clear hb1
  go_wp2_with fail
  refine wp_loop_rounds 8 ?_
  rw [rounds_succ]
  go_wp2_with fail
  rw [rounds_succ]
  go_wp2_with fail
  rw [rounds_succ]
  go_wp2_with fail
  rw [rounds_succ]
  go_wp2_with fail
  rw [rounds_succ]
  go_wp2_with fail
  rw [rounds_succ]
  go_wp2_with fail
  rw [rounds_succ]
  go_wp2_with fail
  rw [rounds_succ]
  go_wp2_with fail
  refine wp_loop_rounds 9 ?_
  rw [rounds_succ]
  go_wp2_with fail
  rw [rounds_succ]
  go_wp2_with fail
  rw [rounds_succ]
  go_wp2_with fail
  rw [rounds_succ]
  go_wp2_with fail
  rw [rounds_succ]
  go_wp2_with fail
  rw [rounds_succ]
  go_wp2_with fail
  rw [rounds_succ]
  go_wp2_with fail
  rw [rounds_succ]
  go_wp2_with fail
  rw [rounds_succ]
  go_wp2_with fail
  have hB := hB.out
  go_returns
  exact ⟨by simp, by (repeat' (first | (with_reducible exact Below.refl _ _) | (with_reducible assumption) | (with_reducible refine below_drewN ?_ _) | (with_reducible refine Below.alloc ?_ ?_ _) | (with_reducible refine Below.drew ?_) | (with_reducible refine Below.setCell ?_ ?_ _) | go_size))⟩
set_option maxHeartbeats 4000000 in
theorem fnSymbolFlag_s2 (w : World) : Calls Try.prog 7 #[.int .i64 2, .bool true] w (LawEnd w) := by
  have hf : flags1 0 = .agg #[.bool false, .bool false, .bool false, .bool false, .bool false, .bool false, .bool false] := by simp [flags1, fl]; decide
  have hg : flags2 4 = .agg #[.bool false, .bool false, .bool true, .bool false, .bool false, .bool false, .bool false, .bool false] := by simp [flags2, fl]; decide
  have i0 : ∀ W, (Instr.index 39 (.agg #[.bool false, .bool false, .bool false, .bool false, .bool false, .bool false, .bool false]) (.int .i64 0)).run Try.prog W = .ok (.bool false) W := fun _ => by kernel_rfl
  have i1 : ∀ W, (Instr.index 39 (.agg #[.bool false, .bool false, .bool false, .bool false, .bool false, .bool false, .bool false]) (.int .i64 1)).run Try.prog W = .ok (.bool false) W := fun _ => by kernel_rfl
  have i2 : ∀ W, (Instr.index 39 (.agg #[.bool false, .bool false, .bool false, .bool false, .bool false, .bool false, .bool false]) (.int .i64 2)).run Try.prog W = .ok (.bool false) W := fun _ => by kernel_rfl
  have i3 : ∀ W, (Instr.index 39 (.agg #[.bool false, .bool false, .bool false, .bool false, .bool false, .bool false, .bool false]) (.int .i64 3)).run Try.prog W = .ok (.bool false) W := fun _ => by kernel_rfl
  have i4 : ∀ W, (Instr.index 39 (.agg #[.bool false, .bool false, .bool false, .bool false, .bool false, .bool false, .bool false]) (.int .i64 4)).run Try.prog W = .ok (.bool false) W := fun _ => by kernel_rfl
  have i5 : ∀ W, (Instr.index 39 (.agg #[.bool false, .bool false, .bool false, .bool false, .bool false, .bool false, .bool false]) (.int .i64 5)).run Try.prog W = .ok (.bool false) W := fun _ => by kernel_rfl
  have i6 : ∀ W, (Instr.index 39 (.agg #[.bool false, .bool false, .bool false, .bool false, .bool false, .bool false, .bool false]) (.int .i64 6)).run Try.prog W = .ok (.bool false) W := fun _ => by kernel_rfl
  have j0 : ∀ W, (Instr.index 40 (.agg #[.bool false, .bool false, .bool true, .bool false, .bool false, .bool false, .bool false, .bool false]) (.int .i64 0)).run Try.prog W = .ok (.bool false) W := fun _ => by kernel_rfl
  have j1 : ∀ W, (Instr.index 40 (.agg #[.bool false, .bool false, .bool true, .bool false, .bool false, .bool false, .bool false, .bool false]) (.int .i64 1)).run Try.prog W = .ok (.bool false) W := fun _ => by kernel_rfl
  have j2 : ∀ W, (Instr.index 40 (.agg #[.bool false, .bool false, .bool true, .bool false, .bool false, .bool false, .bool false, .bool false]) (.int .i64 2)).run Try.prog W = .ok (.bool true) W := fun _ => by kernel_rfl
  have j3 : ∀ W, (Instr.index 40 (.agg #[.bool false, .bool false, .bool true, .bool false, .bool false, .bool false, .bool false, .bool false]) (.int .i64 3)).run Try.prog W = .ok (.bool false) W := fun _ => by kernel_rfl
  have j4 : ∀ W, (Instr.index 40 (.agg #[.bool false, .bool false, .bool true, .bool false, .bool false, .bool false, .bool false, .bool false]) (.int .i64 4)).run Try.prog W = .ok (.bool false) W := fun _ => by kernel_rfl
  have j5 : ∀ W, (Instr.index 40 (.agg #[.bool false, .bool false, .bool true, .bool false, .bool false, .bool false, .bool false, .bool false]) (.int .i64 5)).run Try.prog W = .ok (.bool false) W := fun _ => by kernel_rfl
  have j6 : ∀ W, (Instr.index 40 (.agg #[.bool false, .bool false, .bool true, .bool false, .bool false, .bool false, .bool false, .bool false]) (.int .i64 6)).run Try.prog W = .ok (.bool false) W := fun _ => by kernel_rfl
  have j7 : ∀ W, (Instr.index 40 (.agg #[.bool false, .bool false, .bool true, .bool false, .bool false, .bool false, .bool false, .bool false]) (.int .i64 7)).run Try.prog W = .ok (.bool false) W := fun _ => by kernel_rfl
  have HF := Lib.hid hf
  have HG := Lib.hid hg
  clear hf hg
  go_enter Try.func7, Try.ntmps7
  go_wp2_with fail
  refine (symbolFlags_any 0 0 0 4 0 0 _ (by omega) (by omega) (by omega) (by omega) (by omega) (by omega)).mono ?_
  rintro e w1 ⟨rfl, hb1⟩
  rw [HF.out, HG.out]
  have hB := Lib.hid (below_from (by (repeat' (first | (with_reducible exact Below.refl _ _) | (with_reducible assumption) | (with_reducible refine below_drewN ?_ _) | (with_reducible refine Below.alloc ?_ ?_ _) | (with_reducible refine Below.drew ?_) | (with_reducible refine Below.setCell ?_ ?_ _) | go_size))) hb1 : Below w.heap.size w w1)
  have hz := hb1.size
  simp at hz
  clear hb1
  go_wp2_with fail
  refine wp_loop_rounds 8 ?_
  rw [rounds_succ]
  go_wp2_with fail
  rw [rounds_succ]
  go_wp2_with fail
  rw [rounds_succ]
  go_wp2_with fail
  rw [rounds_succ]
  go_wp2_with fail
  rw [rounds_succ]
  go_wp2_with fail
  rw [rounds_succ]
  go_wp2_with fail
  rw [rounds_succ]
  go_wp2_with fail
  rw [rounds_succ]
  go_wp2_with fail
  refine wp_loop_rounds 9 ?_
  rw [rounds_succ]
  go_wp2_with fail
  rw [rounds_succ]
  go_wp2_with fail
  rw [rounds_succ]
  go_wp2_with fail
  rw [rounds_succ]
  go_wp2_with fail
  rw [rounds_succ]
  go_wp2_with fail
  rw [rounds_succ]
  go_wp2_with fail
  rw [rounds_succ]
  go_wp2_with fail
  rw [rounds_succ]
  go_wp2_with fail
  rw [rounds_succ]
  go_wp2_with fail
  have hB := hB.out
  go_returns
  exact ⟨by simp, by (repeat' (first | (with_reducible exact Below.refl _ _) | (with_reducible assumption) | (with_reducible refine below_drewN ?_ _) | (with_reducible refine Below.alloc ?_ ?_ _) | (with_reducible refine Below.drew ?_) | (with_reducible refine Below.setCell ?_ ?_ _) | go_size))⟩
set_option maxHeartbeats 4000000 in
theorem fnSymbolFlag_s3 (w : World) : Calls Try.prog 7 #[.int .i64 3, .bool true] w (LawEnd w) := by
  have hf : flags1 0 = .agg #[.bool false, .bool false, .bool false, .bool false, .bool false, .bool false, .bool false] := by simp [flags1, fl]; decide
  have hg : flags2 8 = .agg #[.bool false, .bool false, .bool false, .bool true, .bool false, .bool false, .bool false, .bool false] := by simp [flags2, fl]; decide
  have i0 : ∀ W, (Instr.index 39 (.agg #[.bool false, .bool false, .bool false, .bool false, .bool false, .bool false, .bool false]) (.int .i64 0)).run Try.prog W = .ok (.bool false) W := fun _ => by kernel_rfl
  have i1 : ∀ W, (Instr.index 39 (.agg #[.bool false, .bool false, .bool false, .bool false, .bool false, .bool false, .bool false]) (.int .i64 1)).run Try.prog W = .ok (.bool false) W := fun _ => by kernel_rfl
  have i2 : ∀ W, (Instr.index 39 (.agg #[.bool false, .bool false, .bool false, .bool false, .bool false, .bool false, .bool false]) (.int .i64 2)).run Try.prog W = .ok (.bool false) W := fun _ => by kernel_rfl
  have i3 : ∀ W, (Instr.index 39 (.agg #[.bool false, .bool false, .bool false, .bool false, .bool false, .bool false, .bool false]) (.int .i64 3)).run Try.prog W = .ok (.bool false) W := fun _ => by kernel_rfl
  have i4 : ∀ W, (Instr.index 39 (.agg #[.bool false, .bool false, .bool false, .bool false, .bool false, .bool false, .bool false]) (.int .i64 4)).run Try.prog W = .ok (.bool false) W := fun _ => by kernel_rfl
  have i5 : ∀ W, (Instr.index 39 (.agg #[.bool false, .bool false, .bool false, .bool false, .bool false, .bool false, .bool false]) (.int .i64 5)).run Try.prog W = .ok (.bool false) W := fun _ => by kernel_rfl
  have i6 : ∀ W, (Instr.index 39 (.agg #[.bool false, .bool false, .bool false, .bool false, .bool false, .bool false, .bool false]) (.int .i64 6)).run Try.prog W = .ok (.bool false) W := fun _ => by kernel_rfl
  have j0 : ∀ W, (Instr.index 40 (.agg #[.bool false, .bool false, .bool false, .bool true, .bool false, .bool false, .bool false, .bool false]) (.int .i64 0)).run Try.prog W = .ok (.bool false) W := fun _ => by kernel_rfl
  have j1 : ∀ W, (Instr.index 40 (.agg #[.bool false, .bool false, .bool false, .bool true, .bool false, .bool false, .bool false, .bool false]) (.int .i64 1)).run Try.prog W = .ok (.bool false) W := fun _ => by kernel_rfl
  have j2 : ∀ W, (Instr.index 40 (.agg #[.bool false, .bool false, .bool false, .bool true, .bool false, .bool false, .bool false, .bool false]) (.int .i64 2)).run Try.prog W = .ok (.bool false) W := fun _ => by kernel_rfl
  have j3 : ∀ W, (Instr.index 40 (.agg #[.bool false, .bool false, .bool false, .bool true, .bool false, .bool false, .bool false, .bool false]) (.int .i64 3)).run Try.prog W = .ok (.bool true) W := fun _ => by kernel_rfl
  have j4 : ∀ W, (Instr.index 40 (.agg #[.bool false, .bool false, .bool false, .bool true, .bool false, .bool false, .bool false, .bool false]) (.int .i64 4)).run Try.prog W = .ok (.bool false) W := fun _ => by kernel_rfl
  have j5 : ∀ W, (Instr.index 40 (.agg #[.bool false, .bool false, .bool false, .bool true, .bool false, .bool false, .bool false, .bool false]) (.int .i64 5)).run Try.prog W = .ok (.bool false) W := fun _ => by kernel_rfl
  have j6 : ∀ W, (Instr.index 40 (.agg #[.bool false, .bool false, .bool false, .bool true, .bool false, .bool false, .bool false, .bool false]) (.int .i64 6)).run Try.prog W = .ok (.bool false) W := fun _ => by kernel_rfl
  have j7 : ∀ W, (Instr.index 40 (.agg #[.bool false, .bool false, .bool false, .bool true, .bool false, .bool false, .bool false, .bool false]) (.int .i64 7)).run Try.prog W = .ok (.bool false) W := fun _ => by kernel_rfl
  have HF := Lib.hid hf
  have HG := Lib.hid hg
  clear hf hg
  go_enter Try.func7, Try.ntmps7
  go_wp2_with fail
  refine (symbolFlags_any 0 0 0 8 0 0 _ (by omega) (by omega) (by omega) (by omega) (by omega) (by omega)).mono ?_
  rintro e w1 ⟨rfl, hb1⟩
  rw [HF.out, HG.out]
  have hB := Lib.hid (below_from (by (repeat' (first | (with_reducible exact Below.refl _ _) | (with_reducible assumption) | (with_reducible refine below_drewN ?_ _) | (with_reducible refine Below.alloc ?_ ?_ _) | (with_reducible refine Below.drew ?_) | (with_reducible refine Below.setCell ?_ ?_ _) | go_size))) hb1 : Below w.heap.size w w1)
  have hz := hb1.size
  simp at hz
  clear hb1
  go_wp2_with fail
  refine wp_loop_rounds 8 ?_
  rw [rounds_succ]
  go_wp2_with fail
  rw [rounds_succ]
  go_wp2_with fail
  rw [rounds_succ]
  go_wp2_with fail
  rw [rounds_succ]
  go_wp2_with fail
  rw [rounds_succ]
  go_wp2_with fail
  rw [rounds_succ]
  go_wp2_with fail
  rw [rounds_succ]
  go_wp2_with fail
  rw [rounds_succ]
  go_wp2_with fail
  refine wp_loop_rounds 9 ?_
  rw [rounds_succ]
  go_wp2_with fail
  rw [rounds_succ]
  go_wp2_with fail
  rw [rounds_succ]
  go_wp2_with fail
  rw [rounds_succ]
  go_wp2_with fail
  rw [rounds_succ]
  go_wp2_with fail
  rw [rounds_succ]
  go_wp2_with fail
  rw [rounds_succ]
  go_wp2_with fail
  rw [rounds_succ]
  go_wp2_with fail
  rw [rounds_succ]
  go_wp2_with fail
  have hB := hB.out
  go_returns
  exact ⟨by simp, by (repeat' (first | (with_reducible exact Below.refl _ _) | (with_reducible assumption) | (with_reducible refine below_drewN ?_ _) | (with_reducible refine Below.alloc ?_ ?_ _) | (with_reducible refine Below.drew ?_) | (with_reducible refine Below.setCell ?_ ?_ _) | go_size))⟩
set_option maxHeartbeats 4000000 in
theorem fnSymbolFlag_s4 (w : World) : Calls Try.prog 7 #[.int .i64 4, .bool true] w (LawEnd w) := by
  have hf : flags1 0 = .agg #[.bool false, .bool false, .bool false, .bool false, .bool false, .bool false, .bool false] := by simp [flags1, fl]; decide
  have hg : flags2 16 = .agg #[.bool false, .bool false, .bool false, .bool false, .bool true, .bool false, .bool false, .bool false] := by simp [flags2, fl]; decide
  have i0 : ∀ W, (Instr.index 39 (.agg #[.bool false, .bool false, .bool false, .bool false, .bool false, .bool false, .bool false]) (.int .i64 0)).run Try.prog W = .ok (.bool false) W := fun _ => by kernel_rfl
  have i1 : ∀ W, (Instr.index 39 (.agg #[.bool false, .bool false, .bool false, .bool false, .bool false, .bool false, .bool false]) (.int .i64 1)).run Try.prog W = .ok (.bool false) W := fun _ => by kernel_rfl
  have i2 : ∀ W, (Instr.index 39 (.agg #[.bool false, .bool false, .bool false, .bool false, .bool false, .bool false, .bool false]) (.int .i64 2)).run Try.prog W = .ok (.bool false) W := fun _ => by kernel_rfl
  have i3 : ∀ W, (Instr.index 39 (.agg #[.bool false, .bool false, .bool false, .bool false, .bool false, .bool false, .bool false]) (.int .i64 3)).run Try.prog W = .ok (.bool false) W := fun _ => by kernel_rfl
  have i4 : ∀ W, (Instr.index 39 (.agg #[.bool false, .bool false, .bool false, .bool false, .bool false, .bool false, .bool false]) (.int .i64 4)).run Try.prog W = .ok (.bool false) W := fun _ => by kernel_rfl
  have i5 : ∀ W, (Instr.index 39 (.agg #[.bool false, .bool false, .bool false, .bool false, .bool false, .bool false, .bool false]) (.int .i64 5)).run Try.prog W = .ok (.bool false) W := fun _ => by kernel_rfl
  have i6 : ∀ W, (Instr.index 39 (.agg #[.bool false, .bool false, .bool false, .bool false, .bool false, .bool false, .bool false]) (.int .i64 6)).run Try.prog W = .ok (.bool false) W := fun _ => by kernel_rfl
  have j0 : ∀ W, (Instr.index 40 (.agg #[.bool false, .bool false, .bool false, .bool false, .bool true, .bool false, .bool false, .bool false]) (.int .i64 0)).run Try.prog W = .ok (.bool false) W := fun _ => by kernel_rfl
  have j1 : ∀ W, (Instr.index 40 (.agg #[.bool false, .bool false, .bool false, .bool false, .bool true, .bool false, .bool false, .bool false]) (.int .i64 1)).run Try.prog W = .ok (.bool false) W := fun _ => by kernel_rfl
  have j2 : ∀ W, (Instr.index 40 (.agg #[.bool false, .bool false, .bool false, .bool false, .bool true, .bool false, .bool false, .bool false]) (.int .i64 2)).run Try.prog W = .ok (.bool false) W := fun _ => by kernel_rfl
  have j3 : ∀ W, (Instr.index 40 (.agg #[.bool false, .bool false, .bool false, .bool false, .bool true, .bool false, .bool false, .bool false]) (.int .i64 3)).run Try.prog W = .ok (.bool false) W := fun _ => by kernel_rfl
  have j4 : ∀ W, (Instr.index 40 (.agg #[.bool false, .bool false, .bool false, .bool false, .bool true, .bool false, .bool false, .bool false]) (.int .i64 4)).run Try.prog W = .ok (.bool true) W := fun _ => by kernel_rfl
  have j5 : ∀ W, (Instr.index 40 (.agg #[.bool false, .bool false, .bool false, .bool false, .bool true, .bool false, .bool false, .bool false]) (.int .i64 5)).run Try.prog W = .ok (.bool false) W := fun _ => by kernel_rfl
  have j6 : ∀ W, (Instr.index 40 (.agg #[.bool false, .bool false, .bool false, .bool false, .bool true, .bool false, .bool false, .bool false]) (.int .i64 6)).run Try.prog W = .ok (.bool false) W := fun _ => by kernel_rfl
  have j7 : ∀ W, (Instr.index 40 (.agg #[.bool false, .bool false, .bool false, .bool false, .bool true, .bool false, .bool false, .bool false]) (.int .i64 7)).run Try.prog W = .ok (.bool false) W := fun _ => by kernel_rfl
  have HF := Lib.hid hf
  have HG := Lib.hid hg
  clear hf hg
  go_enter Try.func7, Try.ntmps7
  go_wp2_with fail
  refine (symbolFlags_any 0 0 0 16 0 0 _ (by omega) (by omega) (by omega) (by omega) (by omega) (by omega)).mono ?_
  rintro e w1 ⟨rfl, hb1⟩
  rw [HF.out, HG.out]
  have hB := Lib.hid (below_from (by (repeat' (first | (with_reducible exact Below.refl _ _) | (with_reducible assumption) | (with_reducible refine below_drewN ?_ _) | (with_reducible refine Below.alloc ?_ ?_ _) | (with_reducible refine Below.drew ?_) | (with_reducible refine Below.setCell ?_ ?_ _) | go_size))) hb1 : Below w.heap.size w w1)
  have hz := hb1.size
  simp at hz
  clear hb1
  go_wp2_with fail
  refine wp_loop_rounds 8 ?_
  rw [rounds_succ]
  go_wp2_with fail
  rw [rounds_succ]
  go_wp2_with fail
  rw [rounds_succ]
  go_wp2_with fail
  rw [rounds_succ]
  go_wp2_with fail
  rw [rounds_succ]
  go_wp2_with fail
  rw [rounds_succ]
  go_wp2_with fail
  rw [rounds_succ]
  go_wp2_with fail
  rw [rounds_succ]
  go_wp2_with fail
  refine wp_loop_rounds 9 ?_
  rw [rounds_succ]
  go_wp2_with fail
  rw [rounds_succ]
  go_wp2_with fail
  rw [rounds_succ]
  go_wp2_with fail
  rw [rounds_succ]
  go_wp2_with fail
  rw [rounds_succ]
  go_wp2_with fail
  rw [rounds_succ]
  go_wp2_with fail
  rw [rounds_succ]
  go_wp2_with fail
  rw [rounds_succ]
  go_wp2_with fail
  rw [rounds_succ]
  go_wp2_with fail
  have hB := hB.out
  go_returns
  exact ⟨by simp, by (repeat' (first | (with_reducible exact Below.refl _ _) | (with_reducible assumption) | (with_reducible refine below_drewN ?_ _) | (with_reducible refine Below.alloc ?_ ?_ _) | (with_reducible refine Below.drew ?_) | (with_reducible refine Below.setCell ?_ ?_ _) | go_size))⟩
set_option maxHeartbeats 4000000 in
theorem fnSymbolFlag_s5 (w : World) : Calls Try.prog 7 #[.int .i64 5, .bool true] w (LawEnd w) := by
  have hf : flags1 0 = .agg #[.bool false, .bool false, .bool false, .bool false, .bool false, .bool false, .bool false] := by simp [flags1, fl]; decide
  have hg : flags2 32 = .agg #[.bool false, .bool false, .bool false, .bool false, .bool false, .bool true, .bool false, .bool false] := by simp [flags2, fl]; decide
  have i0 : ∀ W, (Instr.index 39 (.agg #[.bool false, .bool false, .bool false, .bool false, .bool false, .bool false, .bool false]) (.int .i64 0)).run Try.prog W = .ok (.bool false) W := fun _ => by kernel_rfl
  have i1 : ∀ W, (Instr.index 39 (.agg #[.bool false, .bool false, .bool false, .bool false, .bool false, .bool false, .bool false]) (.int .i64 1)).run Try.prog W = .ok (.bool false) W := fun _ => by kernel_rfl
  have i2 : ∀ W, (Instr.index 39 (.agg #[.bool false, .bool false, .bool false, .bool false, .bool false, .bool false, .bool false]) (.int .i64 2)).run Try.prog W = .ok (.bool false) W := fun _ => by kernel_rfl
  have i3 : ∀ W, (Instr.index 39 (.agg #[.bool false, .bool false, .bool false, .bool false, .bool false, .bool false, .bool false]) (.int .i64 3)).run Try.prog W = .ok (.bool false) W := fun _ => by kernel_rfl
  have i4 : ∀ W, (Instr.index 39 (.agg #[.bool false, .bool false, .bool false, .bool false, .bool false, .bool false, .bool false]) (.int .i64 4)).run Try.prog W = .ok (.bool false) W := fun _ => by kernel_rfl
  have i5 : ∀ W, (Instr.index 39 (.agg #[.bool false, .bool false, .bool false, .bool false, .bool false, .bool false, .bool false]) (.int .i64 5)).run Try.prog W = .ok (.bool false) W := fun _ => by kernel_rfl
  have i6 : ∀ W, (Instr.index 39 (.agg #[.bool false, .bool false, .bool false, .bool false, .bool false, .bool false, .bool false]) (.int .i64 6)).run Try.prog W = .ok (.bool false) W := fun _ => by kernel_rfl
  have j0 : ∀ W, (Instr.index 40 (.agg #[.bool false, .bool false, .bool false, .bool false, .bool false, .bool true, .bool false, .bool false]) (.int .i64 0)).run Try.prog W = .ok (.bool false) W := fun _ => by kernel_rfl
  have j1 : ∀ W, (Instr.index 40 (.agg #[.bool false, .bool false, .bool false, .bool false, .bool false, .bool true, .bool false, .bool false]) (.int .i64 1)).run Try.prog W = .ok (.bool false) W := fun _ => by kernel_rfl
  have j2 : ∀ W, (Instr.index 40 (.agg #[.bool false, .bool false, .bool false, .bool false, .bool false, .bool true, .bool false, .bool false]) (.int .i64 2)).run Try.prog W = .ok (.bool false) W := fun _ => by kernel_rfl
  have j3 : ∀ W, (Instr.index 40 (.agg #[.bool false, .bool false, .bool false, .bool false, .bool false, .bool true, .bool false, .bool false]) (.int .i64 3)).run Try.prog W = .ok (.bool false) W := fun _ => by kernel_rfl
  have j4 : ∀ W, (Instr.index 40 (.agg #[.bool false, .bool false, .bool false, .bool false, .bool false, .bool true, .bool false, .bool false]) (.int .i64 4)).run Try.prog W = .ok (.bool false) W := fun _ => by kernel_rfl
  have j5 : ∀ W, (Instr.index 40 (.agg #[.bool false, .bool false, .bool false, .bool false, .bool false, .bool true, .bool false, .bool false]) (.int .i64 5)).run Try.prog W = .ok (.bool true) W := fun _ => by kernel_rfl
  have j6 : ∀ W, (Instr.index 40 (.agg #[.bool false, .bool false, .bool false, .bool false, .bool false, .bool true, .bool false, .bool false]) (.int .i64 6)).run Try.prog W = .ok (.bool false) W := fun _ => by kernel_rfl
  have j7 : ∀ W, (Instr.index 40 (.agg #[.bool false, .bool false, .bool false, .bool false, .bool false, .bool true, .bool false, .bool false]) (.int .i64 7)).run Try.prog W = .ok (.bool false) W := fun _ => by kernel_rfl
  have HF := Lib.hid hf
  have HG := Lib.hid hg
  clear hf hg
  go_enter Try.func7, Try.ntmps7
  go_wp2_with fail
  refine (symbolFlags_any 0 0 0 32 0 0 _ (by omega) (by omega) (by omega) (by omega) (by omega) (by omega)).mono ?_
  rintro e w1 ⟨rfl, hb1⟩
  rw [HF.out, HG.out]
  have hB := Lib.hid (below_from (by (repeat' (first | (with_reducible exact Below.refl _ _) | (with_reducible assumption) | (with_reducible refine below_drewN ?_ _) | (with_reducible refine Below.alloc ?_ ?_ _) | (with_reducible refine Below.drew ?_) | (with_reducible refine Below.setCell ?_ ?_ _) | go_size))) hb1 : Below w.heap.size w w1)
  have hz := hb1.size
  simp at hz
  clear hb1
  go_wp2_with fail
  refine wp_loop_rounds 8 ?_
  rw [rounds_succ]
  go_wp2_with fail
  rw [rounds_succ]
  go_wp2_with fail
  rw [rounds_succ]
  go_wp2_with fail
  rw [rounds_succ]
  go_wp2_with fail
  rw [rounds_succ]
  go_wp2_with fail
  rw [rounds_succ]
  go_wp2_with fail
  rw [rounds_succ]
  go_wp2_with fail
  rw [rounds_succ]
  go_wp2_with fail
  refine wp_loop_rounds 9 ?_
  rw [rounds_succ]
  go_wp2_with fail
  rw [rounds_succ]
  go_wp2_with fail
  rw [rounds_succ]
  go_wp2_with fail
  rw [rounds_succ]
  go_wp2_with fail
  rw [rounds_succ]
  go_wp2_with fail
  rw [rounds_succ]
  go_wp2_with fail
  rw [rounds_succ]
  go_wp2_with fail
  rw [rounds_succ]
  go_wp2_with fail
  rw [rounds_succ]
  go_wp2_with fail
  have hB := hB.out
  go_returns
  exact ⟨by simp, by (repeat' (first | (with_reducible exact Below.refl _ _) | (with_reducible assumption) | (with_reducible refine below_drewN ?_ _) | (with_reducible refine Below.alloc ?_ ?_ _) | (with_reducible refine Below.drew ?_) | (with_reducible refine Below.setCell ?_ ?_ _) | go_size))⟩
set_option maxHeartbeats 4000000 in
theorem fnSymbolFlag_s6 (w : World) : Calls Try.prog 7 #[.int .i64 6, .bool true] w (LawEnd w) := by
  have hf : flags1 0 = .agg #[.bool false, .bool false, .bool false, .bool false, .bool false, .bool false, .bool false] := by simp [flags1, fl]; decide
  have hg : flags2 64 = .agg #[.bool false, .bool false, .bool false, .bool false, .bool false, .bool false, .bool true, .bool false] := by simp [flags2, fl]; decide
  have i0 : ∀ W, (Instr.index 39 (.agg #[.bool false, .bool false, .bool false, .bool false, .bool false, .bool false, .bool false]) (.int .i64 0)).run Try.prog W = .ok (.bool false) W := fun _ => by kernel_rfl
  have i1 : ∀ W, (Instr.index 39 (.agg #[.bool false, .bool false, .bool false, .bool false, .bool false, .bool false, .bool false]) (.int .i64 1)).run Try.prog W = .ok (.bool false) W := fun _ => by kernel_rfl
  have i2 : ∀ W, (Instr.index 39 (.agg #[.bool false, .bool false, .bool false, .bool false, .bool false, .bool false, .bool false]) (.int .i64 2)).run Try.prog W = .ok (.bool false) W := fun _ => by kernel_rfl
  have i3 : ∀ W, (Instr.index 39 (.agg #[.bool false, .bool false, .bool false, .bool false, .bool false, .bool false, .bool false]) (.int .i64 3)).run Try.prog W = .ok (.bool false) W := fun _ => by kernel_rfl
  have i4 : ∀ W, (Instr.index 39 (.agg #[.bool false, .bool false, .bool false, .bool false, .bool false, .bool false, .bool false]) (.int .i64 4)).run Try.prog W = .ok (.bool false) W := fun _ => by kernel_rfl
  have i5 : ∀ W, (Instr.index 39 (.agg #[.bool false, .bool false, .bool false, .bool false, .bool false, .bool false, .bool false]) (.int .i64 5)).run Try.prog W = .ok (.bool false) W := fun _ => by kernel_rfl
  have i6 : ∀ W, (Instr.index 39 (.agg #[.bool false, .bool false, .bool false, .bool false, .bool false, .bool false, .bool false]) (.int .i64 6)).run Try.prog W = .ok (.bool false) W := fun _ => by kernel_rfl
  have j0 : ∀ W, (Instr.index 40 (.agg #[.bool false, .bool false, .bool false, .bool false, .bool false, .bool false, .bool true, .bool false]) (.int .i64 0)).run Try.prog W = .ok (.bool false) W := fun _ => by kernel_rfl
  have j1 : ∀ W, (Instr.index 40 (.agg #[.bool false, .bool false, .bool false, .bool false, .bool false, .bool false, .bool true, .bool false]) (.int .i64 1)).run Try.prog W = .ok (.bool false) W := fun _ => by kernel_rfl
  have j2 : ∀ W, (Instr.index 40 (.agg #[.bool false, .bool false, .bool false, .bool false, .bool false, .bool false, .bool true, .bool false]) (.int .i64 2)).run Try.prog W = .ok (.bool false) W := fun _ => by kernel_rfl
  have j3 : ∀ W, (Instr.index 40 (.agg #[.bool false, .bool false, .bool false, .bool false, .bool false, .bool false, .bool true, .bool false]) (.int .i64 3)).run Try.prog W = .ok (.bool false) W := fun _ => by kernel_rfl
  have j4 : ∀ W, (Instr.index 40 (.agg #[.bool false, .bool false, .bool false, .bool false, .bool false, .bool false, .bool true, .bool false]) (.int .i64 4)).run Try.prog W = .ok (.bool false) W := fun _ => by kernel_rfl
  have j5 : ∀ W, (Instr.index 40 (.agg #[.bool false, .bool false, .bool false, .bool false, .bool false, .bool false, .bool true, .bool false]) (.int .i64 5)).run Try.prog W = .ok (.bool false) W := fun _ => by kernel_rfl
  have j6 : ∀ W, (Instr.index 40 (.agg #[.bool false, .bool false, .bool false, .bool false, .bool false, .bool false, .bool true, .bool false]) (.int .i64 6)).run Try.prog W = .ok (.bool true) W := fun _ => by kernel_rfl
  have j7 : ∀ W, (Instr.index 40 (.agg #[.bool false, .bool false, .bool false, .bool false, .bool false, .bool false, .bool true, .bool false]) (.int .i64 7)).run Try.prog W = .ok (.bool false) W := fun _ => by kernel_rfl
  have HF := Lib.hid hf
  have HG := Lib.hid hg
  clear hf hg
  go_enter Try.func7, Try.ntmps7
  go_wp2_with fail
  refine (symbolFlags_any 0 0 0 64 0 0 _ (by omega) (by omega) (by omega) (by omega) (by omega) (by omega)).mono ?_
  rintro e w1 ⟨rfl, hb1⟩
  rw [HF.out, HG.out]
  have hB := Lib.hid (below_from (by (repeat' (first | (with_reducible exact Below.refl _ _) | (with_reducible assumption) | (with_reducible refine below_drewN ?_ _) | (with_reducible refine Below.alloc ?_ ?_ _) | (with_reducible refine Below.drew ?_) | (with_reducible refine Below.setCell ?_ ?_ _) | go_size))) hb1 : Below w.heap.size w w1)
  have hz := hb1.size
  simp at hz
  clear hb1
  go_wp2_with fail
  refine wp_loop_rounds 8 ?_
  rw [rounds_succ]
  go_wp2_with fail
  rw [rounds_succ]
  go_wp2_with fail
  rw [rounds_succ]
  go_wp2_with fail
  rw [rounds_succ]
  go_wp2_with fail
  rw [rounds_succ]
  go_wp2_with fail
  rw [rounds_succ]
  go_wp2_with fail
  rw [rounds_succ]
  go_wp2_with fail
  rw [rounds_succ]
  go_wp2_with fail
  refine wp_loop_rounds 9 ?_
  rw [rounds_succ]
  go_wp2_with fail
  rw [rounds_succ]
  go_wp2_with fail
  rw [rounds_succ]
  go_wp2_with fail
  rw [rounds_succ]
  go_wp2_with fail
  rw [rounds_succ]
  go_wp2_with fail
  rw [rounds_succ]
  go_wp2_with fail
  rw [rounds_succ]
  go_wp2_with fail
  rw [rounds_succ]
  go_wp2_with fail
  rw [rounds_succ]
  go_wp2_with fail
  have hB := hB.out
  go_returns
  exact ⟨by simp, by (repeat' (first | (with_reducible exact Below.refl _ _) | (with_reducible assumption) | (with_reducible refine below_drewN ?_ _) | (with_reducible refine Below.alloc ?_ ?_ _) | (with_reducible refine Below.drew ?_) | (with_reducible refine Below.setCell ?_ ?_ _) | go_size))⟩
set_option maxHeartbeats 4000000 in
theorem fnSymbolFlag_s7 (w : World) : Calls Try.prog 7 #[.int .i64 7, .bool true] w (LawEnd w) := by
  have hf : flags1 0 = .agg #[.bool false, .bool false, .bool false, .bool false, .bool false, .bool false, .bool false] := by simp [flags1, fl]; decide
  have hg : flags2 128 = .agg #[.bool false, .bool false, .bool false, .bool false, .bool false, .bool false, .bool false, .bool true] := by simp [flags2, fl]; decide
  have i0 : ∀ W, (Instr.index 39 (.agg #[.bool false, .bool false, .bool false, .bool false, .bool false, .bool false, .bool false]) (.int .i64 0)).run Try.prog W = .ok (.bool false) W := fun _ => by kernel_rfl
  have i1 : ∀ W, (Instr.index 39 (.agg #[.bool false, .bool false, .bool false, .bool false, .bool false, .bool false, .bool false]) (.int .i64 1)).run Try.prog W = .ok (.bool false) W := fun _ => by kernel_rfl
  have i2 : ∀ W, (Instr.index 39 (.agg #[.bool false, .bool false, .bool false, .bool false, .bool false, .bool false, .bool false]) (.int .i64 2)).run Try.prog W = .ok (.bool false) W := fun _ => by kernel_rfl
  have i3 : ∀ W, (Instr.index 39 (.agg #[.bool false, .bool false, .bool false, .bool false, .bool false, .bool false, .bool false]) (.int .i64 3)).run Try.prog W = .ok (.bool false) W := fun _ => by kernel_rfl
  have i4 : ∀ W, (Instr.index 39 (.agg #[.bool false, .bool false, .bool false, .bool false, .bool false, .bool false, .bool false]) (.int .i64 4)).run Try.prog W = .ok (.bool false) W := fun _ => by kernel_rfl
  have i5 : ∀ W, (Instr.index 39 (.agg #[.bool false, .bool false, .bool false, .bool false, .bool false, .bool false, .bool false]) (.int .i64 5)).run Try.prog W = .ok (.bool false) W := fun _ => by kernel_rfl
  have i6 : ∀ W, (Instr.index 39 (.agg #[.bool false, .bool false, .bool false, .bool false, .bool false, .bool false, .bool false]) (.int .i64 6)).run Try.prog W = .ok (.bool false) W := fun _ => by kernel_rfl
  have j0 : ∀ W, (Instr.index 40 (.agg #[.bool false, .bool false, .bool false, .bool false, .bool false, .bool false, .bool false, .bool true]) (.int .i64 0)).run Try.prog W = .ok (.bool false) W := fun _ => by kernel_rfl
  have j1 : ∀ W, (Instr.index 40 (.agg #[.bool false, .bool false, .bool false, .bool false, .bool false, .bool false, .bool false, .bool true]) (.int .i64 1)).run Try.prog W = .ok (.bool false) W := fun _ => by kernel_rfl
  have j2 : ∀ W, (Instr.index 40 (.agg #[.bool false, .bool false, .bool false, .bool false, .bool false, .bool false, .bool false, .bool true]) (.int .i64 2)).run Try.prog W = .ok (.bool false) W := fun _ => by kernel_rfl
  have j3 : ∀ W, (Instr.index 40 (.agg #[.bool false, .bool false, .bool false, .bool false, .bool false, .bool false, .bool false, .bool true]) (.int .i64 3)).run Try.prog W = .ok (.bool false) W := fun _ => by kernel_rfl
  have j4 : ∀ W, (Instr.index 40 (.agg #[.bool false, .bool false, .bool false, .bool false, .bool false, .bool false, .bool false, .bool true]) (.int .i64 4)).run Try.prog W = .ok (.bool false) W := fun _ => by kernel_rfl
  have j5 : ∀ W, (Instr.index 40 (.agg #[.bool false, .bool false, .bool false, .bool false, .bool false, .bool false, .bool false, .bool true]) (.int .i64 5)).run Try.prog W = .ok (.bool false) W := fun _ => by kernel_rfl
  have j6 : ∀ W, (Instr.index 40 (.agg #[.bool false, .bool false, .bool false, .bool false, .bool false, .bool false, .bool false, .bool true]) (.int .i64 6)).run Try.prog W = .ok (.bool false) W := fun _ => by kernel_rfl
  have j7 : ∀ W, (Instr.index 40 (.agg #[.bool false, .bool false, .bool false, .bool false, .bool false, .bool false, .bool false, .bool true]) (.int .i64 7)).run Try.prog W = .ok (.bool true) W := fun _ => by kernel_rfl
  have HF := Lib.hid hf
  have HG := Lib.hid hg
  clear hf hg
  go_enter Try.func7, Try.ntmps7
  go_wp2_with fail
  refine (symbolFlags_any 0 0 0 128 0 0 _ (by omega) (by omega) (by omega) (by omega) (by omega) (by omega)).mono ?_
  rintro e w1 ⟨rfl, hb1⟩
  rw [HF.out, HG.out]
  have hB := Lib.hid (below_from (by (repeat' (first | (with_reducible exact Below.refl _ _) | (with_reducible assumption) | (with_reducible refine below_drewN ?_ _) | (with_reducible refine Below.alloc ?_ ?_ _) | (with_reducible refine Below.drew ?_) | (with_reducible refine Below.setCell ?_ ?_ _) | go_size))) hb1 : Below w.heap.size w w1)
  have hz := hb1.size
  simp at hz
  clear hb1
  go_wp2_with fail
  refine wp_loop_rounds 8 ?_
  rw [rounds_succ]
  go_wp2_with fail
  rw [rounds_succ]
  go_wp2_with fail
  rw [rounds_succ]
  go_wp2_with fail
  rw [rounds_succ]
  go_wp2_with fail
  rw [rounds_succ]
  go_wp2_with fail
  rw [rounds_succ]
  go_wp2_with fail
  rw [rounds_succ]
  go_wp2_with fail
  rw [rounds_succ]
  go_wp2_with fail
  refine wp_loop_rounds 9 ?_
  rw [rounds_succ]
  go_wp2_with fail
  rw [rounds_succ]
  go_wp2_with fail
  rw [rounds_succ]
  go_wp2_with fail
  rw [rounds_succ]
  go_wp2_with fail
  rw [rounds_succ]
  go_wp2_with fail
  rw [rounds_succ]
  go_wp2_with fail
  rw [rounds_succ]
  go_wp2_with fail
  rw [rounds_succ]
  go_wp2_with fail
  rw [rounds_succ]
  go_wp2_with fail
  have hB := hB.out
  go_returns
  exact ⟨by simp, by (repeat' (first | (with_reducible exact Below.refl _ _) | (with_reducible assumption) | (with_reducible refine below_drewN ?_ _) | (with_reducible refine Below.alloc ?_ ?_ _) | (with_reducible refine Below.drew ?_) | (with_reducible refine Below.setCell ?_ ?_ _) | go_size))⟩
end Go.Proofs.Ytnnhdoocklaeoaa
