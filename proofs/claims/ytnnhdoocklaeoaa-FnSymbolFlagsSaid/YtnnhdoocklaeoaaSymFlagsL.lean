/- The laws on the flags of a symbol: the walks. -/
import Derived.Test.YtnnhdoocklaeoaaSymFlags
namespace Go.Proofs.Ytnnhdoocklaeoaa
open Go.RowKit

set_option maxHeartbeats 4000000 in
theorem fnSymbolFlags_any (a k f f2 sz al : Int) (w : World) (ba : 0 ≤ a ∧ a < 65536) (_ : 0 ≤ k ∧ k < 256) (_ : 0 ≤ f ∧ f < 256) (_ : 0 ≤ f2 ∧ f2 < 256) (bs : 0 ≤ sz ∧ sz < 4294967296) (bl : 0 ≤ al ∧ al < 4294967296) :
    Calls Try.prog 8 #[symVal a k f f2 sz al] w (LawEnd w) := by
  unfold symVal
  have i0 : ∀ W, (Instr.index 44 (.agg #[.int .u8 1, .int .u8 2, .int .u8 4, .int .u8 8, .int .u8 16, .int .u8 32, .int .u8 64]) (.int .i64 0)).run Try.prog W = .ok (.int .u8 1) W := fun _ => by kernel_rfl
  have i1 : ∀ W, (Instr.index 44 (.agg #[.int .u8 1, .int .u8 2, .int .u8 4, .int .u8 8, .int .u8 16, .int .u8 32, .int .u8 64]) (.int .i64 1)).run Try.prog W = .ok (.int .u8 2) W := fun _ => by kernel_rfl
  have i2 : ∀ W, (Instr.index 44 (.agg #[.int .u8 1, .int .u8 2, .int .u8 4, .int .u8 8, .int .u8 16, .int .u8 32, .int .u8 64]) (.int .i64 2)).run Try.prog W = .ok (.int .u8 4) W := fun _ => by kernel_rfl
  have i3 : ∀ W, (Instr.index 44 (.agg #[.int .u8 1, .int .u8 2, .int .u8 4, .int .u8 8, .int .u8 16, .int .u8 32, .int .u8 64]) (.int .i64 3)).run Try.prog W = .ok (.int .u8 8) W := fun _ => by kernel_rfl
  have i4 : ∀ W, (Instr.index 44 (.agg #[.int .u8 1, .int .u8 2, .int .u8 4, .int .u8 8, .int .u8 16, .int .u8 32, .int .u8 64]) (.int .i64 4)).run Try.prog W = .ok (.int .u8 16) W := fun _ => by kernel_rfl
  have i5 : ∀ W, (Instr.index 44 (.agg #[.int .u8 1, .int .u8 2, .int .u8 4, .int .u8 8, .int .u8 16, .int .u8 32, .int .u8 64]) (.int .i64 5)).run Try.prog W = .ok (.int .u8 32) W := fun _ => by kernel_rfl
  have i6 : ∀ W, (Instr.index 44 (.agg #[.int .u8 1, .int .u8 2, .int .u8 4, .int .u8 8, .int .u8 16, .int .u8 32, .int .u8 64]) (.int .i64 6)).run Try.prog W = .ok (.int .u8 64) W := fun _ => by kernel_rfl
  have j0 : ∀ W, (Instr.index 22 (.agg #[.int .u8 1, .int .u8 2, .int .u8 4, .int .u8 8, .int .u8 16, .int .u8 32, .int .u8 64, .int .u8 128]) (.int .i64 0)).run Try.prog W = .ok (.int .u8 1) W := fun _ => by kernel_rfl
  have j1 : ∀ W, (Instr.index 22 (.agg #[.int .u8 1, .int .u8 2, .int .u8 4, .int .u8 8, .int .u8 16, .int .u8 32, .int .u8 64, .int .u8 128]) (.int .i64 1)).run Try.prog W = .ok (.int .u8 2) W := fun _ => by kernel_rfl
  have j2 : ∀ W, (Instr.index 22 (.agg #[.int .u8 1, .int .u8 2, .int .u8 4, .int .u8 8, .int .u8 16, .int .u8 32, .int .u8 64, .int .u8 128]) (.int .i64 2)).run Try.prog W = .ok (.int .u8 4) W := fun _ => by kernel_rfl
  have j3 : ∀ W, (Instr.index 22 (.agg #[.int .u8 1, .int .u8 2, .int .u8 4, .int .u8 8, .int .u8 16, .int .u8 32, .int .u8 64, .int .u8 128]) (.int .i64 3)).run Try.prog W = .ok (.int .u8 8) W := fun _ => by kernel_rfl
  have j4 : ∀ W, (Instr.index 22 (.agg #[.int .u8 1, .int .u8 2, .int .u8 4, .int .u8 8, .int .u8 16, .int .u8 32, .int .u8 64, .int .u8 128]) (.int .i64 4)).run Try.prog W = .ok (.int .u8 16) W := fun _ => by kernel_rfl
  have j5 : ∀ W, (Instr.index 22 (.agg #[.int .u8 1, .int .u8 2, .int .u8 4, .int .u8 8, .int .u8 16, .int .u8 32, .int .u8 64, .int .u8 128]) (.int .i64 5)).run Try.prog W = .ok (.int .u8 32) W := fun _ => by kernel_rfl
  have j6 : ∀ W, (Instr.index 22 (.agg #[.int .u8 1, .int .u8 2, .int .u8 4, .int .u8 8, .int .u8 16, .int .u8 32, .int .u8 64, .int .u8 128]) (.int .i64 6)).run Try.prog W = .ok (.int .u8 64) W := fun _ => by kernel_rfl
  have j7 : ∀ W, (Instr.index 22 (.agg #[.int .u8 1, .int .u8 2, .int .u8 4, .int .u8 8, .int .u8 16, .int .u8 32, .int .u8 64, .int .u8 128]) (.int .i64 7)).run Try.prog W = .ok (.int .u8 128) W := fun _ => by kernel_rfl
  go_enter Try.func8, Try.ntmps8
  go_wp2_with fail
  refine (symbolFlags_any a k f f2 sz al _ ba.1 ba.2 bs.1 bs.2 bl.1 bl.2).mono ?_
  rintro e w1 ⟨rfl, hb1⟩
  have r1 := (Blk.new w _ _).here hb1
  have hc1 := r1.cell
  have hB := Lib.hid (below_from (by (repeat' (first | (with_reducible exact Below.refl _ _) | (with_reducible assumption) | (with_reducible refine below_drewN ?_ _) | (with_reducible refine Below.alloc ?_ ?_ _) | (with_reducible refine Below.drew ?_) | (with_reducible refine Below.setCell ?_ ?_ _) | go_size)) : Below w.heap.size w (w.alloc _)) hb1)
  have hz : w.heap.size < w1.heap.size := r1.lt
  clear r1 hb1
  unfold flags1 flags2 fl
  go_wp2_with fail
  refine wp_loop_rounds 8 ?_
  rw [rounds_succ]
  go_wp2_with fail
  go_quiet (fail)
  go_wp2_with fail
  rw [rounds_succ]
  go_wp2_with fail
  go_quiet (fail)
  go_wp2_with fail
  rw [rounds_succ]
  go_wp2_with fail
  go_quiet (fail)
  go_wp2_with fail
  rw [rounds_succ]
  go_wp2_with fail
  go_quiet (fail)
  go_wp2_with fail
  rw [rounds_succ]
  go_wp2_with fail
  go_quiet (fail)
  go_wp2_with fail
  rw [rounds_succ]
  go_wp2_with fail
  go_quiet (fail)
  go_wp2_with fail
  rw [rounds_succ]
  go_wp2_with fail
  go_quiet (fail)
  go_wp2_with fail
  rw [rounds_succ]
  go_wp2_with fail
  refine wp_loop_rounds 9 ?_
  rw [rounds_succ]
  go_wp2_with fail
  go_quiet (fail)
  go_wp2_with fail
  rw [rounds_succ]
  go_wp2_with fail
  go_quiet (fail)
  go_wp2_with fail
  rw [rounds_succ]
  go_wp2_with fail
  go_quiet (fail)
  go_wp2_with fail
  rw [rounds_succ]
  go_wp2_with fail
  go_quiet (fail)
  go_wp2_with fail
  rw [rounds_succ]
  go_wp2_with fail
  go_quiet (fail)
  go_wp2_with fail
  rw [rounds_succ]
  go_wp2_with fail
  go_quiet (fail)
  go_wp2_with fail
  rw [rounds_succ]
  go_wp2_with fail
  go_quiet (fail)
  go_wp2_with fail
  rw [rounds_succ]
  go_wp2_with fail
  go_quiet (fail)
  go_wp2_with fail
  rw [rounds_succ]
  go_wp2_with fail
  have hB := hB.out
  go_returns
  exact ⟨by simp, by (repeat' (first | (with_reducible exact Below.refl _ _) | (with_reducible assumption) | (with_reducible refine below_drewN ?_ _) | (with_reducible refine Below.alloc ?_ ?_ _) | (with_reducible refine Below.drew ?_) | (with_reducible refine Below.setCell ?_ ?_ _) | go_size))⟩

end Go.Proofs.Ytnnhdoocklaeoaa
