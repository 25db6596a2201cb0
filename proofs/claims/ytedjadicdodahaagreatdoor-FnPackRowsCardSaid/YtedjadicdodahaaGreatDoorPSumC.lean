/- sha256: Sum. (printed by gen_psum.py) -/
import Derived.Laws.Externs
import Derived.Test.YtedjadicdodahaaGreatDoorQSum
import Derived.Test.YtedjadicdodahaaGreatDoorPEnC
namespace Go.Proofs.YtedjadicdodahaaGreatDoor
open Go.RowKit

set_option maxRecDepth 100000 in
theorem recordApproved_any (w : World) : Calls Tryz.prog 166 #[] w (RetQ (.tuple #[]) w) := by
  go_enter Tryz.func166, Tryz.ntmps166
  go_wp2
  rw [run_callFunc_extern Tryz.func169 (by kernel_rfl) (by kernel_rfl) (by kernel_rfl) (e := fun _ => pure (.int .u8 0)) (by kernel_rfl)]
  simp only [Sem.run_pure, Result.andThen]
  rw [Oper.upon_value]
  go_wp2
  rw [run_callFunc_extern Tryz.func170 (by kernel_rfl) (by kernel_rfl) (by kernel_rfl) (e := fun _ => pure (.tuple #[])) (by kernel_rfl)]
  simp only [Sem.run_pure, Result.andThen]
  rw [Oper.upon_value]
  go_wp2
  go_end0
  exact ⟨rfl, 0, rfl⟩
set_option maxRecDepth 1000000 in
set_option maxHeartbeats 4000000 in
theorem sum_any (K : List Int) (D : Dg) (dg : Nat) (w : World) (hK : K.length = 64) (hD : D.Ok) (hl : D.len ≤ 10000000000)
    (hd : Blk w dg 215 D.arr) (hk : Blk w 10 250 (K.map (Value.int .u32)).toArray) :
    Calls Tryz.prog 164 #[.pointer (some ⟨dg, 0, none⟩), .slice none 0 0] w fun e w' => ∃ g c, e = .returned (.slice (some ⟨g, 0, none⟩) 32 c) ∧ w.heap.size ≤ g ∧ (∀ j, j < 32 → w'.cell? ⟨g, j, none⟩ = (sumA K D)[j]?) ∧ Below w.heap.size w w' := by
  obtain ⟨A, hA⟩ : ∃ A, A = D.arr := ⟨_, rfl⟩
  have hsz : A.size = 75 := by rw [hA]; simp [hD.x]
  have I75 := Lib.hid (show (Tryz.prog.info? 215).map (·.size) = some A.size from by rw [hsz]; kernel_rfl)
  have Z75 := Lib.hid (show zDg.size = A.size from by rw [hsz]; rfl)
  have ON := Lib.hid (show A.all (·.oneCell') = true from by
    rw [hA, ← Array.all_toList]
    simp [Dg.rest, V8.cells, Value.oneCell'])
  obtain ⟨S, hS⟩ : ∃ S, S = sumA K D := ⟨_, rfl⟩
  have hss : S.size = 32 := by rw [hS]; exact sumOf_size _
  have I32 := Lib.hid (show (Tryz.prog.info? 242).map (·.size) = some S.size from by rw [hss]; kernel_rfl)
  have Z32 := Lib.hid (show z32.size = S.size from by rw [hss]; rfl)
  have OS := Lib.hid (show S.all (·.oneCell') = true from by rw [hS]; exact sumOf_one _)
  obtain ⟨i0, hj, jz0, jz1, jz2⟩ := info_parts (show (Tryz.prog.info? 5).map (fun i => (i.zero, i.size, i.bytes)) = some (some (.int .u8 0), 1, 1) by kernel_rfl)
  rw [← hA] at hd
  have HDR := Lib.hid hd
  have HKR := Lib.hid hk
  have HSS := Lib.hid hS
  have HAA := Lib.hid hA
  have c74 : A[74]? = some (.bool false) := by rw [hA]; exact (D.at_nx hD.x).2.2
  have C74 := Lib.hid c74
  clear hd hk hS hA c74
  go_enter Tryz.func164, Tryz.ntmps164
  go_wp2_with fail
  refine (recordApproved_any _).mono ?_
  rintro e w0 ⟨rfl, n0, hw0⟩
  have B0 := Lib.hid (show Below w.heap.size w w0 from by rw [hw0]; exact below_drewN (Below.refl _ _) n0)
  have D0 := Lib.hid (HDR.out.here B0.out)
  have K0 := Lib.hid (HKR.out.here B0.out)
  clear hw0
  obtain ⟨g1, hg1⟩ : ∃ g1, g1 = w0.heap.size := ⟨_, rfl⟩
  obtain ⟨w1, hw1⟩ : ∃ w1, w1 = w0.alloc (.cells zDg 215) := ⟨_, rfl⟩
  have Y1 := Lib.hid (show Blk w1 g1 215 zDg from by rw [hg1, hw1]; exact Blk.new _ _ _)
  obtain ⟨w2, hw2⟩ : ∃ w2, w2 = w1.setRow g1 A := ⟨_, rfl⟩
  have Y2 := Lib.hid (show Blk w2 g1 215 A from by rw [hw2]; exact setRow_heap _ _ _ _ _ _ Y1.out)
  have hg0 : w.heap.size ≤ g1 := by rw [hg1]; exact B0.out.size
  have F2 := Lib.hid (show Fr [] w w2 from by
    rw [hw2]
    exact fr_setRow (by rw [hw1]; exact (Fr.of_below B0.out).alloc _) (.inr hg0) _)
  have K2 := Lib.hid (HKR.out.fr F2.out (by simp))
  have W1 := Lib.hid hw1
  have W2 := Lib.hid hw2
  have G1 := Lib.hid hg1
  have CS := Lib.hid (checkSum_any K D g1 w2 hK hD hl (by rw [← HAA.out]; exact Y2.out) K2.out)
  clear hw1 hw2 hg1
  go_wp2_with (first | (refine wpList_load_row rfl 215 (.tmp 9) rfl dg rfl 215 A (0, 0) _ D0.out Tryz.underlying215 rfl I75.out ?_) | (refine Go.Great.wpList_allocTo rfl (some 5) (by rfl) (.pointer (some ⟨g1, 0, none⟩)) (.cells zDg 215) (by rw [G1.out]; as_aux_lemma => kernel_rfl) ?_; rw [← W1.out]) | (refine wpList_store_row rfl 215 (.tmp 5) (.tmp 10) rfl g1 A (by rfl) (by rfl) 215 zDg Y1.out I75.out Z75.out ON.out ?_; rw [← W2.out]))
  refine CS.out.mono ?_
  rintro e w3 ⟨rfl, f3, e74⟩
  rw [← HSS.out]
  obtain ⟨g3, hg3⟩ : ∃ g3, g3 = w3.heap.size := ⟨_, rfl⟩
  obtain ⟨w4, hw4⟩ : ∃ w4, w4 = w3.alloc (.cells z32 242) := ⟨_, rfl⟩
  have Y4 := Lib.hid (show Blk w4 g3 242 z32 from by rw [hg3, hw4]; exact Blk.new _ _ _)
  obtain ⟨w5, hw5⟩ : ∃ w5, w5 = w4.setRow g3 S := ⟨_, rfl⟩
  have Y5 := Lib.hid (show Blk w5 g3 242 S from by rw [hw5]; exact setRow_heap _ _ _ _ _ _ Y4.out)
  have f23 : Fr [] w w3 := F2.out.trans f3 (by simp; exact hg0)
  have hg30 : w.heap.size ≤ g3 := by rw [hg3]; exact f23.size
  have F5 := Lib.hid (show Fr [] w w5 from by
    rw [hw5]
    exact fr_setRow (by rw [hw4]; exact f23.alloc _) (.inr hg30) _)
  have W4 := Lib.hid hw4
  have W5 := Lib.hid hw5
  have G3 := Lib.hid hg3
  have E74 := Lib.hid (show w5.cell? ⟨g1, 74, none⟩ = some (.bool false) from by
    have h1 : w4.cell? ⟨g1, 74, none⟩ = some (.bool false) := by
      rw [hw4]
      exact keep_cell (Below.alloc (Below.refl _ _) (Nat.le_refl _) _) e74
    have hgg : g1 ≠ g3 := by
      have := World.block_lt_of_cell? w3 _ e74
      rw [hg3]
      show g1 ≠ w3.heap.size
      have h9 : g1 < w3.heap.size := this
      omega
    rw [hw5]
    exact (World.cell?_of_block (a := ⟨g1, 74, none⟩) (setRow_other _ _ _ _ hgg)).trans h1)
  clear hw4 hw5 hg3 f3 f23 e74
  have e74 := E74.out
  have RN := Lib.hid (Row.nil (fun k => w.heap.size ≤ k) 5 1 w5)
  have SL := Lib.hid (show S.toList.length = 32 * 1 from by rw [Array.length_toList, hss])
  have SRC := Lib.hid (show 0 < 32 → ∃ ad, some (⟨g3, 0, none⟩ : Addr) = some ad ∧ ∀ j u, S.toList[j]? = some u → w5.cell? (ad.add j) = some u from fun _ => ⟨_, rfl, fun j u hu => by rw [Lib.addr_add, Nat.zero_add, Y5.out.cell]; simpa using hu⟩)
  have SO := Lib.hid (show ∀ u ∈ S.toList, u.oneCell' = true from by have h9 := OS.out; rw [← Array.all_toList, List.all_eq_true] at h9; exact h9)
  have M1 := Lib.hid (show 0 + 32 ≤ maxLen from by unfold maxLen; omega)
  have M2 := Lib.hid (show (0 + 32) * 1 ≤ 140737488355328 from by omega)
  go_wp2_with (first | (refine Go.Great.wpList_allocTo rfl (some 6) (by rfl) (.pointer (some ⟨g3, 0, none⟩)) (.cells z32 242) (by rw [G3.out]; as_aux_lemma => kernel_rfl) ?_; rw [← W4.out]) | (refine wpList_store_row rfl 242 (.tmp 6) (.tmp 11) rfl g3 S (by rfl) (by rfl) 242 z32 Y4.out I32.out Z32.out OS.out ?_; rw [← W5.out]) | (refine wpList_append_row rfl _ _ 70 rfl (fun k => w.heap.size ≤ k) 5 i0 _ 1 1 Tryz.underlying70 hj jz0 jz1 jz2 rfl (by decide) (.slice none 0 0) 0 _ rfl RN.out _ 32 _ S.toList rfl SL.out SRC.out SO.out M1.out M2.out ?_; intro A2 C2 w6 hown2 hgrow2 hnew2))
  go_ret
  obtain ⟨g, rfl, hog, _, _, _, hcl⟩ := hown2.at (by rw [List.nil_append, SL.out]; decide)
  refine ⟨g, C2, rfl, ?_, fun j hj => ?_, F5.out.below.grown hgrow2 F5.out.size (fun k hk => by cases hk)⟩
  · rcases hog with h | h
    · exact h
    · exact Nat.le_trans F5.out.size h
  · rw [(hcl j (by rw [List.nil_append, SL.out]; omega)).1, List.nil_append, ← HSS.out]
    simp
end Go.Proofs.YtedjadicdodahaaGreatDoor
