/- What is read out of an object file: the imports as a list. (printed by gen_implk.py) -/
import Derived.Test.YtimdaolbdgafcaaDoorImplJ
import Derived.Test.YtimdaolbdgafcaaDoorImplG
namespace Go.Proofs.YtimdaolbdgafcaaDoor
open Go.RowKit

theorem Tryd.infoIm : (Tryd.prog.info? 75).map (fun i => (i.zero, i.size, i.bytes)) = some (some (.agg (#[.string ⟨#[]⟩, .int .u8 0, .int .u8 0, .int .u8 0, .int .u8 0, .int .u8 0, .int .u8 0, .int .u8 0, .int .u8 0] : Array Value)), 9, 24) := by kernel_rfl
section
variable {f : FM} {d o n c : Nat} {w : World} (D : Dat f d o n c w)
include D
/-- What reading the imports leaves: a list that reads as them. -/
def ReadIms (xs : List Im) (w : World) (e : Ending) (w' : World) : Prop := ∃ A c', e = .returned (.slice A xs.length c') ∧ SlR 9 w' A (xs.map Im.cells) ∧ Below w.heap.size w w'
set_option maxRecDepth 100000 in
set_option maxHeartbeats 1000000 in
theorem fileImports_any (hf : ∀ x ∈ f.im.l, x.fp.length = 8) : Calls Tryd.prog 33 #[.slice (some ⟨d, o, none⟩) n c] w (ReadIms f.im.l w) := by
  obtain ⟨i0, hi0, hz0, hz1, hz2⟩ := info_parts Tryd.infoIm
  obtain ⟨w2, hw2⟩ : ∃ w2, w2 = w.alloc (.cells #[] 75) := ⟨_, rfl⟩
  have B2 := Lib.hid (show Below w.heap.size w w2 from by rw [hw2]; exact later_alloc _ _)
  have HD := Lib.hid (D.here B2.out)
  have OW2 := Lib.hid (show w2.ownsRow w.heap.size 75 9 (.slice (some ⟨w.heap.size, 0, none⟩) 0 0) 0 [] from by rw [hw2]; exact World.ownsRow_made (base := w.heap.size) (e := 75) (size := 9) w #[] 0 (Nat.le_refl _) (by simp) (by simp))
  have HW2 := Lib.hid hw2
  have hsz : f.im.l.length ≤ 60 := D.S.im
  have ALL := Lib.hid (fun (W : World) (g : Nat) (R : Rdr f false g d o c W) (hlt : d < W.heap.size) => rdAutolib_any R D.S hf hlt)
  generalize f.im.l = xs at *
  have HF := Lib.hid hf
  have HFL := Lib.hid (show ∀ x ∈ xs, (Im.cells x).length = 9 from fun x hx => by rw [Im.cells, List.length_cons, List.length_map, hf x hx])
  have i1 : (0 : Int) ≤ (xs.length : Int) := by omega
  have i2 : (xs.length : Int) ≤ 60 := by omega
  clear D hw2 hf
  go_enter Tryd.func33, Tryd.ntmps33
  go_upto_region 2 with fail
  rw [← HW2.out]
  go_wp2_with fail
  refine (HD.out.reader false).mono ?_
  rintro e w3 ⟨g, rfl, _, R3, hb3⟩
  have B3 := Lib.hid (below_from B2.out hb3)
  have O3 := Lib.hid (own_here OW2.out hb3)
  have R := Lib.hid R3
  have HDL := Lib.hid (HD.out.here hb3).lt
  have z3 := B3.out.size
  clear R3 hb3 OW2 HD HW2
  go_wp2_with fail
  refine (ALL.out w3 g R.out HDL.out).mono ?_
  rintro e w4 ⟨g', rfl, hbk, hb4⟩
  have B4 := Lib.hid (below_from B3.out hb4)
  have O4 := Lib.hid (own_here O3.out hb4)
  have GB := Lib.hid hbk
  have z4 := B4.out.size
  clear hbk hb4 O3 R HDL
  go_wp2_with fail
  go_loopw [3, 5, 11] (fun v _ i wr => ∃ k : Nat, k ≤ xs.length ∧ i = .int .i64 k ∧ wr.ownsRow w.heap.size 75 9 v k ((xs.take k).flatMap Im.cells) ∧ Below w.heap.size w wr ∧ Blk wr g' 132 (xs.flatMap Im.cells).toArray) (fun _ _ i _ => xs.length - (intOf i).toNat)
  case atStart => exact ⟨0, by omega, rfl, O4.out, B4.out, GB.out⟩
  case round =>
    obtain ⟨k, hk, rfl, ho, hb, hgb⟩ := hrel
    have HB := Lib.hid hb
    have GB := Lib.hid hgb
    have hsl := SlR.of_blk (n := 9) hgb HFL.out
    have zs := hb.size
    by_cases hlt : k < xs.length
    · obtain ⟨bb, oo, he, hc⟩ := SlR.at_ hsl k hlt
      injection he with he1
      obtain ⟨rfl, rfl⟩ : g' = bb ∧ 0 = oo := by injection he1; constructor <;> assumption
      have hf8 := HF.out _ (List.getElem_mem hlt)
      have HT := Lib.hid (show (xs.take (k + 1)).flatMap Im.cells = (xs.take k).flatMap Im.cells ++ Im.cells xs[k] from by rw [List.take_succ_eq_append_getElem hlt, List.flatMap_append]; simp)
      have k0 : (0 : Int) ≤ (k : Int) := by omega
      have k1 : (k : Int) < 60 := by omega
      have k2 : (k : Int) < (xs.length : Int) := by omega
      clear he1
      generalize xs[k] = x at *
      obtain ⟨s, fp⟩ := x
      obtain ⟨p0, p1, p2, p3, p4, p5, p6, p7, rfl⟩ := list8 hf8
      have HT := Lib.hid (show (xs.take (k + 1)).flatMap Im.cells = (xs.take k).flatMap Im.cells ++ [.string s, .int .u8 p0, .int .u8 p1, .int .u8 p2, .int .u8 p3, .int .u8 p4, .int .u8 p5, .int .u8 p6, .int .u8 p7] from HT.out)
      have q0 := hc 0 _ rfl
      have q1 := hc 1 _ rfl
      have q2 := hc 2 _ rfl
      have q3 := hc 3 _ rfl
      have q4 := hc 4 _ rfl
      have q5 := hc 5 _ rfl
      have q6 := hc 6 _ rfl
      have q7 := hc 7 _ rfl
      have q8 := hc 8 _ rfl
      rw [Nat.add_zero, Nat.zero_add] at q0
      rw [Nat.zero_add] at q1
      rw [Nat.zero_add] at q2
      rw [Nat.zero_add] at q3
      rw [Nat.zero_add] at q4
      rw [Nat.zero_add] at q5
      rw [Nat.zero_add] at q6
      rw [Nat.zero_add] at q7
      rw [Nat.zero_add] at q8
      obtain ⟨w5, hw5⟩ : ∃ w5, w5 = wr.alloc (.cells #[.string s, .int .u8 p0, .int .u8 p1, .int .u8 p2, .int .u8 p3, .int .u8 p4, .int .u8 p5, .int .u8 p6, .int .u8 p7] 132) := ⟨_, rfl⟩
      have HW5 := Lib.hid hw5
      have BA5 : Below wr.heap.size wr w5 := by rw [hw5]; exact later_alloc _ _
      have BK := Lib.hid (show Blk w5 wr.heap.size 132 #[.string s, .int .u8 p0, .int .u8 p1, .int .u8 p2, .int .u8 p3, .int .u8 p4, .int .u8 p5, .int .u8 p6, .int .u8 p7] from by rw [hw5]; exact Blk.new _ _ _)
      have B5 := Lib.hid (HB.out.trans (BA5.mono zs))
      have O5 := Lib.hid (own_here ho BA5)
      have GB5 := Lib.hid ((GB.out.here BA5).alloc (.cells #[.string s, .int .u8 p0, .int .u8 p1, .int .u8 p2, .int .u8 p3, .int .u8 p4, .int .u8 p5, .int .u8 p6, .int .u8 p7] 75))
      have z5 := B5.out.size
      have bk := BK.out.cell
      clear ho hb hsl hw5 hgb hc BA5
      go_upto_region 5 with fail
      rw [← HW5.out]
      clear q0 q1 q2 q3 q4 q5 q6 q7 q8
      go_wp2_with (at_builtin; refine wpList_append_sl rfl _ _ 24 rfl w.heap.size 75 i0 _ 9 24 Tryd.underlying24 hi0 hz0 hz1 hz2 rfl (by decide) _ k _ rfl (O5.out.alloc _) (some ⟨w5.heap.size, 0, none⟩) 1 1 [.string s, .int .u8 p0, .int .u8 p1, .int .u8 p2, .int .u8 p3, .int .u8 p4, .int .u8 p5, .int .u8 p6, .int .u8 p7] rfl rfl (src_new w5 _ _ _ rfl 1 _ (Below.refl _ _)) (by simp [Value.oneCell']) (by unfold maxLen; omega) (by omega) (by simp; omega) ?_; intro A1 C1 w6 hown6 hgrow6)
      have B6 : Below w.heap.size w w6 := (B5.out.alloc z5 _).grown hgrow6 (by simp; omega) (fun k hk => (O5.out.lt k hk).1)
      go_roundw
      case rel => exact ⟨k + 1, by omega, by go_num, by rw [HT.out]; exact hown6, B6, GB5.out.grown hgrow6 (own_ne_type (O5.out.alloc _) GB5.out (by decide))⟩
      case measure => simp [intOf]; omega
    · obtain rfl : k = xs.length := by omega
      rw [List.take_length] at ho
      obtain ⟨A, C, rfl, hc⟩ := own_slice ho
      have HR := Lib.hid (show ReadIms xs w (.returned (.slice A xs.length C)) wr from ⟨A, C, rfl, SlR.of_own ho HFL.out rfl, hb⟩)
      clear ho hb
      go_wp2_with fail
      go_ret
      exact HR.out
end
end Go.Proofs.YtimdaolbdgafcaaDoor
