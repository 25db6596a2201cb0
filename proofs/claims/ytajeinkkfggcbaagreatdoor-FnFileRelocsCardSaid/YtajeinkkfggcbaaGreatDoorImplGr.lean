/- What is read out of an object file: relocations, as lists. (printed by gen_implg.py) -/
import Derived.Test.YtajeinkkfggcbaaGreatDoorImplFr
import Derived.Test.YtajeinkkfggcbaaGreatDoorImplG
namespace Go.Proofs.YtajeinkkfggcbaaGreatDoor
open Go.RowKit
theorem Tryz.infoEReloc : (Tryz.prog.info? 53).map (fun i => (i.zero, i.size, i.bytes)) = some (some (.agg #[.int .i32 0, .int .u8 0, .int .u16 0, .int .i64 0, .int .u32 0, .int .u32 0]), 6, 24) := by kernel_rfl
section
variable {f : FM} {d o n c : Nat} {w : World} (D : Dat f d o n c w)
include D
/-- What reading them leaves: a list that reads as them. -/
def ReadReloc (xs : List Rl) (w : World) (e : Ending) (w' : World) : Prop := ∃ A c', e = .returned (.slice A xs.length c') ∧ SlR 6 w' A (xs.map Rl.cells) ∧ Below w.heap.size w w'
set_option maxRecDepth 100000 in
set_option maxHeartbeats 1000000 in
theorem fileRelocs_any (i : Nat) (hi : i < f.all.length) (hok : ∀ x ∈ f.all[i].rs.l, x.Ok) : Calls Tryz.prog 10 #[.slice (some ⟨d, o, none⟩) n c, .int .u32 i] w (ReadReloc f.all[i].rs.l w) := by
  obtain ⟨i0, hi0, hz0, hz1, hz2⟩ := info_parts Tryz.infoEReloc
  have HD := Lib.hid D
  have hsz : f.all[i].rs.l.length ≤ 20 := by have := (D.S.data _ (List.getElem_mem hi)).2; omega
  have NN := Lib.hid (fun (W : World) (g : Nat) (R : Rdr f false g d o c W) => show Calls Tryz.prog 27 #[.pointer (some ⟨g, 0, none⟩), .int .u32 i] W (RetQ (.int .i64 (f.all[i].rs.l.length : Nat)) W) from rdNReloc_any R D.S i hi)
  have AX := Lib.hid (fun (W : World) (g : Nat) (R : Rdr f false g d o c W) j (hj : j < f.all[i].rs.l.length) => rdReloc_any R D.S i j hi hj)
  have HAS := Lib.hid (fun j (hj : j < f.all[i].rs.l.length) => FM.has_rel D.S i hi j hj)
  generalize f.at_ 14 + 23 * (cntK Df.nr f.all i + 0) = pp at *
  generalize f.all[i].rs.l = xs at *
  have OK := Lib.hid hok
  have i1 : (0 : Int) ≤ (xs.length : Int) := by omega
  have i2 : (xs.length : Int) ≤ 20 := by omega
  clear D hok
  go_enter Tryz.func10, Tryz.ntmps10
  go_wp2_with fail
  refine (HD.out.reader false).mono ?_
  rintro e w1 ⟨g, rfl, _, R1, hb1⟩
  have R := Lib.hid R1
  have B1 := Lib.hid hb1
  have D1 := Lib.hid (HD.out.here hb1)
  have zb := hb1.size
  clear R1 hb1
  have OW := Lib.hid (World.ownsRow_made (base := w1.heap.size) (e := 53) (size := 6) w1 #[] 0 (Nat.le_refl _) (by simp) (by simp))
  obtain ⟨w2, hw2⟩ : ∃ w2, w2 = w1.alloc (.cells #[] 53) := ⟨_, rfl⟩
  have HW2 := Lib.hid hw2
  have B2 := Lib.hid (show Below w1.heap.size w1 w2 from by rw [hw2]; exact later_alloc _ _)
  have R2 := Lib.hid (R.out.here B2.out)
  have OW2 := Lib.hid (show w2.ownsRow w1.heap.size 53 6 (.slice (some ⟨w1.heap.size, 0, none⟩) 0 0) 0 [] from by rw [hw2]; exact OW.out)
  clear hw2 OW
  go_wp2_with fail
  rw [← HW2.out]
  refine (NN.out _ _ R2.out).mono ?_
  rintro e w3 ⟨rfl, n3, rfl⟩
  have B3 := Lib.hid (below_drewN B2.out n3)
  go_wp2_with fail
  clear HW2
  go_loopw [6, 7, 14] (fun v _ i wr => ∃ k : Nat, k ≤ xs.length ∧ i = .int .i64 k ∧ wr.ownsRow w1.heap.size 53 6 v k ((xs.take k).flatMap Rl.cells) ∧ Below w1.heap.size w1 wr) (fun _ _ i _ => xs.length - (intOf i).toNat)
  case atStart => exact ⟨0, by omega, rfl, own_drewN OW2.out n3, B3.out⟩
  case round =>
    obtain ⟨k, hk, rfl, ho, hb⟩ := hrel
    have HO := Lib.hid ho
    have HB := Lib.hid hb
    have zs := hb.size
    by_cases hlt : k < xs.length
    · have CON := Lib.hid (AX.out wr g (R.out.here hb) k hlt)
      have HX := Lib.hid (fun (W : World) (hW : Dat f d o n c W) => hW.at_.has (HAS.out k hlt))
      have HOK := Lib.hid (OK.out _ (List.getElem_mem hlt))
      have HT := Lib.hid (show (xs.take (k + 1)).flatMap Rl.cells = (xs.take k).flatMap Rl.cells ++ Rl.cells xs[k] from by rw [List.take_succ_eq_append_getElem hlt, List.flatMap_append]; simp)
      generalize xs[k] = x at *
      generalize f.at_ 14 + 23 * (cntK Df.nr f.all i + k) = q at *
      have k0 : (0 : Int) ≤ (k : Int) := by omega
      have k1 : (k : Int) < 20 := by omega
      have k2 : (k : Int) < (xs.length : Int) := by omega
      clear ho hb
      go_wp2_with fail
      refine CON.out.mono ?_
      rintro e w4 ⟨rfl, n4, rfl⟩
      have B4 := Lib.hid (below_drewN HB.out n4)
      have D4 := Lib.hid (D1.out.here B4.out)
      go_wp2_with fail
      refine (toldReloc_at (o + q) d x _ (HX.out _ D4.out) D4.out.lt HOK.out).mono ?_
      rintro e w5 ⟨rfl, hb5⟩
      have B5 := Lib.hid (B4.out.trans (hb5.mono zs))
      have O5 := Lib.hid (own_here (own_drewN HO.out n4) hb5)
      have z5 := B5.out.size
      clear hb5 HO CON HX
      go_wp2_with (at_builtin; refine wpList_append_sl rfl _ _ 41 rfl w1.heap.size 53 i0 _ 6 24 Tryz.underlying41 hi0 hz0 hz1 hz2 rfl (by decide) _ k _ rfl (O5.out.alloc _) (some ⟨w5.heap.size, 0, none⟩) 1 1 (Rl.cells x) rfl rfl (src_new w5 _ _ _ rfl 1 _ (Below.refl _ _)) (by simp [Rl.cells, Value.oneCell']) (by unfold maxLen; omega) (by omega) (by simp; omega) ?_; intro A1 C1 w6 hown6 hgrow6)
      have B6 : Below w1.heap.size w1 w6 := (B5.out.alloc z5 _).grown hgrow6 (by simp; omega) (fun k hk => (O5.out.lt k hk).1)
      go_roundw
      case rel => exact ⟨k + 1, by omega, by go_num, by rw [HT.out]; exact hown6, B6⟩
      case measure => simp [intOf]; omega
    · obtain rfl : k = xs.length := by omega
      rw [List.take_length] at ho
      obtain ⟨A, C, rfl, hc⟩ := own_slice ho
      have HR := Lib.hid (show ReadReloc xs w (.returned (.slice A xs.length C)) wr from ⟨A, C, rfl, SlR.of_own ho (fun _ _ => rfl) rfl, below_from B1.out hb⟩)
      clear ho hb
      go_wp2_with fail
      go_ret
      exact HR.out
set_option maxRecDepth 100000 in
set_option maxHeartbeats 1000000 in
theorem fileAllRelocs_any (i : Nat) (hi : i < f.all.length) (hok : ∀ x ∈ f.all[i].rs.l, x.Ok) : Calls Tryz.prog 11 #[.slice (some ⟨d, o, none⟩) n c, .int .u32 i] w (ReadReloc f.all[i].rs.l w) := by
  obtain ⟨i0, hi0, hz0, hz1, hz2⟩ := info_parts Tryz.infoEReloc
  obtain ⟨w2, hw2⟩ : ∃ w2, w2 = w.alloc (.cells #[] 53) := ⟨_, rfl⟩
  have B2 := Lib.hid (show Below w.heap.size w w2 from by rw [hw2]; exact later_alloc _ _)
  have HD := Lib.hid (D.here B2.out)
  have OW2 := Lib.hid (show w2.ownsRow w.heap.size 53 6 (.slice (some ⟨w.heap.size, 0, none⟩) 0 0) 0 [] from by rw [hw2]; exact World.ownsRow_made (base := w.heap.size) (e := 53) (size := 6) w #[] 0 (Nat.le_refl _) (by simp) (by simp))
  have HW2 := Lib.hid hw2
  have hsz : f.all[i].rs.l.length ≤ 20 := by have := (D.S.data _ (List.getElem_mem hi)).2; omega
  have ALL := Lib.hid (fun (W : World) (g : Nat) (R : Rdr f false g d o c W) (hlt : g < W.heap.size ∧ d < W.heap.size) => rdRelocs_any R D.S i hi hlt)
  generalize f.all[i].rs.l = xs at *
  have OK := Lib.hid hok
  have i1 : (0 : Int) ≤ (xs.length : Int) := by omega
  have i2 : (xs.length : Int) ≤ 20 := by omega
  clear D hok hw2
  go_enter Tryz.func11, Tryz.ntmps11
  go_upto_region 2 with fail
  rw [← HW2.out]
  go_wp2_with fail
  refine (HD.out.reader false).mono ?_
  rintro e w3 ⟨g, rfl, _, R3, hb3⟩
  have B3 := Lib.hid (below_from B2.out hb3)
  have O3 := Lib.hid (own_here OW2.out hb3)
  have R := Lib.hid R3
  have hdl := (HD.out.here hb3).lt
  have HDL := Lib.hid (show g < w3.heap.size ∧ d < w3.heap.size from ⟨R3.lt, hdl⟩)
  have z3 := B3.out.size
  clear R3 hb3 hdl OW2 HD HW2
  go_wp2_with fail
  refine (ALL.out w3 g R.out HDL.out).mono ?_
  rintro e w4 ⟨g', rfl, hbk, hb4⟩
  have B4 := Lib.hid (below_from B3.out hb4)
  have O4 := Lib.hid (own_here O3.out hb4)
  have GB := Lib.hid hbk
  have z4 := B4.out.size
  have z43 := hb4.size
  clear hbk hb4 O3 R HDL
  go_wp2_with fail
  go_loopw [5, 7, 14] (fun v _ i wr => ∃ k : Nat, k ≤ xs.length ∧ i = .int .i64 k ∧ wr.ownsRow w.heap.size 53 6 v k ((xs.take k).flatMap Rl.cells) ∧ Below w.heap.size w wr ∧ Blk wr g' 93 (xs.flatMap fun x => bcs x.bytes).toArray) (fun _ _ i _ => xs.length - (intOf i).toNat)
  case atStart => exact ⟨0, by omega, rfl, O4.out, B4.out, GB.out⟩
  case round =>
    obtain ⟨k, hk, rfl, ho, hb, hgb⟩ := hrel
    have HB := Lib.hid hb
    have GB := Lib.hid hgb
    have hsl := SlR.of_blk (n := 23) hgb (fun x _ => by rw [bcs_length, x.bytes_length])
    have zs := hb.size
    by_cases hlt : k < xs.length
    · obtain ⟨bb, oo, he, hc⟩ := SlR.at_ hsl k hlt
      injection he with he1
      obtain ⟨rfl, rfl⟩ : g' = bb ∧ 0 = oo := by injection he1; constructor <;> assumption
      have HC := Lib.hid (show ∀ j v, (bcs xs[k].bytes)[j]? = some v → wr.cell? ⟨g', k * 23 + j, none⟩ = some v from fun j v hv => by have h := hc j v hv; rwa [Nat.zero_add] at h)
      have HOK := Lib.hid (OK.out _ (List.getElem_mem hlt))
      have HT := Lib.hid (show (xs.take (k + 1)).flatMap Rl.cells = (xs.take k).flatMap Rl.cells ++ Rl.cells xs[k] from by rw [List.take_succ_eq_append_getElem hlt, List.flatMap_append]; simp)
      have k0 : (0 : Int) ≤ (k : Int) := by omega
      have k1 : (k : Int) < 20 := by omega
      have k2 : (k : Int) < (xs.length : Int) := by omega
      clear hc he1
      generalize xs[k] = x at *
      have HBL := Lib.hid (show (bcs x.bytes).length = 23 from by rw [bcs_length, x.bytes_length])
      have I1 := Lib.hid (show (Tryz.prog.info? 93).map (·.size) = some (bcs x.bytes).length from by rw [HBL.out]; kernel_rfl)
      have XS := Lib.hid (show (bcs x.bytes).toArray.size = 23 from by rw [List.size_toArray, HBL.out])
      have I2 := Lib.hid (show (Tryz.prog.info? 93).map (·.size) = some (bcs x.bytes).toArray.size from by rw [XS.out]; kernel_rfl)
      have HOLD := Lib.hid (show (#[.int .u8 0, .int .u8 0, .int .u8 0, .int .u8 0, .int .u8 0, .int .u8 0, .int .u8 0, .int .u8 0, .int .u8 0, .int .u8 0, .int .u8 0, .int .u8 0, .int .u8 0, .int .u8 0, .int .u8 0, .int .u8 0, .int .u8 0, .int .u8 0, .int .u8 0, .int .u8 0, .int .u8 0, .int .u8 0, .int .u8 0] : Array Value).size = (bcs x.bytes).toArray.size from by rw [XS.out]; rfl)
      obtain ⟨w5, hw5⟩ : ∃ w5, w5 = wr.alloc (.cells #[.int .u8 0, .int .u8 0, .int .u8 0, .int .u8 0, .int .u8 0, .int .u8 0, .int .u8 0, .int .u8 0, .int .u8 0, .int .u8 0, .int .u8 0, .int .u8 0, .int .u8 0, .int .u8 0, .int .u8 0, .int .u8 0, .int .u8 0, .int .u8 0, .int .u8 0, .int .u8 0, .int .u8 0, .int .u8 0, .int .u8 0] 93) := ⟨_, rfl⟩
      have HW5 := Lib.hid hw5
      have BZ := Lib.hid (show Blk w5 wr.heap.size 93 #[.int .u8 0, .int .u8 0, .int .u8 0, .int .u8 0, .int .u8 0, .int .u8 0, .int .u8 0, .int .u8 0, .int .u8 0, .int .u8 0, .int .u8 0, .int .u8 0, .int .u8 0, .int .u8 0, .int .u8 0, .int .u8 0, .int .u8 0, .int .u8 0, .int .u8 0, .int .u8 0, .int .u8 0, .int .u8 0, .int .u8 0] from by rw [hw5]; exact Blk.new _ _ _)
      obtain ⟨w6, hw6⟩ : ∃ w6, w6 = w5.setRow wr.heap.size (bcs x.bytes).toArray := ⟨_, rfl⟩
      have HW6 := Lib.hid hw6
      have BK := Lib.hid (show Blk w6 wr.heap.size 93 (bcs x.bytes).toArray from by rw [hw6]; exact BZ.out.setRow _)
      have BW6 := Lib.hid (show Below wr.heap.size wr w6 from by
        rw [hw6]
        have h1 : Below wr.heap.size wr w5 := by rw [hw5]; exact later_alloc _ _
        exact ⟨h1.os, h1.tape, h1.output, by simpa using h1.size, fun j hj => (setRow_other _ _ _ _ (by omega)).trans (h1.block j hj)⟩)
      have B6 := Lib.hid (HB.out.trans (BW6.out.mono zs))
      have O6 := Lib.hid (own_here ho BW6.out)
      have AT6 := Lib.hid (show At w6 wr.heap.size 0 x.bytes from fun j z hz => by
        have h := BK.out.cell j
        rw [Nat.zero_add, h, List.getElem?_toArray, bcs, List.getElem?_map, hz]; rfl)
      have L6 := Lib.hid BK.out.lt
      clear ho hb hsl hw5 hw6 hgb
      go_wp2_with (first | (refine wpList_load_part rfl 93 (.tmp 16) rfl g' (k * 23) (by rfl) (bcs x.bytes) _ HC.out Tryz.underlying93 rfl I1.out ?_) | (refine Go.Great.wpList_allocTo rfl (some 7) (by rfl) (.pointer (some ⟨wr.heap.size, 0, none⟩)) (.cells #[.int .u8 0, .int .u8 0, .int .u8 0, .int .u8 0, .int .u8 0, .int .u8 0, .int .u8 0, .int .u8 0, .int .u8 0, .int .u8 0, .int .u8 0, .int .u8 0, .int .u8 0, .int .u8 0, .int .u8 0, .int .u8 0, .int .u8 0, .int .u8 0, .int .u8 0, .int .u8 0, .int .u8 0, .int .u8 0, .int .u8 0] 93) (by as_aux_lemma => kernel_rfl) ?_; rw [← HW5.out]) | (refine wpList_store_row rfl 93 (.tmp 7) (.tmp 17) rfl wr.heap.size (bcs x.bytes).toArray (by rfl) (by rfl) 93 #[.int .u8 0, .int .u8 0, .int .u8 0, .int .u8 0, .int .u8 0, .int .u8 0, .int .u8 0, .int .u8 0, .int .u8 0, .int .u8 0, .int .u8 0, .int .u8 0, .int .u8 0, .int .u8 0, .int .u8 0, .int .u8 0, .int .u8 0, .int .u8 0, .int .u8 0, .int .u8 0, .int .u8 0, .int .u8 0, .int .u8 0] BZ.out I2.out HOLD.out (bcs_all _) ?_; rw [← HW6.out]))
      refine (toldReloc_at 0 wr.heap.size x _ AT6.out L6.out HOK.out).mono ?_
      rintro e w7 ⟨rfl, hb7⟩
      have B7 := Lib.hid (B6.out.trans (hb7.mono B6.out.size))
      have O7 := Lib.hid (own_here O6.out hb7)
      have GB7 := Lib.hid (((GB.out.here BW6.out).here hb7).alloc (.cells (Rl.cells x).toArray 53))
      have z7 := B7.out.size
      have z76 := hb7.size
      clear hb7 O6 AT6 HC BZ BK HW5 HW6
      go_wp2_with (at_builtin; refine wpList_append_sl rfl _ _ 41 rfl w.heap.size 53 i0 _ 6 24 Tryz.underlying41 hi0 hz0 hz1 hz2 rfl (by decide) _ k _ rfl (O7.out.alloc _) (some ⟨w7.heap.size, 0, none⟩) 1 1 (Rl.cells x) rfl rfl (src_new w7 _ _ _ rfl 1 _ (Below.refl _ _)) (by simp [Rl.cells, Value.oneCell']) (by unfold maxLen; omega) (by omega) (by simp; omega) ?_; intro A1 C1 w8 hown8 hgrow8)
      have B8 : Below w.heap.size w w8 := (B7.out.alloc z7 _).grown hgrow8 (by simp; omega) (fun k hk => (O7.out.lt k hk).1)
      go_roundw
      case rel => exact ⟨k + 1, by omega, by go_num, by rw [HT.out]; exact hown8, B8, GB7.out.grown hgrow8 (own_ne_type (O7.out.alloc _) GB7.out (by decide))⟩
      case measure => simp [intOf]; omega
    · obtain rfl : k = xs.length := by omega
      rw [List.take_length] at ho
      obtain ⟨A, C, rfl, hc⟩ := own_slice ho
      have HR := Lib.hid (show ReadReloc xs w (.returned (.slice A xs.length C)) wr from ⟨A, C, rfl, SlR.of_own ho (fun _ _ => rfl) rfl, hb⟩)
      clear ho hb
      go_wp2_with fail
      go_ret
      exact HR.out
end
end Go.Proofs.YtajeinkkfggcbaaGreatDoor
