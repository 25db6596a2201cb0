/- What is read out of an object file: names of packages and files, as lists. (printed by gen_impli.py) -/
import Derived.Test.YtimdaolbdgafcaaDoorImplH
import Derived.Test.YtimdaolbdgafcaaDoorAll
namespace Go.Proofs.YtimdaolbdgafcaaDoor
open Go.RowKit

set_option maxRecDepth 100000 in
theorem sameTexts_any (A B : Option Addr) (c d : Nat) (xs : List ByteArray) (w : World) (h1 : SlR 1 w A (xs.map strCells)) (h2 : SlR 1 w B (xs.map strCells)) (hx : xs.length ≤ 60) : Calls Tryd.prog 40 #[.slice A xs.length c, .slice B xs.length d] w (RetQ (.bool true) w) := by
  have H1 := Lib.hid h1
  have H2 := Lib.hid h2
  have i1 : (0 : Int) ≤ (xs.length : Int) := by omega
  have i2 : (xs.length : Int) ≤ 60 := by omega
  clear h1 h2
  go_enter Tryd.func40, Tryd.ntmps40
  go_wp2_with fail
  go_loopw [5, 6, 14] (fun _ _ i wr => ∃ k : Nat, k ≤ xs.length ∧ i = .int .i64 k ∧ wr = w) (fun _ _ i _ => xs.length - (intOf i).toNat)
  case atStart => exact ⟨0, by omega, rfl, rfl⟩
  case round =>
    obtain ⟨k, hk, rfl, rfl⟩ := hrel
    by_cases hlt : k < xs.length
    · obtain ⟨b1, o1, hA1, hc1⟩ := SlR.at_ H1.out k hlt
      obtain ⟨b2, o2, hA2, hc2⟩ := SlR.at_ H2.out k hlt
      have p0 := hc1 0 _ rfl
      have q0 := hc2 0 _ rfl
      rw [Nat.add_zero, Nat.mul_one] at p0 q0
      subst hA1 hA2
      generalize xs[k] = x at *
      have k0 : (0 : Int) ≤ (k : Int) := by omega
      have k1 : (k : Int) < 60 := by omega
      have k2 : (k : Int) < (xs.length : Int) := by omega
      clear hc1 hc2
      go_wp2_with fail
      go_roundw
      case rel => exact ⟨k + 1, by omega, by go_num, trivial⟩
      case measure => simp [intOf]; omega
    · obtain rfl : k = xs.length := by omega
      go_wp2_with fail
      go_ret
      exact ⟨rfl, 0, rfl⟩
section
variable {f : FM} {d o n c : Nat} {w : World} (D : Dat f d o n c w)
include D
/-- What reading the files' names leaves. -/
def ReadStrs (xs : List ByteArray) (w : World) (e : Ending) (w' : World) : Prop := ∃ A c', e = .returned (.slice A xs.length c') ∧ SlR 1 w' A (xs.map strCells) ∧ Below w.heap.size w w'
/-- What reading the packages' names leaves, twice. -/
def ReadStrs2 (xs : List ByteArray) (w : World) (e : Ending) (w' : World) : Prop := ∃ A c' A2 c2, e = .returned (.tuple #[.slice A xs.length c', .slice A2 xs.length c2]) ∧ SlR 1 w' A (xs.map strCells) ∧ SlR 1 w' A2 (xs.map strCells) ∧ Below w.heap.size w w'
set_option maxRecDepth 100000 in
set_option maxHeartbeats 1000000 in
theorem fileFiles_any : Calls Tryd.prog 41 #[.slice (some ⟨d, o, none⟩) n c] w (ReadStrs f.fi.l w) := by
  obtain ⟨i0, hi0, hz0, hz1, hz2⟩ := info_parts Tryd.infoStr
  have HD := Lib.hid D
  have hsz : f.fi.l.length ≤ 60 := D.S.fi
  have NN := Lib.hid (fun (W : World) (g : Nat) (R : Rdr f false g d o c W) => show Calls Tryd.prog 95 #[.pointer (some ⟨g, 0, none⟩)] W (RetQ (.int .i64 (f.fi.l.length : Nat)) W) from rdNFile_any R D.S)
  have AX := Lib.hid (fun (W : World) (g : Nat) (R : Rdr f false g d o c W) j (hj : j < f.fi.l.length) => rdFile_any R D.S j hj)
  generalize f.fi.l = xs at *
  have i1 : (0 : Int) ≤ (xs.length : Int) := by omega
  have i2 : (xs.length : Int) ≤ 60 := by omega
  clear D
  go_enter Tryd.func41, Tryd.ntmps41
  go_wp2_with fail
  refine (HD.out.reader false).mono ?_
  rintro e w1 ⟨g, rfl, _, R1, hb1⟩
  have R := Lib.hid R1
  have B1 := Lib.hid hb1
  have D1 := Lib.hid (HD.out.here hb1)
  have zb := hb1.size
  clear R1 hb1
  have OW := Lib.hid (World.ownsRow_made (base := w1.heap.size) (e := 9) (size := 1) w1 #[] 0 (Nat.le_refl _) (by simp) (by simp))
  obtain ⟨w2, hw2⟩ : ∃ w2, w2 = w1.alloc (.cells #[] 9) := ⟨_, rfl⟩
  have HW2 := Lib.hid hw2
  have B2 := Lib.hid (show Below w1.heap.size w1 w2 from by rw [hw2]; exact later_alloc _ _)
  have R2 := Lib.hid (R.out.here B2.out)
  have OW2 := Lib.hid (show w2.ownsRow w1.heap.size 9 1 (.slice (some ⟨w1.heap.size, 0, none⟩) 0 0) 0 [] from by rw [hw2]; exact OW.out)
  clear hw2 OW
  go_wp2_with fail
  rw [← HW2.out]
  refine (NN.out _ _ R2.out).mono ?_
  rintro e w3 ⟨rfl, n3, rfl⟩
  have B3 := Lib.hid (below_drewN B2.out n3)
  go_wp2_with fail
  clear HW2
  go_loopw [4, 5, 11] (fun v _ i wr => ∃ k : Nat, k ≤ xs.length ∧ i = .int .i64 k ∧ wr.ownsRow w1.heap.size 9 1 v k ((xs.take k).flatMap strCells) ∧ Below w1.heap.size w1 wr) (fun _ _ i _ => xs.length - (intOf i).toNat)
  case atStart => exact ⟨0, by omega, rfl, own_drewN OW2.out n3, B3.out⟩
  case round =>
    obtain ⟨k, hk, rfl, ho, hb⟩ := hrel
    have HO := Lib.hid ho
    have HB := Lib.hid hb
    have zs := hb.size
    by_cases hlt : k < xs.length
    · have CON := Lib.hid (AX.out wr g (R.out.here hb) k hlt)
      have HT := Lib.hid (show (xs.take (k + 1)).flatMap strCells = (xs.take k).flatMap strCells ++ [.string xs[k]] from by rw [List.take_succ_eq_append_getElem hlt, List.flatMap_append]; simp)
      generalize xs[k] = x at *
      have k0 : (0 : Int) ≤ (k : Int) := by omega
      have k1 : (k : Int) < 60 := by omega
      have k2 : (k : Int) < (xs.length : Int) := by omega
      clear ho hb
      go_wp2_with fail
      refine CON.out.mono ?_
      rintro e w4 ⟨rfl, n4, rfl⟩
      obtain ⟨w5, hw5⟩ : ∃ w5, w5 = wr.drewN n4 := ⟨_, rfl⟩
      have B5 := Lib.hid (show Below w1.heap.size w1 w5 from by rw [hw5]; exact below_drewN HB.out n4)
      have O5 := Lib.hid (own_drewN HO.out n4)
      rw [← hw5] at O5 ⊢
      have z5 := B5.out.size
      clear HO CON hw5
      go_wp2_with (at_builtin; refine wpList_append_sl rfl _ _ 25 rfl w1.heap.size 9 i0 _ 1 16 Tryd.underlying25 hi0 hz0 hz1 hz2 rfl (by decide) _ k _ rfl (O5.out.alloc _) (some ⟨w5.heap.size, 0, none⟩) 1 1 [.string x] rfl rfl (src_new w5 _ _ _ rfl 1 _ (Below.refl _ _)) (by simp [Value.oneCell']) (by unfold maxLen; omega) (by omega) (by simp; omega) ?_; intro A1 C1 w6 hown6 hgrow6)
      have B6 : Below w1.heap.size w1 w6 := (B5.out.alloc z5 _).grown hgrow6 (by simp; omega) (fun k hk => (O5.out.lt k hk).1)
      go_roundw
      case rel => exact ⟨k + 1, by omega, by go_num, by rw [HT.out]; exact hown6, B6⟩
      case measure => simp [intOf]; omega
    · obtain rfl : k = xs.length := by omega
      rw [List.take_length] at ho
      obtain ⟨A, C, rfl, hc⟩ := own_slice ho
      have HR := Lib.hid (show ReadStrs xs w (.returned (.slice A xs.length C)) wr from ⟨A, C, rfl, SlR.of_own ho (fun _ _ => rfl) rfl, below_from B1.out hb⟩)
      clear ho hb
      go_wp2_with fail
      go_ret
      exact HR.out
set_option maxRecDepth 100000 in
set_option maxHeartbeats 1000000 in
theorem filePackages_any : Calls Tryd.prog 39 #[.slice (some ⟨d, o, none⟩) n c] w (ReadStrs2 f.pk.l w) := by
  obtain ⟨i0, hi0, hz0, hz1, hz2⟩ := info_parts Tryd.infoStr
  have HD := Lib.hid D
  have hsz : f.pk.l.length ≤ 60 := D.S.pk
  have NN := Lib.hid (fun (W : World) (g : Nat) (R : Rdr f false g d o c W) => show Calls Tryd.prog 92 #[.pointer (some ⟨g, 0, none⟩)] W (RetQ (.int .i64 (f.pk.l.length : Nat)) W) from rdNPkg_any R D.S)
  have AX := Lib.hid (fun (W : World) (g : Nat) (R : Rdr f false g d o c W) j (hj : j < f.pk.l.length) => rdPkg_any R D.S j hj)
  have PL := Lib.hid (fun (W : World) (g : Nat) (R : Rdr f false g d o c W) => rdPkglist_any R D.S)
  generalize f.pk.l = xs at *
  have i1 : (0 : Int) ≤ (xs.length : Int) := by omega
  have i2 : (xs.length : Int) ≤ 60 := by omega
  clear D
  go_enter Tryd.func39, Tryd.ntmps39
  go_wp2_with fail
  refine (HD.out.reader false).mono ?_
  rintro e w1 ⟨g, rfl, _, R1, hb1⟩
  have R := Lib.hid R1
  have B1 := Lib.hid hb1
  have D1 := Lib.hid (HD.out.here hb1)
  have zb := hb1.size
  clear R1 hb1
  have OW := Lib.hid (World.ownsRow_made (base := w1.heap.size) (e := 9) (size := 1) w1 #[] 0 (Nat.le_refl _) (by simp) (by simp))
  obtain ⟨w2, hw2⟩ : ∃ w2, w2 = w1.alloc (.cells #[] 9) := ⟨_, rfl⟩
  have HW2 := Lib.hid hw2
  have B2 := Lib.hid (show Below w1.heap.size w1 w2 from by rw [hw2]; exact later_alloc _ _)
  have R2 := Lib.hid (R.out.here B2.out)
  have OW2 := Lib.hid (show w2.ownsRow w1.heap.size 9 1 (.slice (some ⟨w1.heap.size, 0, none⟩) 0 0) 0 [] from by rw [hw2]; exact OW.out)
  clear hw2 OW
  go_wp2_with fail
  rw [← HW2.out]
  refine (NN.out _ _ R2.out).mono ?_
  rintro e w3 ⟨rfl, n3, rfl⟩
  have B3 := Lib.hid (below_drewN B2.out n3)
  go_wp2_with fail
  clear HW2
  go_loopw [5, 6, 12] (fun v _ i wr => ∃ k : Nat, k ≤ xs.length ∧ i = .int .i64 k ∧ wr.ownsRow w1.heap.size 9 1 v k ((xs.take k).flatMap strCells) ∧ Below w1.heap.size w1 wr) (fun _ _ i _ => xs.length - (intOf i).toNat)
  case atStart => exact ⟨0, by omega, rfl, own_drewN OW2.out n3, B3.out⟩
  case round =>
    obtain ⟨k, hk, rfl, ho, hb⟩ := hrel
    have HO := Lib.hid ho
    have HB := Lib.hid hb
    have zs := hb.size
    by_cases hlt : k < xs.length
    · have CON := Lib.hid (AX.out wr g (R.out.here hb) k hlt)
      have HT := Lib.hid (show (xs.take (k + 1)).flatMap strCells = (xs.take k).flatMap strCells ++ [.string xs[k]] from by rw [List.take_succ_eq_append_getElem hlt, List.flatMap_append]; simp)
      generalize xs[k] = x at *
      have k0 : (0 : Int) ≤ (k : Int) := by omega
      have k1 : (k : Int) < 60 := by omega
      have k2 : (k : Int) < (xs.length : Int) := by omega
      clear ho hb
      go_wp2_with fail
      refine CON.out.mono ?_
      rintro e w4 ⟨rfl, n4, rfl⟩
      obtain ⟨w5, hw5⟩ : ∃ w5, w5 = wr.drewN n4 := ⟨_, rfl⟩
      have B5 := Lib.hid (show Below w1.heap.size w1 w5 from by rw [hw5]; exact below_drewN HB.out n4)
      have O5 := Lib.hid (own_drewN HO.out n4)
      rw [← hw5] at O5 ⊢
      have z5 := B5.out.size
      clear HO CON hw5
      go_wp2_with (at_builtin; refine wpList_append_sl rfl _ _ 25 rfl w1.heap.size 9 i0 _ 1 16 Tryd.underlying25 hi0 hz0 hz1 hz2 rfl (by decide) _ k _ rfl (O5.out.alloc _) (some ⟨w5.heap.size, 0, none⟩) 1 1 [.string x] rfl rfl (src_new w5 _ _ _ rfl 1 _ (Below.refl _ _)) (by simp [Value.oneCell']) (by unfold maxLen; omega) (by omega) (by simp; omega) ?_; intro A1 C1 w6 hown6 hgrow6)
      have B6 : Below w1.heap.size w1 w6 := (B5.out.alloc z5 _).grown hgrow6 (by simp; omega) (fun k hk => (O5.out.lt k hk).1)
      go_roundw
      case rel => exact ⟨k + 1, by omega, by go_num, by rw [HT.out]; exact hown6, B6⟩
      case measure => simp [intOf]; omega
    · obtain rfl : k = xs.length := by omega
      rw [List.take_length] at ho
      obtain ⟨A, C, rfl, hc⟩ := own_slice ho
      have HO2 := Lib.hid ho
      obtain ⟨w7, hw7⟩ : ∃ w7, w7 = wr.alloc (.cells #[] 9) := ⟨_, rfl⟩
      have BA7 : Below wr.heap.size wr w7 := by rw [hw7]; exact later_alloc _ _
      have B7 := Lib.hid (HB.out.trans (BA7.mono zs))
      have R7 := Lib.hid ((R.out.here HB.out).here BA7)
      have O7 := Lib.hid (own_here ho BA7)
      have OE7 := Lib.hid (show w7.ownsRow wr.heap.size 9 1 (.slice (some ⟨wr.heap.size, 0, none⟩) 0 0) 0 [] from by rw [hw7]; exact World.ownsRow_made (base := wr.heap.size) (e := 9) (size := 1) wr #[] 0 (Nat.le_refl _) (by simp) (by simp))
      have FV := Lib.hid (fun k hk => (ho.lt k hk).2 : ∀ k, (Value.slice A xs.length C).ownBlock = some k → k < wr.heap.size)
      have HW7 := Lib.hid hw7
      clear ho hb hw7 BA7
      go_wp2_with fail
      rw [← HW7.out]
      refine (PL.out w7 g R7.out).mono ?_
      rintro e w8 ⟨g', rfl, hbk, hb8⟩
      have O8 := Lib.hid (own_here O7.out hb8)
      have OE8 := Lib.hid (own_here OE7.out hb8)
      have B8 := Lib.hid (below_from B7.out hb8)
      have SL := Lib.hid (SlR.of_blk (n := 1) hbk (fun _ _ => rfl))
      have z7 := B7.out.size
      have z8 := hb8.size
      have z71 : wr.heap.size ≤ w7.heap.size := by rw [HW7.out]; simp
      clear hbk hb8 O7 OE7 HW7 HO HO2
      go_wp2_with (at_builtin; refine wpList_append_sl rfl _ _ 25 rfl wr.heap.size 9 i0 _ 1 16 Tryd.underlying25 hi0 hz0 hz1 hz2 rfl (by decide) _ 0 [] rfl OE8.out (some ⟨g', 0, none⟩) xs.length xs.length (xs.flatMap strCells) rfl (flat_len xs (fun _ _ => rfl)) (fun h => SlR.src SL.out (fun _ _ => rfl) h) (flat_one xs (fun x _ => by simp [Value.oneCell'])) (by unfold maxLen; omega) (by omega) (by omega) ?_; intro A9 C9 w9 hown9 hgrow9)
      have O9 := own_grown O8.out hgrow9 (fun j hj h' => by have := FV.out j hj; have := (OE8.out.lt j h').1; omega)
      have B9 : Below w1.heap.size w1 w9 := B8.out.grown hgrow9 (by omega) (fun k hk => by have := (OE8.out.lt k hk).1; omega)
      go_ret2
      exact ⟨A9, C9, A, C, by simp, SlR.of_own hown9 (fun _ _ => rfl) (by simp), SlR.of_own O9 (fun _ _ => rfl) rfl, below_from B1.out B9⟩
end
end Go.Proofs.YtimdaolbdgafcaaDoor
