/- What is read out of an object file: the packages' names all at once. (printed by gen_implh.py) -/
import Derived.BigQuiet
import Derived.Test.YtimdaolbdgafcaaDoorImplF
import Derived.Test.YtimdaolbdgafcaaDoorRdrE
namespace Go.Proofs.YtimdaolbdgafcaaDoor
open Go.RowKit

theorem set_fill (P : List Value) (z v : Value) (R : List Value) : ((P ++ (z :: R)).toArray.setIfInBounds P.length v) = (P ++ (v :: R)).toArray := by
  rw [List.setIfInBounds_toArray]
  simp
theorem Tryd.infoStr : (Tryd.prog.info? 9).map (fun i => (i.zero, i.size, i.bytes)) = some (some (.string ⟨#[]⟩), 1, 16) := by kernel_rfl
section
variable {f : FM} {ro : Bool} {g d o c : Nat} {w : World} (R : Rdr f ro g d o c w) (S : f.Small)
include R S
/-- What reading the packages' names leaves. -/
def AllStr (xs : List ByteArray) (w : World) (e : Ending) (w' : World) : Prop := ∃ g', e = .returned (.slice (some ⟨g', 0, none⟩) xs.length xs.length) ∧ Blk w' g' 9 (xs.flatMap strCells).toArray ∧ Below w.heap.size w w'
set_option maxRecDepth 100000 in
set_option maxHeartbeats 1000000 in
theorem rdPkglist_any : Calls Tryd.prog 94 #[.pointer (some ⟨g, 0, none⟩)] w (AllStr f.pk.l w) := by
  have c1 := R.offs 2 (by omega)
  have c2 := R.offs 1 (by omega)
  have q := (FM.at_lens S).2.1
  have b1 := S.at_le 2
  have hl : f.pk.l.length ≤ 60 := S.pk
  have STR := Lib.hid (fun (W : World) (R' : Rdr f ro g d o c W) (k : Nat) (h : k < f.pk.l.length) => show Calls Tryd.prog 123 #[.pointer (some ⟨g, 0, none⟩), .int .u32 ((f.at_ 1 + 8 * k : Nat) : Int)] W (RetQ (.string f.pk.l[k]) W) from rdStringRef_any R' S (f.at_ 1 + 8 * k) f.pk.l[k] (FM.pk_name f k h) (FM.has_pk S k h) 0)
  have HR := Lib.hid R
  have hg := R.lt
  generalize f.at_ 2 = y at *
  generalize f.at_ 1 = x at *
  generalize f.pk.l = xs at *
  have DD := Lib.hid (show ((y : Int) - x) / 8 = (xs.length : Int) from by omega)
  have i1 : (x : Int) ≤ y := by omega
  have i2 : (y : Int) ≤ 110000 := by omega
  have i3 : (0 : Int) ≤ x := by omega
  have i4 : (0 : Int) ≤ (xs.length : Int) := by omega
  have i5 : (xs.length : Int) ≤ 60 := by omega
  obtain ⟨i0, hi0, hz0, hz1, hz2⟩ := info_parts Tryd.infoStr
  have hmk : ∀ W : World, (Instr.makeSlice 25 (.int .u32 (xs.length : Int)) (.int .u32 (xs.length : Int))).run Tryd.prog W = .ok (.slice (some ⟨W.heap.size, 0, none⟩) xs.length xs.length) (W.alloc (.cells (zs xs.length [.string ⟨#[]⟩]).toArray 9)) := fun W => by
    have h := run_make (P := Tryd.prog) W 25 9 i0 _ Tryd.underlying25 hi0 hz0 .u32 .u32 xs.length xs.length (by omega) (by omega) (by rw [hz2]; omega) (by omega)
    rw [hz1] at h
    change _ = Result.ok _ (W.alloc (.cells (madeCells (#[.string ⟨#[]⟩] : Array Value) (xs.length * 1)) _)) at h
    have h2 := made_zs (#[.string ⟨#[]⟩] : Array Value) xs.length (by show 0 < 1; omega)
    change madeCells _ (xs.length * 1) = _ at h2
    rw [h2] at h
    exact h
  clear R S q b1 hl hz0 hz1 hz2 hi0
  go_enter Tryd.func94, Tryd.ntmps94
  go_wp2_with fail
  go_quiet (fail)
  go_upto_region 2 with fail
  rw [DD.out]
  have BZ := Lib.hid (Blk.new (w.drewN nq) 9 (zs xs.length [.string ⟨#[]⟩]).toArray)
  have B1 := Lib.hid (show Below w.heap.size w ((w.drewN nq).alloc (.cells (zs xs.length [.string ⟨#[]⟩]).toArray 9)) from by (repeat' (first | (with_reducible exact Below.refl _ _) | (with_reducible assumption) | (with_reducible refine below_drewN ?_ _) | (with_reducible refine Below.alloc ?_ ?_ _) | (with_reducible refine Below.drew ?_) | (with_reducible refine Below.setCell ?_ ?_ _) | go_size)))
  have c2' := keep_cell B1.out c2
  go_wp2_with fail
  clear hmk c1 c2 c2'
  go_loopw [5, 6, 31] (fun off _ i wr => ∃ k : Nat, k ≤ xs.length ∧ i = .int .i64 k ∧ off = .int .u32 ((x + 8 * k : Nat) : Int) ∧ Blk wr w.heap.size 9 ((xs.take k).flatMap strCells ++ zs (xs.length - k) [.string ⟨#[]⟩]).toArray ∧ Below w.heap.size w wr) (fun _ _ i _ => xs.length - (intOf i).toNat)
  case atStart => exact ⟨0, by omega, rfl, rfl, by simpa using BZ.out, B1.out⟩
  case round =>
    obtain ⟨k, hk, rfl, rfl, hbk, hbw⟩ := hrel
    have BK := Lib.hid hbk
    have BW := Lib.hid hbw
    have zb := hbw.size
    by_cases hltk : k < xs.length
    · have CON := Lib.hid (STR.out wr (HR.out.here hbw) k hltk)
      have HT := Lib.hid (show (xs.take (k + 1)).flatMap strCells = (xs.take k).flatMap strCells ++ [.string xs[k]] from by rw [List.take_succ_eq_append_getElem hltk, List.flatMap_append]; simp)
      have HPL := Lib.hid (show ((xs.take k).flatMap strCells).length = k from by rw [flat_len (n := 1) _ (fun _ _ => rfl), List.length_take, Nat.min_eq_left (by omega), Nat.mul_one])
      generalize xs[k] = s at *
      have SPL := Lib.hid (show ((xs.take k).flatMap strCells ++ zs (xs.length - k) [.string ⟨#[]⟩]).toArray.setIfInBounds k (.string s) = ((xs.take (k + 1)).flatMap strCells ++ zs (xs.length - (k + 1)) [.string ⟨#[]⟩]).toArray from by
        have h := set_fill ((xs.take k).flatMap strCells) (.string ⟨#[]⟩) (.string s) (zs (xs.length - (k + 1)) [.string ⟨#[]⟩])
        rw [HPL.out] at h
        rw [show xs.length - k = (xs.length - (k + 1)) + 1 from by omega, zs_succ, HT.out, List.append_assoc]
        exact h)
      have CELL := Lib.hid (show ∃ u, wr.cell? ⟨w.heap.size, k, none⟩ = some u from cell_in hbk (by rw [List.size_toArray, List.length_append, HPL.out, zs_len]; simp; omega))
      obtain ⟨u0, ccu⟩ := CELL.out
      have ccf := hbk.frozen k
      have k0 : (0 : Int) ≤ (k : Int) := by omega
      have k1 : (k : Int) < 60 := by omega
      have k2 : (k : Int) < (xs.length : Int) := by omega
      clear hbk hbw
      obtain ⟨p, hp⟩ : ∃ p, p = x + 8 * k := ⟨_, rfl⟩
      rw [← hp] at CON ⊢
      have p0 : (p : Int) + 8 = ((x + 8 * (k + 1) : Nat) : Int) := by omega
      have p1 : (p : Int) ≤ 120000 := by omega
      have p2 : (0 : Int) ≤ p := by omega
      clear hp
      go_wp2_with fail
      refine CON.out.mono ?_
      rintro e w2 ⟨rfl, n2, rfl⟩
      go_wp2_with fail
      have BS := Lib.hid ((BK.out.drewN n2).set_ k (.string s))
      rw [SPL.out] at BS
      have BB := Lib.hid (show Below w.heap.size w ((wr.drewN n2).setCell ⟨w.heap.size, k, none⟩ (.string s)) from (below_drewN BW.out n2).setCell (by simp) _)
      go_roundw
      case rel => exact ⟨k + 1, by omega, by go_num, by rw [← p0]; go_num, BS.out, BB.out⟩
      case measure => simp [intOf]; omega
    · obtain rfl : k = xs.length := by omega
      rw [Nat.sub_self, List.take_length] at hbk
      have BF := Lib.hid (show Blk wr w.heap.size 9 (xs.flatMap strCells).toArray from by simpa [zs] using hbk)
      clear hbk BK
      go_wp2_with fail
      exact bodyPost_ret (v := .slice (some ⟨w.heap.size, 0, none⟩) xs.length xs.length) (by simp [results, Tryd.results94, go_sem]) rfl ⟨_, rfl, BF.out, BW.out⟩
end
end Go.Proofs.YtimdaolbdgafcaaDoor
