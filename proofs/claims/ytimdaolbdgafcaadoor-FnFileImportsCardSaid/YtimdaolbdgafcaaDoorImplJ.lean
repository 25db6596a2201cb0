/- What is read out of an object file: the imports. (printed by gen_implj.py) -/
import Derived.Test.YtimdaolbdgafcaaDoorImplI
namespace Go.Proofs.YtimdaolbdgafcaaDoor
open Go.RowKit

theorem Tryd.infoIP : (Tryd.prog.info? 132).map (fun i => (i.zero, i.size, i.bytes)) = some (some (.agg (#[.string ⟨#[]⟩, .int .u8 0, .int .u8 0, .int .u8 0, .int .u8 0, .int .u8 0, .int .u8 0, .int .u8 0, .int .u8 0] : Array Value)), 9, 24) := by kernel_rfl
theorem splice_imp (P R zl c : List Value) (s : Value) (h : c.length = zl.length) : splice (P ++ ((s :: zl) ++ R)) (P.length + 1) c = P ++ ((s :: c) ++ R) := by
  have h1 := fill_splice (P ++ [s]) zl R c h
  rw [List.length_append] at h1
  simpa using h1
abbrev z9 : List Value := [.string ⟨#[]⟩, .int .u8 0, .int .u8 0, .int .u8 0, .int .u8 0, .int .u8 0, .int .u8 0, .int .u8 0, .int .u8 0]
abbrev z8 : List Value := [.int .u8 0, .int .u8 0, .int .u8 0, .int .u8 0, .int .u8 0, .int .u8 0, .int .u8 0, .int .u8 0]
section
variable {f : FM} {ro : Bool} {g d o c : Nat} {w : World} (R : Rdr f ro g d o c w) (S : f.Small)
include R S
/-- What reading the imports leaves. -/
def AllIm (xs : List Im) (w : World) (e : Ending) (w' : World) : Prop := ∃ g', e = .returned (.slice (some ⟨g', 0, none⟩) xs.length xs.length) ∧ Blk w' g' 132 (xs.flatMap Im.cells).toArray ∧ Below w.heap.size w w'
set_option maxRecDepth 100000 in
set_option maxHeartbeats 1000000 in
theorem rdAutolib_any (hf : ∀ x ∈ f.im.l, x.fp.length = 8) (hd : d < w.heap.size) : Calls Tryd.prog 78 #[.pointer (some ⟨g, 0, none⟩)] w (AllIm f.im.l w) := by
  have c1 := R.offs 1 (by omega)
  have c2 := R.offs 0 (by omega)
  have q := (FM.at_lens S).1
  have b1 := S.at_le 1
  have hl : f.im.l.length ≤ 60 := S.im
  have hn := S.len_le.1
  have STR := Lib.hid (fun (W : World) (R' : Rdr f ro g d o c W) (k : Nat) (h : k < f.im.l.length) => show Calls Tryd.prog 123 #[.pointer (some ⟨g, 0, none⟩), .int .u32 ((f.at_ 0 + 16 * k : Nat) : Int)] W (RetQ (.string f.im.l[k].pkg) W) from rdStringRef_any R' S (f.at_ 0 + 16 * k) f.im.l[k].pkg (FM.im_name f k h) (FM.has_im S k h).left 0)
  have HFP := Lib.hid (fun (k : Nat) (h : k < f.im.l.length) => show Has f.bytes (f.at_ 0 + 16 * k + 8) f.im.l[k].fp from (FM.has_im S k h).right rfl)
  have HF8 := Lib.hid hf
  have HR := Lib.hid R
  have hg := R.lt
  generalize f.at_ 1 = y at *
  generalize f.at_ 0 = x at *
  generalize f.im.l = xs at *
  have DD := Lib.hid (show ((y : Int) - x) / 16 = (xs.length : Int) from by omega)
  have i1 : (x : Int) ≤ y := by omega
  have i2 : (y : Int) ≤ 110000 := by omega
  have i3 : (0 : Int) ≤ x := by omega
  have i4 : (0 : Int) ≤ (xs.length : Int) := by omega
  have i5 : (xs.length : Int) ≤ 60 := by omega
  obtain ⟨i0, hi0, hz0, hz1, hz2⟩ := info_parts Tryd.infoIP
  have hmk : ∀ W : World, (Instr.makeSlice 129 (.int .u32 (xs.length : Int)) (.int .u32 (xs.length : Int))).run Tryd.prog W = .ok (.slice (some ⟨W.heap.size, 0, none⟩) xs.length xs.length) (W.alloc (.cells (zs xs.length z9).toArray 132)) := fun W => by
    have h := run_make (P := Tryd.prog) W 129 132 i0 _ Tryd.underlying129 hi0 hz0 .u32 .u32 xs.length xs.length (by omega) (by omega) (by rw [hz2]; omega) (by omega)
    rw [hz1] at h
    change _ = Result.ok _ (W.alloc (.cells (madeCells (#[.string ⟨#[]⟩, .int .u8 0, .int .u8 0, .int .u8 0, .int .u8 0, .int .u8 0, .int .u8 0, .int .u8 0, .int .u8 0] : Array Value) (xs.length * 9)) _)) at h
    have h2 := made_zs (#[.string ⟨#[]⟩, .int .u8 0, .int .u8 0, .int .u8 0, .int .u8 0, .int .u8 0, .int .u8 0, .int .u8 0, .int .u8 0] : Array Value) xs.length (by show 0 < 9; omega)
    change madeCells _ (xs.length * 9) = _ at h2
    rw [h2] at h
    exact h
  have HD := Lib.hid (show d < w.heap.size from hd)
  clear R S q b1 hl hz0 hz1 hz2 hi0 hf hd
  go_enter Tryd.func78, Tryd.ntmps78
  go_wp2_with fail
  go_quiet (fail)
  go_upto_region 2 with fail
  rw [DD.out]
  have BZ := Lib.hid (Blk.new (w.drewN nq) 132 (zs xs.length z9).toArray)
  have B1 := Lib.hid (show Below w.heap.size w ((w.drewN nq).alloc (.cells (zs xs.length z9).toArray 132)) from by (repeat' (first | (with_reducible exact Below.refl _ _) | (with_reducible assumption) | (with_reducible refine below_drewN ?_ _) | (with_reducible refine Below.alloc ?_ ?_ _) | (with_reducible refine Below.drew ?_) | (with_reducible refine Below.setCell ?_ ?_ _) | go_size)))
  have c2' := keep_cell B1.out c2
  go_wp2_with fail
  clear hmk c1 c2 c2'
  go_loopw [5, 6, 31] (fun off _ i wr => ∃ k : Nat, k ≤ xs.length ∧ i = .int .i64 k ∧ off = .int .u32 ((x + 16 * k : Nat) : Int) ∧ Blk wr w.heap.size 132 ((xs.take k).flatMap Im.cells ++ zs (xs.length - k) z9).toArray ∧ Below w.heap.size w wr) (fun _ _ i _ => xs.length - (intOf i).toNat)
  case atStart => exact ⟨0, by omega, rfl, rfl, by simpa using BZ.out, B1.out⟩
  case round =>
    obtain ⟨k, hk, rfl, rfl, hbk, hbw⟩ := hrel
    have BK := Lib.hid hbk
    have BW := Lib.hid hbw
    have zb := hbw.size
    by_cases hltk : k < xs.length
    · have CON := Lib.hid (STR.out wr (HR.out.here hbw) k hltk)
      have hfp := HFP.out k hltk
      have hf8 := HF8.out _ (List.getElem_mem hltk)
      have HT := Lib.hid (show (xs.take (k + 1)).flatMap Im.cells = (xs.take k).flatMap Im.cells ++ Im.cells xs[k] from by rw [List.take_succ_eq_append_getElem hltk, List.flatMap_append]; simp)
      have HPL := Lib.hid (show ((xs.take k).flatMap Im.cells).length = k * 9 from by rw [flat_len (n := 9) _ (fun z hz => by rw [Im.cells, List.length_cons, List.length_map, HF8.out z (List.mem_of_mem_take hz)]), List.length_take, Nat.min_eq_left (by omega)])
      generalize xs[k] = t at *
      obtain ⟨s, fp⟩ := t
      dsimp only at hf8 hfp CON HT
      have hle := hfp.le (by omega)
      rw [hf8] at hle
      obtain ⟨P, hP⟩ : ∃ P, P = (xs.take k).flatMap Im.cells := ⟨_, rfl⟩
      obtain ⟨Z, hZ⟩ : ∃ Z, Z = zs (xs.length - (k + 1)) z9 := ⟨_, rfl⟩
      rw [← hP] at HPL HT
      have E0 : ((xs.take k).flatMap Im.cells ++ zs (xs.length - k) z9) = P ++ ((.string ⟨#[]⟩ :: z8) ++ Z) := by
        rw [hP, hZ, show xs.length - k = (xs.length - (k + 1)) + 1 from by omega, zs_succ]
      have E1 := Lib.hid (show (P ++ ((.string ⟨#[]⟩ :: z8) ++ Z)).toArray.setIfInBounds (k * 9) (.string s) = (P ++ ((.string s :: z8) ++ Z)).toArray from by
        have h := set_fill P (.string ⟨#[]⟩) (.string s) (z8 ++ Z)
        rw [HPL.out] at h
        exact h)
      have E2 := Lib.hid (show splice (P ++ ((.string s :: z8) ++ Z)) (k * 9 + 1) (bcs fp) = (xs.take (k + 1)).flatMap Im.cells ++ zs (xs.length - (k + 1)) z9 from by
        have h := splice_imp P Z z8 (bcs fp) (.string s) (by rw [bcs_length, hf8]; rfl)
        rw [HPL.out] at h
        rw [h, HT.out, ← hZ, List.append_assoc]
        rfl)
      rw [E0] at hbk BK
      have HPZ := Lib.hid (show (P ++ ((.string s :: z8) ++ Z)).length = k * 9 + (9 + Z.length) from by rw [List.length_append, HPL.out, List.length_append]; rfl)
      have CELL := Lib.hid (show ∃ u, wr.cell? ⟨w.heap.size, k * 9, none⟩ = some u from cell_in hbk (by rw [List.size_toArray, List.length_append, HPL.out, List.length_append]; simp; omega))
      obtain ⟨u0, ccu⟩ := CELL.out
      have ccf := hbk.frozen (k * 9)
      have k0 : (0 : Int) ≤ (k : Int) := by omega
      have k1 : (k : Int) < 60 := by omega
      have k2 : (k : Int) < (xs.length : Int) := by omega
      obtain ⟨p, hp⟩ : ∃ p, p = x + 16 * k := ⟨_, rfl⟩
      rw [← hp] at CON hfp hle ⊢
      have p0 : (p : Int) + 16 = ((x + 16 * (k + 1) : Nat) : Int) := by omega
      have p1 : (p : Int) ≤ 120000 := by omega
      have p2 : (0 : Int) ≤ p := by omega
      have HFX := Lib.hid hfp
      have HLE := Lib.hid hle
      have HN := Lib.hid hn
      have HF := Lib.hid (show (bcs fp).length = 8 from by rw [bcs_length, hf8])
      clear hbk hbw hp hfp hle E0 hP hf8 CELL
      go_wp2_with fail
      refine CON.out.mono ?_
      rintro e w2 ⟨rfl, n2, rfl⟩
      obtain ⟨w3, hw3⟩ : ∃ w3, w3 = (wr.drewN n2).setCell ⟨w.heap.size, k * 9, none⟩ (.string s) := ⟨_, rfl⟩
      have HW3 := Lib.hid hw3
      have BS := Lib.hid (show Blk w3 w.heap.size 132 (P ++ ((.string s :: z8) ++ Z)).toArray from by rw [hw3, ← E1.out]; exact (BK.out.drewN n2).set_ (k * 9) (.string s))
      have BB := Lib.hid (show Below w.heap.size w w3 from by rw [hw3]; exact (below_drewN BW.out n2).setCell (by simp) _)
      have R3 := Lib.hid (HR.out.here BB.out)
      have BY := Lib.hid (bytesAt_any (w := w3.drewN 1) (R3.out.drewN 1).b (R3.out.drewN 1).cap (by omega) (p + 8) 8 (by omega) HLE.out)
      have SR := Lib.hid (fun j u (hu : (bcs fp)[j]? = some u) => show w3.cell? ((⟨d, o + (p + 8), none⟩ : Addr).add j) = some u from by
        rw [bcs, List.getElem?_map, Option.map_eq_some_iff] at hu
        obtain ⟨z, hz, rfl⟩ := hu
        rw [Lib.addr_add]
        exact (R3.out.at_.has HFX.out) j z hz)
      clear hw3 HFX CON
      go_upto_region 8 with fail
      rw [← HW3.out]
      clear ccu ccf
      have w8 : IntKind.u32.wrap ((p : Int) + 8) = ((p + 8 : Nat) : Int) := by rw [IntKind.wrap_u32]; omega
      go_region_held3 (fun _ => True) (first | trivial | go_keep)
        (first | (go_at_call 56; refine BY.out.mono ?_; rintro e w4 ⟨rfl, n4, rfl⟩) | (refine step_copy_splice rfl (.tmp 45) (.tmp 49) 35 35 rfl 5 Tryd.underlying35 (by kernel_rfl) (some ⟨w.heap.size, k * 9 + 1, none⟩) (some ⟨d, o + (p + 8), none⟩) 8 8 8 8 rfl rfl w.heap.size (k * 9 + 1) (P ++ ((.string s :: z8) ++ Z)) 132 BS.out (bcs fp) (by rw [HF.out]; rfl) (fun _ => ⟨rfl, _, rfl, SR.out⟩) (by rw [HF.out, HPZ.out]; omega) (bcs_one _) w.heap.size w (below_drewN BB.out _) (by omega) ?_; intro w5 HC hC))
      have BF := Lib.hid (show Blk w5 w.heap.size 132 ((xs.take (k + 1)).flatMap Im.cells ++ zs (xs.length - (k + 1)) z9).toArray from by have h := HC.out; rw [E2.out] at h; exact h)
      have BG := Lib.hid (show Below w.heap.size w w5 from hC)
      clear HC hC
      go_wp2_with fail
      go_roundw
      case rel => exact ⟨k + 1, by omega, by go_num, by rw [← p0]; go_num, BF.out, BG.out⟩
      case measure => simp [intOf]; omega
    · obtain rfl : k = xs.length := by omega
      rw [Nat.sub_self, List.take_length] at hbk
      have BF := Lib.hid (show Blk wr w.heap.size 132 (xs.flatMap Im.cells).toArray from by simpa [zs] using hbk)
      clear hbk BK
      go_wp2_with fail
      exact bodyPost_ret (v := .slice (some ⟨w.heap.size, 0, none⟩) xs.length xs.length) (by simp [results, Tryd.results78, go_sem]) rfl ⟨_, rfl, BF.out, BW.out⟩
end
end Go.Proofs.YtimdaolbdgafcaaDoor
