/- What is read out of an object file: auxiliary symbols, relocations. (printed by gen_implf.py) -/
import Derived.Laws.MakeOwn
import Derived.Great.Walk
import Derived.Test.YtajeinkkfggcbaaGreatDoorPart
import Derived.Test.YtajeinkkfggcbaaGreatDoorTold
import Derived.Test.YtajeinkkfggcbaaGreatDoorSlB
import Derived.Test.YtajeinkkfggcbaaGreatDoorBlocks
import Derived.Test.YtajeinkkfggcbaaGreatDoorImplA
import Derived.Test.YtajeinkkfggcbaaGreatDoorImplF
import Derived.Test.YtajeinkkfggcbaaGreatDoorToldR
namespace Go.Proofs.YtajeinkkfggcbaaGreatDoor
open Go.RowKit


theorem Tryz.infoReloc : (Tryz.prog.info? 93).map (fun i => (i.zero, i.size, i.bytes)) = some (some (.agg (#[.int .u8 0, .int .u8 0, .int .u8 0, .int .u8 0, .int .u8 0, .int .u8 0, .int .u8 0, .int .u8 0, .int .u8 0, .int .u8 0, .int .u8 0, .int .u8 0, .int .u8 0, .int .u8 0, .int .u8 0, .int .u8 0, .int .u8 0, .int .u8 0, .int .u8 0, .int .u8 0, .int .u8 0, .int .u8 0, .int .u8 0] : Array Value)), 23, 23) := by kernel_rfl
/-- What reading them all at once leaves. -/
def AllReloc (xs : List Rl) (w : World) (e : Ending) (w' : World) : Prop := ∃ g', e = .returned (.slice (some ⟨g', 0, none⟩) xs.length xs.length) ∧ Blk w' g' 93 (xs.flatMap fun x => bcs x.bytes).toArray ∧ Below w.heap.size w w'
section
variable {f : FM} {ro : Bool} {g d o c : Nat} {w : World} (R : Rdr f ro g d o c w) (S : f.Small)
include R S
set_option maxRecDepth 100000 in
set_option maxHeartbeats 1000000 in
theorem rdRelocs_any (i : Nat) (hi : i < f.all.length) (hlt : g < w.heap.size ∧ d < w.heap.size) : Calls Tryz.prog 30 #[.pointer (some ⟨g, 0, none⟩), .int .u32 i] w (AllReloc f.all[i].rs.l w) := by
  have hsz : f.all[i].rs.l.length ≤ 20 := by have := (S.data _ (List.getElem_mem hi)).2; omega
  have hn := S.len_le.1
  have cap := R.cap
  have OFF := Lib.hid (show Calls Tryz.prog 70 #[.pointer (some ⟨g, 0, none⟩), .int .u32 i, .int .i64 0] w (RetQ (.int .u32 ((f.at_ 14 + 23 * (cntK Df.nr f.all i + 0) : Nat) : Int)) w) from rdRelocOff_any R S i 0 (by omega) (by omega))
  have NN := Lib.hid (fun (m : Nat) => show Calls Tryz.prog 27 #[.pointer (some ⟨g, 0, none⟩), .int .u32 i] (w.drewN m) (RetQ (.int .i64 (f.all[i].rs.l.length : Nat)) (w.drewN m)) from rdNReloc_any (R.drewN m) S i hi)
  have HAS := Lib.hid (show ∀ j (h : j < f.all[i].rs.l.length), Has f.bytes (f.at_ 14 + 23 * (cntK Df.nr f.all i + 0) + j * 23) (f.all[i].rs.l[j]).bytes from fun j h => by
    have h1 := FM.has_rel S i hi j h
    rwa [show f.at_ 14 + 23 * (cntK Df.nr f.all i + j) = f.at_ 14 + 23 * (cntK Df.nr f.all i + 0) + j * 23 from by omega] at h1)
  generalize f.all[i].rs.l = xs at *
  generalize f.at_ 14 + 23 * (cntK Df.nr f.all i + 0) = p0 at *
  obtain ⟨nb, hnb⟩ : ∃ nb, nb = f.bytes.length := ⟨_, rfl⟩
  have HNB := Lib.hid hnb
  rw [← hnb] at hn cap
  obtain ⟨i0, hi0, hz0, hz1, hz2⟩ := info_parts Tryz.infoReloc
  have hmk : ∀ W : World, (Instr.makeSlice 90 (.int .i64 (xs.length : Int)) (.int .i64 (xs.length : Int))).run Tryz.prog W = .ok (.slice (some ⟨W.heap.size, 0, none⟩) xs.length xs.length) (W.alloc (.cells (zs xs.length (#[.int .u8 0, .int .u8 0, .int .u8 0, .int .u8 0, .int .u8 0, .int .u8 0, .int .u8 0, .int .u8 0, .int .u8 0, .int .u8 0, .int .u8 0, .int .u8 0, .int .u8 0, .int .u8 0, .int .u8 0, .int .u8 0, .int .u8 0, .int .u8 0, .int .u8 0, .int .u8 0, .int .u8 0, .int .u8 0, .int .u8 0] : Array Value).toList).toArray 93)) := fun W => by
    have h := run_make (P := Tryz.prog) W 90 93 i0 _ Tryz.underlying90 hi0 hz0 .i64 .i64 xs.length xs.length (by omega) (by omega) (by rw [hz2]; omega) (by omega)
    rw [hz1] at h
    change _ = Result.ok _ (W.alloc (.cells (madeCells (#[.int .u8 0, .int .u8 0, .int .u8 0, .int .u8 0, .int .u8 0, .int .u8 0, .int .u8 0, .int .u8 0, .int .u8 0, .int .u8 0, .int .u8 0, .int .u8 0, .int .u8 0, .int .u8 0, .int .u8 0, .int .u8 0, .int .u8 0, .int .u8 0, .int .u8 0, .int .u8 0, .int .u8 0, .int .u8 0, .int .u8 0] : Array Value) (xs.length * (#[.int .u8 0, .int .u8 0, .int .u8 0, .int .u8 0, .int .u8 0, .int .u8 0, .int .u8 0, .int .u8 0, .int .u8 0, .int .u8 0, .int .u8 0, .int .u8 0, .int .u8 0, .int .u8 0, .int .u8 0, .int .u8 0, .int .u8 0, .int .u8 0, .int .u8 0, .int .u8 0, .int .u8 0, .int .u8 0, .int .u8 0] : Array Value).size)) _)) at h
    have h2 := made_zs (#[.int .u8 0, .int .u8 0, .int .u8 0, .int .u8 0, .int .u8 0, .int .u8 0, .int .u8 0, .int .u8 0, .int .u8 0, .int .u8 0, .int .u8 0, .int .u8 0, .int .u8 0, .int .u8 0, .int .u8 0, .int .u8 0, .int .u8 0, .int .u8 0, .int .u8 0, .int .u8 0, .int .u8 0, .int .u8 0, .int .u8 0] : Array Value) xs.length (by show 0 < 23; omega)
    rw [← h2]
    exact h
  have HR := Lib.hid R
  have i1 : (0 : Int) ≤ (xs.length : Int) := by omega
  have i2 : (xs.length : Int) ≤ 20 := by omega
  have hg := hlt.1
  have hd := hlt.2
  clear R S hi hnb hlt hz0 hz1 hz2 hi0
  go_enter Tryz.func30, Tryz.ntmps30
  go_wp2_with fail
  refine OFF.out.mono ?_
  rintro e w1 ⟨rfl, n1, rfl⟩
  go_wp2_with fail
  refine (NN.out _).mono ?_
  rintro e w1 ⟨rfl, n2, rfl⟩
  have BZ := Lib.hid (Blk.new (w.drewN (n1 + n2)) 93 (zs xs.length (#[.int .u8 0, .int .u8 0, .int .u8 0, .int .u8 0, .int .u8 0, .int .u8 0, .int .u8 0, .int .u8 0, .int .u8 0, .int .u8 0, .int .u8 0, .int .u8 0, .int .u8 0, .int .u8 0, .int .u8 0, .int .u8 0, .int .u8 0, .int .u8 0, .int .u8 0, .int .u8 0, .int .u8 0, .int .u8 0, .int .u8 0] : Array Value).toList).toArray)
  have B1 := Lib.hid (show Below w.heap.size w ((w.drewN (n1 + n2)).alloc (.cells (zs xs.length (#[.int .u8 0, .int .u8 0, .int .u8 0, .int .u8 0, .int .u8 0, .int .u8 0, .int .u8 0, .int .u8 0, .int .u8 0, .int .u8 0, .int .u8 0, .int .u8 0, .int .u8 0, .int .u8 0, .int .u8 0, .int .u8 0, .int .u8 0, .int .u8 0, .int .u8 0, .int .u8 0, .int .u8 0, .int .u8 0, .int .u8 0] : Array Value).toList).toArray 93)) from by (repeat' (first | (with_reducible exact Below.refl _ _) | (with_reducible assumption) | (with_reducible refine below_drewN ?_ _) | (with_reducible refine Below.alloc ?_ ?_ _) | (with_reducible refine Below.drew ?_) | (with_reducible refine Below.setCell ?_ ?_ _) | go_size)))
  go_wp2_with fail
  clear hmk
  go_loopw [8, 19] (fun _ i wr => ∃ k : Nat, k ≤ xs.length ∧ i = .int .i64 k ∧ Blk wr w.heap.size 93 ((xs.take k).flatMap (fun x => bcs x.bytes) ++ zs (xs.length - k) (#[.int .u8 0, .int .u8 0, .int .u8 0, .int .u8 0, .int .u8 0, .int .u8 0, .int .u8 0, .int .u8 0, .int .u8 0, .int .u8 0, .int .u8 0, .int .u8 0, .int .u8 0, .int .u8 0, .int .u8 0, .int .u8 0, .int .u8 0, .int .u8 0, .int .u8 0, .int .u8 0, .int .u8 0, .int .u8 0, .int .u8 0] : Array Value).toList).toArray ∧ Below w.heap.size w wr) (fun _ i _ => xs.length - (intOf i).toNat)
  case atStart => exact ⟨0, by omega, rfl, by simpa using BZ.out, B1.out⟩
  case round =>
    obtain ⟨k, hk, rfl, hbk, hbw⟩ := hrel
    have BK := Lib.hid hbk
    have BW := Lib.hid hbw
    by_cases hltk : k < xs.length
    · have HK := HAS.out k hltk
      have hln := xs[k].bytes_length
      have hle := HK.le (by rw [hln]; omega)
      rw [hln, ← HNB.out] at hle
      obtain ⟨q, hq⟩ : ∃ q, q = p0 + k * 23 := ⟨_, rfl⟩
      rw [← hq] at HK hle
      have HC := Lib.hid (show ∀ j v, (bcs xs[k].bytes)[j]? = some v → wr.cell? ⟨d, o + q + j, none⟩ = some v from fun j v hv => by
        rw [bcs, List.getElem?_map, Option.map_eq_some_iff] at hv
        obtain ⟨z, hz, rfl⟩ := hv
        exact ((HR.out.here hbw).at_.has HK) j z hz)
      have c0 := (HR.out.here hbw).b
      rw [← HNB.out] at c0
      have HT := Lib.hid (show (xs.take (k + 1)).flatMap (fun x => bcs x.bytes) = (xs.take k).flatMap (fun x => bcs x.bytes) ++ bcs xs[k].bytes from by rw [List.take_succ_eq_append_getElem hltk, List.flatMap_append]; simp)
      have HPL := Lib.hid (show ((xs.take k).flatMap (fun x => bcs x.bytes)).length = k * 23 from by rw [flat_len (n := 23) _ (fun x _ => by rw [bcs_length, x.bytes_length]), List.length_take, Nat.min_eq_left (by omega)])
      generalize xs[k] = x at *
      have HBL := Lib.hid (show (bcs x.bytes).length = 23 from by rw [bcs_length, hln])
      have I1 := Lib.hid (show (Tryz.prog.info? 93).map (·.size) = some (bcs x.bytes).length from by rw [HBL.out]; kernel_rfl)
      have XS := Lib.hid (show (bcs x.bytes).toArray.size = 23 from by rw [List.size_toArray, HBL.out])
      have I2 := Lib.hid (show (Tryz.prog.info? 93).map (·.size) = some (bcs x.bytes).toArray.size from by rw [XS.out]; kernel_rfl)
      obtain ⟨cur, hcur⟩ : ∃ cur, cur = ((xs.take k).flatMap (fun x => bcs x.bytes) ++ zs (xs.length - k) (#[.int .u8 0, .int .u8 0, .int .u8 0, .int .u8 0, .int .u8 0, .int .u8 0, .int .u8 0, .int .u8 0, .int .u8 0, .int .u8 0, .int .u8 0, .int .u8 0, .int .u8 0, .int .u8 0, .int .u8 0, .int .u8 0, .int .u8 0, .int .u8 0, .int .u8 0, .int .u8 0, .int .u8 0, .int .u8 0, .int .u8 0] : Array Value).toList) := ⟨_, rfl⟩
      have BKC := Lib.hid (show Blk wr w.heap.size 93 cur.toArray from by rw [hcur]; exact hbk)
      have FIT := Lib.hid (show k * 23 + (bcs x.bytes).toArray.size ≤ cur.toArray.size from by rw [XS.out, List.size_toArray, hcur, List.length_append, HPL.out, zs_len]; show k * 23 + 23 ≤ k * 23 + (xs.length - k) * 23; have : 1 * 23 ≤ (xs.length - k) * 23 := Nat.mul_le_mul_right _ (by omega); omega)
      have SPL := Lib.hid (show splice cur (k * 23) (bcs x.bytes) = (xs.take (k + 1)).flatMap (fun x => bcs x.bytes) ++ zs (xs.length - (k + 1)) (#[.int .u8 0, .int .u8 0, .int .u8 0, .int .u8 0, .int .u8 0, .int .u8 0, .int .u8 0, .int .u8 0, .int .u8 0, .int .u8 0, .int .u8 0, .int .u8 0, .int .u8 0, .int .u8 0, .int .u8 0, .int .u8 0, .int .u8 0, .int .u8 0, .int .u8 0, .int .u8 0, .int .u8 0, .int .u8 0, .int .u8 0] : Array Value).toList from by
        rw [hcur, show xs.length - k = (xs.length - (k + 1)) + 1 from by omega, zs_succ, ← HPL.out, fill_splice _ _ _ _ (by rw [HBL.out]; rfl), HT.out, List.append_assoc])
      have k0 : (0 : Int) ≤ (k : Int) := by omega
      have k1 : (k : Int) < 20 := by omega
      have k2 : (k : Int) < (xs.length : Int) := by omega
      have p1 : (0 : Int) ≤ (p0 : Int) := by omega
      have p2 : (p0 : Int) + (k : Int) * 23 + 23 ≤ (nb : Int) := by omega
      have p3 : (nb : Int) ≤ (c : Int) := by omega
      have p4 : (nb : Int) ≤ 110000 := by omega
      have p6 : (0 : Int) ≤ (p0 : Int) + (k : Int) * 23 := by omega
      have p5 : ((p0 : Int) + (k : Int) * 23).toNat = q := by omega
      have p7 : c ≠ q := by omega
      have p8 := run_arrayAt (P := Tryz.prog) Tryz.underlying93 (nb - q) (by omega)
      clear hbk hbw HK hln hle hq hcur
      go_wp2_with (first | (refine wpList_load_part rfl 93 (.tmp 34) rfl d (o + q) rfl (bcs x.bytes) _ HC.out Tryz.underlying93 rfl I1.out ?_) | (refine wpList_store_part rfl 93 (.tmp 36) (.tmp 35) rfl w.heap.size (k * 23) (bcs x.bytes).toArray (by rfl) (by rfl) 93 cur.toArray BKC.out I2.out FIT.out (bcs_all _) ?_))
      have BS := Lib.hid (show Blk (wr.setRow w.heap.size (splice cur (k * 23) (bcs x.bytes)).toArray) w.heap.size 93 (splice cur (k * 23) (bcs x.bytes)).toArray from Blk.setRow BKC.out _)
      have BB := Lib.hid (show Below w.heap.size w (wr.setRow w.heap.size (splice cur (k * 23) (bcs x.bytes)).toArray) from by have h1 := BW.out; exact ⟨h1.os, h1.tape, h1.output, by simpa using h1.size, fun j hj => (setRow_other _ _ _ _ (by omega)).trans (h1.block j hj)⟩)
      rw [SPL.out] at BS BB ⊢
      go_roundw
      case rel => exact ⟨k + 1, by omega, by go_num, BS.out, BB.out⟩
      case measure => simp [intOf]; omega
    · obtain rfl : k = xs.length := by omega
      rw [Nat.sub_self, List.take_length] at hbk
      have BF := Lib.hid (show Blk wr w.heap.size 93 (xs.flatMap fun x => bcs x.bytes).toArray from by simpa [zs] using hbk)
      clear hbk BK
      have k2 : (xs.length : Int) ≤ (xs.length : Int) := by omega
      go_wp2_with fail
      exact bodyPost_ret (v := .slice (some ⟨w.heap.size, 0, none⟩) xs.length xs.length) (by simp [results, Tryz.results30, go_sem]) rfl ⟨_, rfl, BF.out, BW.out⟩
end
end Go.Proofs.YtajeinkkfggcbaaGreatDoor
