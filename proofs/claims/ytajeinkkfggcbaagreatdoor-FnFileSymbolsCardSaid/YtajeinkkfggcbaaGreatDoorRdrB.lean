/- A reader made over the bytes of an object file. -/
import Derived.Great.Walk
import Derived.Laws.CopyOwn
import Derived.Test.YtajeinkkfggcbaaGreatDoorRdr
import Derived.Test.YtajeinkkfggcbaaGreatDoorBlk
namespace Go.Proofs.YtajeinkkfggcbaaGreatDoor
open Go.RowKit

/-- A reader's cells, whole. -/
def rdL (sl : Value) (ro : Bool) (m : ByteArray) (fp : List Int) (fl : Int) (os : List Value) : List Value := sl :: .bool ro :: .int .u32 0 :: .string m :: (fp.map (Value.int .u8) ++ (.int .u32 fl :: os))
theorem rdL_magic (sl : Value) (ro : Bool) (m m' : ByteArray) (fp : List Int) (fl : Int) (os : List Value) : (rdL sl ro m fp fl os).toArray.setIfInBounds 3 (.string m') = (rdL sl ro m' fp fl os).toArray := by simp [rdL]
theorem rdL_flags (sl : Value) (ro : Bool) (m : ByteArray) (fp : List Int) (fl fl' : Int) (os : List Value) (h : fp.length = 8) : (rdL sl ro m fp fl os).toArray.setIfInBounds 12 (.int .u32 fl') = (rdL sl ro m fp fl' os).toArray := by
  obtain ⟨a0, a1, a2, a3, a4, a5, a6, a7, rfl⟩ := list8 h
  simp [rdL]
theorem rdL_off (sl : Value) (ro : Bool) (m : ByteArray) (fp : List Int) (fl : Int) (os : List Value) (h : fp.length = 8) (i : Nat) (v : Value) : (rdL sl ro m fp fl os).toArray.setIfInBounds (13 + i) v = (rdL sl ro m fp fl (os.set i v)).toArray := by
  obtain ⟨a0, a1, a2, a3, a4, a5, a6, a7, rfl⟩ := list8 h
  simp only [rdL, List.setIfInBounds_toArray, List.map_cons, List.map_nil, List.cons_append, List.nil_append]
  rw [show 13 + i = i + 13 from by omega]
  rfl
theorem rdL_fp (sl : Value) (ro : Bool) (m : ByteArray) (fp fp' : List Int) (fl : Int) (os : List Value) (h : fp.length = 8) (h' : fp'.length = 8) : splice (rdL sl ro m fp fl os) 4 (bcs fp') = rdL sl ro m fp' fl os := by
  obtain ⟨a0, a1, a2, a3, a4, a5, a6, a7, rfl⟩ := list8 h
  obtain ⟨b0, b1, b2, b3, b4, b5, b6, b7, rfl⟩ := list8 h'
  simp [rdL, splice, bcs]
theorem rdL_len (sl : Value) (ro : Bool) (m : ByteArray) (fp : List Int) (fl : Int) (os : List Value) (h : fp.length = 8) : (rdL sl ro m fp fl os).length = 13 + os.length := by
  simp [rdL, h]; omega
theorem atK_list (f : FM) (i : Nat) : (atK f i).toList.set i (.int .u32 (f.at_ i : Int)) = (atK f (i + 1)).toList := by
  rw [← atK_set f i _ rfl, Array.toList_setIfInBounds]
abbrev zero8 : List Int := [0, 0, 0, 0, 0, 0, 0, 0]

/-- What reading a header leaves. -/
def HeadRead (f : FM) (sl : Value) (ro : Bool) (g : Nat) (w : World) (e : Ending) (w' : World) : Prop :=
  e = .returned .nilIface ∧ Blk w' g 127 (rdL sl ro magicS f.fp f.flags (atK f 19).toList).toArray ∧ Below g w w'

set_option maxRecDepth 100000 in
set_option maxHeartbeats 1000000 in
theorem headRead_any (f : FM) (S : f.Small) (hfl : 0 ≤ f.flags ∧ f.flags < 4294967296) (g d o c : Nat) (ro : Bool) (w : World) (hc : f.bytes.length ≤ c) (hb : Blk w g 127 (rdL (.slice (some ⟨d, o, none⟩) f.bytes.length c) ro ⟨#[]⟩ zero8 0 (atK f 0).toList).toArray) (ha : At w d o f.bytes) (hd : d < g) :
    Calls Tryz.prog 53 #[.pointer (some ⟨g, 3, none⟩), .pointer (some ⟨g, 0, none⟩)] w (HeadRead f (.slice (some ⟨d, o, none⟩) f.bytes.length c) ro g w) := by
  have hlen := S.len_le
  have hl8 : f.bytes.length ≤ 200000 := by omega
  have h96 := (FM.bytes_len S).2.2
  have hmono := f.at_mono 0 18 (by omega)
  obtain ⟨n, hn⟩ : ∃ n, n = f.bytes.length := ⟨_, rfl⟩
  rw [← hn] at hc hb hl8 ⊢
  have hn96 : 96 ≤ n := by omega
  have hm := hb.cell 0
  have c0 : w.cell? ⟨g, 0, none⟩ = some (.slice (some ⟨d, o, none⟩) n c) := hb.cell 0
  have f3 := hb.frozen 3
  have c3 : w.cell? ⟨g, 3, none⟩ = some (.string ⟨#[]⟩) := hb.cell 3
  have hst : ∀ k c', (convert 35 9 (.slice (some ⟨d, o, none⟩) 8 c')).run Tryz.prog (w.drewN k) = .ok (.string magicS) (w.drewN k) := fun k c' => run_str (s := magicS) (show At (w.drewN k) d o (sbs magicS) from by rw [sbs_magic]; have := (ha.drewN k).has (p := 0) f.has_magic; simpa using this)
  have B0 := Lib.hid (bytesAt_any c0 hc hl8 0 8 (by omega) (by omega))
  have HA := Lib.hid ha
  have HB := Lib.hid hb
  have HN := Lib.hid hn
  have SM := Lib.hid S
  clear hm ha hb hn S hlen h96 hmono
  go_enter Tryz.func53, Tryz.ntmps53
  go_upto_region 2 with (go_at_call 86; refine B0.out.mono ?_; rintro e w1 ⟨rfl, n1, rfl⟩)
  go_upto_region 5 with fail
  obtain ⟨w2, hw2⟩ : ∃ w2, w2 = (w.drewN n1).setCell ⟨g, 3, none⟩ (.string magicS) := ⟨_, rfl⟩
  rw [← hw2]
  have HB2 := Lib.hid (show Blk w2 g 127 (rdL (.slice (some ⟨d, o, none⟩) n c) ro magicS zero8 0 (atK f 0).toList).toArray from by rw [hw2, ← rdL_magic _ _ ⟨#[]⟩]; exact (HB.out.drewN n1).set_ 3 _)
  have HA2 := Lib.hid (show At w2 d o f.bytes from by rw [hw2]; exact (HA.out.drewN n1).far (by show d ≠ g; omega) _)
  have F2 := Lib.hid (show Below g w w2 from by rw [hw2]; exact (below_drewN (Below.refl _ _) n1).setCell (by show g ≤ g; omega) _)
  clear hw2 c0 c3 f3 hst HB HA B0
  have d0 : w2.cell? ⟨g, 0, none⟩ = some (.slice (some ⟨d, o, none⟩) n c) := HB2.out.cell 0
  have d3 : w2.cell? ⟨g, 3, none⟩ = some (.string magicS) := HB2.out.cell 3
  have B1 := Lib.hid (fun k => bytesAt_any (w := w2.drewN k) d0 hc hl8 8 8 (by omega) (by omega))
  have SR := Lib.hid (fun j u (hu : (bcs f.fp)[j]? = some u) => show w2.cell? ((⟨d, o + 8, none⟩ : Addr).add j) = some u from by
    rw [bcs, List.getElem?_map, Option.map_eq_some_iff] at hu
    obtain ⟨z, hz, rfl⟩ := hu
    rw [Lib.addr_add]
    exact (HA2.out.has FM.has_fp) j z hz)
  go_upto_region 6 with fail
  go_region_held3 (fun _ => True) (first | trivial | go_keep)
    (first | (go_at_call 86; refine (B1.out 1).mono ?_; rintro e w3 ⟨rfl, n3, rfl⟩) | (refine step_copy_splice rfl (.tmp 30) (.tmp 33) 35 35 rfl 5 Tryz.underlying35 (by kernel_rfl) (some ⟨g, 4, none⟩) (some ⟨d, o + 8, none⟩) 8 8 8 8 rfl rfl g 4 (rdL (.slice (some ⟨d, o, none⟩) n c) ro magicS zero8 0 (atK f 0).toList) 127 HB2.out (bcs f.fp) (by rw [bcs_length, SM.out.fp]; rfl) (fun _ => ⟨rfl, _, rfl, SR.out⟩) (by rw [bcs_length, SM.out.fp, rdL_len _ _ _ _ _ _ rfl]; omega) (bcs_one _) g w2 (below_drewN (Below.refl _ _) _) (by omega) ?_; intro w4 HC hC))
  have HB4 := Lib.hid (show Blk w4 g 127 (rdL (.slice (some ⟨d, o, none⟩) n c) ro magicS f.fp 0 (atK f 0).toList).toArray from by have h := HC.out; rw [rdL_fp _ _ _ _ _ _ _ rfl SM.out.fp] at h; exact h)
  have F4 := Lib.hid (F2.out.trans hC)
  have HA4 := Lib.hid (HA2.out.heap (hC.block d hd))
  clear HC hC HB2 HA2 F2 B1 d0 d3
  have d0 : w4.cell? ⟨g, 0, none⟩ = some (.slice (some ⟨d, o, none⟩) n c) := HB4.out.cell 0
  obtain ⟨x12, d12⟩ := cell_in HB4.out (i := 12) (by rw [List.size_toArray, rdL_len _ _ _ _ _ _ SM.out.fp]; omega)
  have f12 := HB4.out.frozen 12
  have U16 := Lib.hid (uint32At_any d0 hc hl8 HA4.out HN.out 16 f.flags (FM.has_flags SM.out) hfl.1 hfl.2)
  go_upto_region 9 with (go_at_call 63; refine U16.out.mono ?_; rintro e w5 ⟨rfl, n5, rfl⟩)
  obtain ⟨w6, hw6⟩ : ∃ w6, w6 = (w4.drewN n5).setCell ⟨g, 12, none⟩ (.int .u32 f.flags) := ⟨_, rfl⟩
  rw [← hw6]
  have HB6 := Lib.hid (show Blk w6 g 127 (rdL (.slice (some ⟨d, o, none⟩) n c) ro magicS f.fp f.flags (atK f 0).toList).toArray from by rw [hw6, ← rdL_flags _ _ _ _ 0 _ _ SM.out.fp]; exact (HB4.out.drewN n5).set_ 12 _)
  have HA6 := Lib.hid (show At w6 d o f.bytes from by rw [hw6]; exact (HA4.out.drewN n5).far (by show d ≠ g; omega) _)
  have F6 := Lib.hid (show Below g w w6 from by rw [hw6]; exact (below_drewN F4.out n5).setCell (by show g ≤ g; omega) _)
  clear hw6 HB4 HA4 F4 d0 d12 f12 U16
  go_wp2_with fail
  go_loopw [6, 7, 45] (fun off _ i wr => ∃ k : Nat, k ≤ 19 ∧ i = .int .i64 k ∧ off = .int .u32 ((20 + 4 * k : Nat) : Int) ∧ Blk wr g 127 (rdL (.slice (some ⟨d, o, none⟩) n c) ro magicS f.fp f.flags (atK f k).toList).toArray ∧ At wr d o f.bytes ∧ Below g w wr) (fun _ _ i _ => 19 - (intOf i).toNat)
  case atStart => exact ⟨0, by omega, rfl, rfl, HB6.out, HA6.out, F6.out⟩
  case round =>
    obtain ⟨k, hk, rfl, rfl, hbk, hak, hfk⟩ := hrel
    by_cases hlt : k < 19
    · have hkb : decide ((k : Int) < 19) = true := by simp; omega
      have k0 : (0 : Int) ≤ (k : Int) := by omega
      have k1 : (k : Int) < 19 := by omega
      have HBK := Lib.hid hbk
      have HAK := Lib.hid hak
      have HFK := Lib.hid hfk
      have atb := SM.out.at_le k
      clear hbk hak hfk HB6 HA6 F6
      have d0 : wr.cell? ⟨g, 0, none⟩ = some (.slice (some ⟨d, o, none⟩) n c) := HBK.out.cell 0
      obtain ⟨xk, dk⟩ := cell_in HBK.out (i := 13 + k) (by rw [List.size_toArray, rdL_len _ _ _ _ _ _ SM.out.fp, Array.length_toList, atK_size]; omega)
      have fk := HBK.out.frozen (13 + k)
      have U := Lib.hid (fun m => uint32At_any (w := wr.drewN m) d0 hc hl8 (HAK.out.drewN m) HN.out (20 + 4 * k) (f.at_ k) (FM.has_off SM.out k hlt) (by omega) (by omega))
      go_wp2_with fail
      go_region_held3 (fun _ => True) (first | trivial | go_keep) (first | (go_at_call 63; refine (U.out 1).mono ?_; rintro e w5 ⟨rfl, n5, rfl⟩))
      obtain ⟨w7, hw7⟩ : ∃ w7, w7 = (wr.drewN (1 + n5)).setCell ⟨g, 13 + k, none⟩ (.int .u32 (f.at_ k)) := ⟨_, rfl⟩
      rw [← hw7]
      have HB7 := Lib.hid (show Blk w7 g 127 (rdL (.slice (some ⟨d, o, none⟩) n c) ro magicS f.fp f.flags (atK f (k + 1)).toList).toArray from by rw [hw7, ← atK_list, ← rdL_off _ _ _ _ _ _ SM.out.fp]; exact (HBK.out.drewN (1 + n5)).set_ (13 + k) _)
      have HA7 := Lib.hid (show At w7 d o f.bytes from by rw [hw7]; exact (HAK.out.drewN (1 + n5)).far (by show d ≠ g; omega) _)
      have F7 := Lib.hid (show Below g w w7 from by rw [hw7]; exact (below_drewN HFK.out (1 + n5)).setCell (by show g ≤ g; omega) _)
      clear hw7 HBK HAK HFK d0 dk fk U
      go_wp2_with fail
      go_roundw
      case rel => exact ⟨k + 1, by omega, by go_num, by go_num, HB7.out, HA7.out, F7.out⟩
      case measure => simp [intOf]; omega
    · obtain rfl : k = 19 := by omega
      have HBK := Lib.hid hbk
      have HFK := Lib.hid hfk
      clear hbk hak hfk
      go_wp2_with fail
      go_ret
      exact ⟨rfl, HBK.out, HFK.out⟩

/-- The zero reader over a slice. -/
abbrev rd0 (sl : Value) (ro : Bool) : Array Value := #[sl, .bool ro, .int .u32 0, .string ⟨#[]⟩, .int .u8 0, .int .u8 0, .int .u8 0, .int .u8 0, .int .u8 0, .int .u8 0, .int .u8 0, .int .u8 0, .int .u32 0,
  .int .u32 0, .int .u32 0, .int .u32 0, .int .u32 0, .int .u32 0, .int .u32 0, .int .u32 0, .int .u32 0, .int .u32 0, .int .u32 0, .int .u32 0, .int .u32 0, .int .u32 0, .int .u32 0, .int .u32 0, .int .u32 0, .int .u32 0, .int .u32 0, .int .u32 0]
theorem rd0_eq (f : FM) (sl : Value) (ro : Bool) : rd0 sl ro = (rdL sl ro ⟨#[]⟩ zero8 0 (atK f 0).toList).toArray := rfl
/-- What making a reader leaves. -/
def NewRdr (f : FM) (ro : Bool) (d o c : Nat) (w : World) (e : Ending) (w' : World) : Prop := ∃ g, e = .returned (.pointer (some ⟨g, 0, none⟩)) ∧ w.heap.size ≤ g ∧ Rdr f ro g d o c w' ∧ Below w.heap.size w w'
theorem rdr_of {f : FM} (S : f.Small) {ro : Bool} {g d o c : Nat} {w : World} (hc : f.bytes.length ≤ c) (hb : Blk w g 127 (rdL (.slice (some ⟨d, o, none⟩) f.bytes.length c) ro magicS f.fp f.flags (atK f 19).toList).toArray) (ha : At w d o f.bytes) : Rdr f ro g d o c w := by
  have h8 := S.fp
  refine ⟨hb.cell 0, hc, hb.cell 1, fun i z h => ?_, ?_, fun i h => ?_, ha⟩
  · rw [hb.cell, List.getElem?_toArray]
    have hi := (List.getElem?_eq_some_iff.1 h).1
    unfold rdL
    rw [show 4 + i = i + 1 + 1 + 1 + 1 from by omega, List.getElem?_cons_succ, List.getElem?_cons_succ, List.getElem?_cons_succ, List.getElem?_cons_succ, List.getElem?_append_left (by simpa using hi), List.getElem?_map, h]
    rfl
  · rw [hb.cell, List.getElem?_toArray]
    unfold rdL
    rw [show 12 = 8 + 1 + 1 + 1 + 1 from rfl, List.getElem?_cons_succ, List.getElem?_cons_succ, List.getElem?_cons_succ, List.getElem?_cons_succ, List.getElem?_append_right (by simp [h8])]
    simp [h8]
  · rw [hb.cell, List.getElem?_toArray]
    unfold rdL
    rw [show 13 + i = (9 + i) + 1 + 1 + 1 + 1 from by omega, List.getElem?_cons_succ, List.getElem?_cons_succ, List.getElem?_cons_succ, List.getElem?_cons_succ, List.getElem?_append_right (by simp [h8]; omega), List.length_map, h8, show 9 + i - 8 = i + 1 from by omega, List.getElem?_cons_succ]
    simp [atK, h]

set_option maxRecDepth 100000 in
set_option maxHeartbeats 1000000 in
theorem newReader_any (f : FM) (S : f.Small) (hfl : 0 ≤ f.flags ∧ f.flags < 4294967296) (d o c : Nat) (ro : Bool) (w : World) (hc : f.bytes.length ≤ c) (ha : At w d o f.bytes) (hd : d < w.heap.size) :
    Calls Tryz.prog 22 #[.slice (some ⟨d, o, none⟩) f.bytes.length c, .bool ro] w (NewRdr f ro d o c w) := by
  obtain ⟨n, hn⟩ : ∃ n, n = f.bytes.length := ⟨_, rfl⟩
  rw [← hn] at hc ⊢
  obtain ⟨w1, hw1⟩ : ∃ w1, w1 = w.alloc (.cells (rd0 (.slice (some ⟨d, o, none⟩) n c) ro) 127) := ⟨_, rfl⟩
  have HH := Lib.hid (show Calls Tryz.prog 53 #[.pointer (some ⟨w.heap.size, 3, none⟩), .pointer (some ⟨w.heap.size, 0, none⟩)] w1 (HeadRead f (.slice (some ⟨d, o, none⟩) n c) ro w.heap.size w1) from by
    have h := headRead_any f S hfl w.heap.size d o c ro w1 (hn ▸ hc) (by rw [hw1, ← rd0_eq, ← hn]; exact Blk.new _ _ _) (by rw [hw1]; exact ha.here (later_alloc _ _)) hd
    rw [← hn] at h
    exact h)
  have HW := Lib.hid hw1
  have BW := Lib.hid (show Below w.heap.size w w1 from by rw [hw1]; exact later_alloc _ _)
  have SM := Lib.hid S
  have HN := Lib.hid hn
  have HA := Lib.hid ha
  clear hw1 S hn ha
  go_enter Tryz.func22, Tryz.ntmps22
  go_upto_region 2 with (first | (refine Go.Great.wpList_readTo rfl (some 9) (by rfl) (.agg (rd0 (.slice (some ⟨d, o, none⟩) n c) ro)) (by as_aux_lemma => kernel_rfl) ?_) | (refine Go.Great.wpList_allocTo rfl (some 10) (by rfl) (.pointer (some ⟨w.heap.size, 0, none⟩)) (.cells (rd0 (.slice (some ⟨d, o, none⟩) n c) ro) 127) (by as_aux_lemma => kernel_rfl) ?_))
  rw [← HW.out]
  go_wp2_with fail
  refine HH.out.mono ?_
  rintro e w2 ⟨rfl, hb2, hB2⟩
  have HB2 := Lib.hid hb2
  have B2 := Lib.hid (BW.out.trans hB2)
  clear hb2 hB2
  go_wp2_with fail
  go_ret
  exact ⟨_, rfl, Nat.le_refl _, rdr_of SM.out (by rw [← HN.out]; exact hc) (by rw [← HN.out]; exact HB2.out) (HA.out.here B2.out), B2.out⟩
end Go.Proofs.YtajeinkkfggcbaaGreatDoor
