/- An object file written. -/
import Derived.Great.Walk
import Derived.Test.YtajeinkkfggcbaaGreatDoorBlocks
import Derived.Test.YtajeinkkfggcbaaGreatDoorHdr
namespace Go.Proofs.YtajeinkkfggcbaaGreatDoor
open Go.RowKit Go.Maps

theorem newWriterM_any (B b : Nat) (w : World) (h : IsBuf B b [] w) : Calls Tryz.prog 17 #[.pointer (some ⟨b, 0, none⟩)] w fun e w' => ∃ wb mb, e = .returned (.pointer (some ⟨wb, 0, none⟩)) ∧ IsW B wb b mb 0 [] (fun _ => none) w' ∧ w.heap.size ≤ wb ∧ w.heap.size ≤ mb ∧ Below w.heap.size w w' := by
  have hmm := @run_makeMap Tryz.prog
  go_enter Tryz.func17, Tryz.ntmps17
  go_wp2
  go_ret
  have hb : Below w.heap.size w ((w.alloc (.map #[] 0)).alloc (.cells #[.pointer (some ⟨b, 0, none⟩), .map (some w.heap.size), .int .u32 0, .int .u8 0, .int .u8 0, .int .u8 0, .int .u8 0, .int .u8 0, .int .u8 0, .int .u8 0, .int .u8 0] 100)) := by (repeat' (first | (with_reducible exact Below.refl _ _) | (with_reducible assumption) | (with_reducible refine below_drewN ?_ _) | (with_reducible refine Below.alloc ?_ ?_ _) | (with_reducible refine Below.drew ?_) | (with_reducible refine Below.setCell ?_ ?_ _) | go_size))
  have hlt := h.lt
  have h1 := h.1
  exact ⟨_, w.heap.size, rfl, ⟨⟨by omega, ⟨_, _, _, _, _, _, _, _, by simpa using Blk.new1 w _ _ _⟩, isBuffer_fr h (Fr.of_below (gs := []) hb) (by simp) (by simp)⟩, (MapIs.made w).here (later_alloc _ _), by omega⟩, by omega, Nat.le_refl _, hb⟩

abbrev zeros19 : List Nat := [0, 0, 0, 0, 0, 0, 0, 0, 0, 0, 0, 0, 0, 0, 0, 0, 0, 0, 0]
/-- The header's offsets in the k-th round. -/
def osK (f : FM) (k : Nat) : List Nat := if k = 0 then zeros19 else f.offs
theorem osK_len (f : FM) (k : Nat) : (osK f k).length = 19 := by
  unfold osK
  split
  · rfl
  · exact f.offs_len
theorem FM.Small.osK_le {f : FM} (S : f.Small) (k : Nat) : ∀ x ∈ osK f k, x ≤ 200000 := by
  intro x hx
  unfold osK at hx
  split at hx
  · simp only [zeros19, List.mem_cons, List.not_mem_nil, or_false] at hx
    omega
  · simp only [FM.offs, List.mem_map] at hx
    obtain ⟨i, _, rfl⟩ := hx
    have := S.at_le i
    omega
theorem atK_offs (f : FM) : (atK f 19).toList = (f.offs.map Int.ofNat).map (Value.int .u32) := by
  unfold atK FM.offs
  rw [List.map_map, List.map_map]
  apply List.map_congr_left
  intro j hj
  have := List.mem_range.1 hj
  simp [this]
theorem hdL_len {fp : List Int} {fl : Int} {os : List Int} (h : fp.length = 8) (ho : os.length = 19) : (hdL fp fl os).length = 29 := by
  simp [hdL, h, ho]
theorem hdL_splice {fp : List Int} {fl : Int} {os : List Int} (h : fp.length = 8) (ho : os.length = 19) (zs : List Int) (hz : zs.length = 19) : splice (hdL fp fl os) 10 (zs.map (Value.int .u32)) = hdL fp fl zs := by
  obtain ⟨a0, a1, a2, a3, a4, a5, a6, a7, rfl⟩ := list8 h
  have e1 : (hdL [a0, a1, a2, a3, a4, a5, a6, a7] fl os).take 10 = [.string magicS, .int .u8 a0, .int .u8 a1, .int .u8 a2, .int .u8 a3, .int .u8 a4, .int .u8 a5, .int .u8 a6, .int .u8 a7, .int .u32 fl] := rfl
  have e2 : (hdL [a0, a1, a2, a3, a4, a5, a6, a7] fl os).drop (10 + (zs.map (Value.int .u32)).length) = [] := List.drop_of_length_le (by rw [hdL_len rfl ho, List.length_map, hz]; omega)
  unfold splice
  rw [e1, e2, List.append_nil]
  rfl
abbrev hdZ : Array Value := #[.string ⟨#[]⟩, .int .u8 0, .int .u8 0, .int .u8 0, .int .u8 0, .int .u8 0, .int .u8 0, .int .u8 0, .int .u8 0, .int .u32 0, .int .u32 0, .int .u32 0, .int .u32 0, .int .u32 0, .int .u32 0, .int .u32 0, .int .u32 0, .int .u32 0, .int .u32 0, .int .u32 0, .int .u32 0, .int .u32 0, .int .u32 0, .int .u32 0, .int .u32 0, .int .u32 0, .int .u32 0, .int .u32 0, .int .u32 0]
abbrev hdN (p0 p1 p2 p3 p4 p5 p6 p7 fl : Int) : Array Value := #[.string ⟨#[0, 103, 111, 49, 50, 48, 108, 100]⟩, .int .u8 p0, .int .u8 p1, .int .u8 p2, .int .u8 p3, .int .u8 p4, .int .u8 p5, .int .u8 p6, .int .u8 p7, .int .u32 fl, .int .u32 0, .int .u32 0, .int .u32 0, .int .u32 0, .int .u32 0, .int .u32 0, .int .u32 0, .int .u32 0, .int .u32 0, .int .u32 0, .int .u32 0, .int .u32 0, .int .u32 0, .int .u32 0, .int .u32 0, .int .u32 0, .int .u32 0, .int .u32 0, .int .u32 0]
theorem hdN_eq (p0 p1 p2 p3 p4 p5 p6 p7 fl : Int) : hdN p0 p1 p2 p3 p4 p5 p6 p7 fl = (hdL [p0, p1, p2, p3, p4, p5, p6, p7] fl (zeros19.map Int.ofNat)).toArray := rfl
theorem Tryz.info29 : (Tryz.prog.info? 67).map (·.size) = some 29 := by kernel_rfl

set_option maxRecDepth 100000 in
set_option maxHeartbeats 2000000 in
theorem buildFile_any (f : FM) (w : World) (hI : f.In w) (S : f.Small) : Calls Tryz.prog 7 #[f.val] w (RetB f.bytes w) := by
  obtain ⟨p0, p1, p2, p3, p4, p5, p6, p7, a0, a1, a2, a3, a4, a5, a6, a7, a8, a9, a10, a11, efp, hA, e⟩ := FM.val_eq hI.fp.1
  have HE := Lib.hid e
  rw [e]
  clear e
  have HFP := Lib.hid efp
  have HI := Lib.hid hI
  have SM := Lib.hid S
  have hfl := hI.flags
  obtain ⟨w0, hw0⟩ : ∃ w0, w0 = w.alloc (.cells (fileArr p0 p1 p2 p3 p4 p5 p6 p7 a0 a1 a2 a3 a4 a5 a6 a7 a8 a9 a10 a11 f) 33) := ⟨_, rfl⟩
  have BX0 := Lib.hid (show Blk w0 w.heap.size 33 (fileArr p0 p1 p2 p3 p4 p5 p6 p7 a0 a1 a2 a3 a4 a5 a6 a7 a8 a9 a10 a11 f) from by rw [hw0]; exact Blk.new _ _ _)
  have B0 := Lib.hid (show Below w.heap.size w w0 from by rw [hw0]; exact later_alloc _ _)
  have HW := Lib.hid hw0
  have Z0 := Lib.hid (show w0.heap.size = w.heap.size + 1 from by rw [hw0]; simp)
  obtain ⟨w1, hw1⟩ : ∃ w1, w1 = w0.alloc (.cells hdZ 67) := ⟨_, rfl⟩
  have HW1 := Lib.hid hw1
  have BH1 := Lib.hid (show Blk w1 w0.heap.size 67 hdZ from by rw [hw1]; exact Blk.new _ _ _)
  obtain ⟨w2, hw2⟩ : ∃ w2, w2 = w1.setRow w0.heap.size (hdN p0 p1 p2 p3 p4 p5 p6 p7 f.flags) := ⟨_, rfl⟩
  have HW2 := Lib.hid hw2
  have BH2 := Lib.hid (show Blk w2 w0.heap.size 67 (hdL f.fp f.flags ((osK f 0).map Int.ofNat)).toArray from by rw [hw2, efp]; exact BH1.out.setRow _)
  have FR2 := Lib.hid (show Fr [w0.heap.size] w1 w2 from by rw [hw2]; exact (Fr.refl _ _).setRow (by simp) _)
  have BX1 := Lib.hid (show Blk w1 w.heap.size 33 (fileArr p0 p1 p2 p3 p4 p5 p6 p7 a0 a1 a2 a3 a4 a5 a6 a7 a8 a9 a10 a11 f) from by rw [hw1]; exact BX0.out.alloc _)
  have BX2 := Lib.hid (BX1.out.fr FR2.out (by have := Z0.out; simp; omega))
  have B2 := Lib.hid (show Below w.heap.size w w2 from by
    have h1 : Below w.heap.size w w1 := by rw [hw1]; exact B0.out.alloc B0.out.size _
    exact h1.trans ⟨FR2.out.os, FR2.out.tape, FR2.out.output, FR2.out.size, fun k hk => FR2.out.block k (by have := h1.size; omega) (by have := Z0.out; simp; omega)⟩)
  have q0 := BX0.out.cell 0
  have q1 := BX0.out.cell 1
  have q2 := BX0.out.cell 2
  have q3 := BX0.out.cell 3
  have q4 := BX0.out.cell 4
  have q5 := BX0.out.cell 5
  have q6 := BX0.out.cell 6
  have q7 := BX0.out.cell 7
  have q8 := BX0.out.cell 8
  clear hI hA hw0 hw1 hw2 efp S
  go_enter Tryz.func7, Tryz.ntmps7
  go_upto_region 1 with fail
  rw [← HW.out]
  go_upto_region 2 with (first | (refine Go.Great.wpList_readTo rfl (some 11) (by rfl) (.agg (hdN p0 p1 p2 p3 p4 p5 p6 p7 f.flags)) (by as_aux_lemma => kernel_rfl) ?_) | (refine Go.Great.wpList_allocTo rfl (some 3) (by rfl) (.pointer (some ⟨w0.heap.size, 0, none⟩)) (.cells hdZ 67) (by as_aux_lemma => kernel_rfl) ?_; rw [← HW1.out]) | (refine wpList_store_row rfl 67 (.tmp 3) (.tmp 11) rfl w0.heap.size (hdN p0 p1 p2 p3 p4 p5 p6 p7 f.flags) (by rfl) (by rfl) 67 hdZ BH1.out Tryz.info29 rfl (by simp [Value.oneCell']) ?_; rw [← HW2.out]))
  go_frame
  clear q0 q1 q2 q3 q4 q5 q6 q7 q8 HW HW1 HW2 BH1 BX1 BX0 B0 FR2
  have z2 := B2.out.size
  have OW3 := Lib.hid (BX2.out.alloc (.cells #[] 5))
  have BH3 := Lib.hid (BH2.out.alloc (.cells #[] 5))
  have B3 := Lib.hid (B2.out.alloc z2 (.cells #[] 5))
  go_wp2_with fail
  go_loopw [4, 5, 6, 13] (fun v _ _ i wr => ∃ k : Nat, k ≤ 2 ∧ i = .int .i64 k ∧ Blk wr w.heap.size 33 (fileArr p0 p1 p2 p3 p4 p5 p6 p7 a0 a1 a2 a3 a4 a5 a6 a7 a8 a9 a10 a11 f) ∧ Blk wr w0.heap.size 67 (hdL f.fp f.flags ((osK f k).map Int.ofNat)).toArray ∧ Below w.heap.size w wr ∧ Hid (k = 2 → ∃ A c, v = .slice A f.bytes.length c ∧ SlI .u8 wr A f.bytes ∧ f.bytes.length ≤ c)) (fun _ _ _ i _ => 2 - (intOf i).toNat)
  case atStart => exact ⟨0, by omega, rfl, OW3.out, BH3.out, B3.out, Lib.hid (fun h => by omega)⟩
  case round =>
    obtain ⟨k, hk, rfl, hbx, hbh, hbw, HV⟩ := hrel
    have BX := Lib.hid hbx
    have BH := Lib.hid hbh
    have BW := Lib.hid hbw
    have zb := hbw.size
    clear hbx hbh hbw OW3 BH3 B3 BX2 BH2 B2 z2
    by_cases hlt : k < 2
    · have hkb : decide ((k : Int) < 2) = true := by simp; omega
      obtain ⟨u0, hu0⟩ : ∃ u0, u0 = wr.alloc (.cells #[.slice none 0 0, .int .i64 0, .int .i8 0] 72) := ⟨_, rfl⟩
      have HU0 := Lib.hid hu0
      have BF0 := Lib.hid (isBuf_new (B := w.heap.size) zb (show Blk u0 wr.heap.size 72 #[.slice none 0 0, .int .i64 0, .int .i8 0] from by rw [hu0]; exact Blk.new _ _ _))
      have LA0 := Lib.hid (show Below wr.heap.size wr u0 from by rw [hu0]; exact later_alloc _ _)
      have us : u0.heap.size = wr.heap.size + 1 := by rw [hu0]; simp
      have US := Lib.hid us
      have zx := BX.out.lt
      have zh := BH.out.lt
      clear hu0 us HV
      go_upto_region 6 with fail
      rw [← HU0.out]
      go_upto_region 7 with (go_at_call 17; refine (newWriterM_any w.heap.size wr.heap.size u0 BF0.out).mono ?_; rintro e u1 ⟨wb, mb, rfl, hw1, hwb, hmb, hb1⟩)
      have GN := Lib.hid (show w0.heap.size ∉ [wb, wr.heap.size, mb] from by have := US.out; simp; omega)
      have XN := Lib.hid (show w.heap.size ∉ [wb, wr.heap.size, mb] from by have := US.out; simp; omega)
      have W1 := Lib.hid hw1
      have L1 := Lib.hid (below_from LA0.out hb1)
      have BX1 := Lib.hid (BX.out.here L1.out)
      have BH1 := Lib.hid (BH.out.here L1.out)
      have BW1 := Lib.hid (BW.out.trans (L1.out.mono zb))
      have FP1 := Lib.hid (show wb ≠ wr.heap.size from by have := US.out; omega)
      clear hw1 hb1 hwb hmb BF0 LA0 BX BH BW HU0
      go_upto_region 8 with (go_at_call 18; refine (hdrWrite_any f SM.out hfl (osK f k) (osK_len f k) (SM.out.osK_le k) w.heap.size wb wr.heap.size mb 0 w0.heap.size _ u1 W1.out BH1.out GN.out).mono ?_; rintro e u2 k2; have W2 := Lib.hid k2.2.1; have F2 := Lib.hid k2.2.2; obtain ⟨rfl, _⟩ := k2)
      have BX2 := Lib.hid (F2.out.blk BX1.out XN.out (by decide))
      have BH2 := Lib.hid (F2.out.blk BH1.out GN.out (by decide))
      have BW2 := Lib.hid (BW1.out.trans ⟨F2.out.os, F2.out.tape, F2.out.output, F2.out.size, F2.out.low⟩)
      have HLEN := Lib.hid (FM.hdr_len SM.out (osK f k) (osK_len f k))
      clear BX1 BH1 BW1 W1 F2
      go_upto_region 9 with (first | (refine wpList_load_row rfl 33 (.tmp 1) rfl w.heap.size rfl 33 _ (0, 0) _ BX2.out Tryz.underlying33 rfl Tryz.fileInfo ?_) | (go_at_call 19; refine (show Calls Tryz.prog 19 #[.agg (fileArr p0 p1 p2 p3 p4 p5 p6 p7 a0 a1 a2 a3 a4 a5 a6 a7 a8 a9 a10 a11 f), .pointer (some ⟨wb, 0, none⟩)] u2 (WroteM w.heap.size wb wr.heap.size mb f.names.length (f.hdr (osK f k) ++ f.tab.1) f.tab.2 u2) from by have h := strings_any f w u2 (f.hdr (osK f k)) wb wr.heap.size mb HI.out SM.out HLEN.out BW2.out W2.out; rw [HE.out] at h; exact h).mono ?_; rintro e u3 k3; have W3 := Lib.hid k3.2.1; have F3 := Lib.hid k3.2.2; obtain ⟨rfl, _⟩ := k3))
      have BX3 := Lib.hid (F3.out.blk BX2.out XN.out (by decide))
      have BH3 := Lib.hid (F3.out.blk BH2.out GN.out (by decide))
      have BW3 := Lib.hid (BW2.out.trans ⟨F3.out.os, F3.out.tape, F3.out.output, F3.out.size, F3.out.low⟩)
      have PL := Lib.hid (show (f.hdr (osK f k) ++ f.tab.1).length = f.base from by rw [List.length_append, HLEN.out]; rfl)
      clear BX2 BH2 BW2 W2 F3
      go_upto_region 10 with (first | (refine wpList_load_row rfl 33 (.tmp 1) rfl w.heap.size rfl 33 _ (0, 0) _ BX3.out Tryz.underlying33 rfl Tryz.fileInfo ?_) | (go_at_call 20; refine (show Calls Tryz.prog 20 #[.agg (fileArr p0 p1 p2 p3 p4 p5 p6 p7 a0 a1 a2 a3 a4 a5 a6 a7 a8 a9 a10 a11 f), .pointer (some ⟨wb, 0, none⟩)] u3 (Blocked f w.heap.size u3 wb wr.heap.size mb (f.pre (f.hdr (osK f k) ++ f.tab.1) 18)) from by have h := blocks_any f w u3 (f.hdr (osK f k) ++ f.tab.1) wb wr.heap.size mb HI.out SM.out PL.out BW3.out W3.out; rw [HE.out] at h; exact h).mono ?_; rintro e u4 k4; have W4 := Lib.hid k4.2.1; have F4 := Lib.hid k4.2.2; obtain ⟨rfl, _⟩ := k4; have BX4 := Lib.hid (F4.out.blk BX3.out XN.out (by decide)); have BH4 := Lib.hid (F4.out.blk BH3.out GN.out (by decide)); have BW4 := Lib.hid (BW3.out.trans ⟨F4.out.os, F4.out.tape, F4.out.output, F4.out.size, F4.out.low⟩); clear BX3 BH3 BW3 W3 F4) | (refine wpList_store_part rfl 65 (.tmp 27) (.tmp 26) rfl w0.heap.size 10 (atK f 19) (by rfl) (by rfl) 67 _ BH4.out (by rw [atK_size]; exact Tryz.info19) (by rw [atK_size, List.size_toArray, hdL_len SM.out.fp (by rw [List.length_map, osK_len])]; omega) (atK_one f 19) ?_))
      obtain ⟨u5, hu5⟩ : ∃ u5, u5 = u4.setRow w0.heap.size (splice (hdL f.fp f.flags ((osK f k).map Int.ofNat)) 10 (atK f 19).toList).toArray := ⟨_, rfl⟩
      rw [← hu5]
      have FR5 := Lib.hid (show Fr [w0.heap.size] u4 u5 from by rw [hu5]; exact (Fr.refl _ _).setRow (by simp) _)
      have BH5 := Lib.hid (show Blk u5 w0.heap.size 67 (hdL f.fp f.flags ((osK f (k + 1)).map Int.ofNat)).toArray from by
        have h := BH4.out.setRow (splice (hdL f.fp f.flags ((osK f k).map Int.ofNat)) 10 (atK f 19).toList).toArray
        rw [← hu5, atK_offs, hdL_splice SM.out.fp (by rw [List.length_map, osK_len]) _ (by rw [List.length_map, f.offs_len])] at h
        exact h)
      have GNN := GN.out
      simp at GNN
      have W5 := Lib.hid (W4.out.fr BH4.out (by decide) GNN.1 GNN.2.1 FR5.out)
      have BX5 := Lib.hid (BX4.out.fr FR5.out (by have := Z0.out; simp; omega))
      have BW5 := Lib.hid (show Below w.heap.size w u5 from BW4.out.trans ⟨FR5.out.os, FR5.out.tape, FR5.out.output, FR5.out.size, fun k hk => FR5.out.block k (by have := BW4.out.size; omega) (by have := Z0.out; simp; omega)⟩)
      obtain ⟨Y, hY⟩ : ∃ Y, Y = f.pre (f.hdr (osK f k) ++ f.tab.1) 18 := ⟨_, rfl⟩
      have IB := Lib.hid (show IsBuf w.heap.size wr.heap.size Y u5 from by rw [hY]; exact W5.out.wr.buf)
      have HY := Lib.hid hY
      clear hu5 GNN hY BX4 BH4 BW4 W4 FR5 W5
      go_frame
      go_wp2_with fail
      refine (buffer_Bytes w.heap.size wr.heap.size Y u5 IB.out).mono ?_
      rintro e u6 ⟨A, c, rfl, h1, h2, n, rfl⟩
      have S1 := Lib.hid h1
      have S2 := Lib.hid h2
      clear h1 h2 IB
      go_wp2_with fail
      go_roundw
      case rel => exact ⟨k + 1, by omega, by go_num, BX5.out.drewN n, BH5.out.drewN n, below_drewN BW5.out n, Lib.hid (fun h => by
        obtain rfl : k = 1 := by omega
        have e : Y = f.bytes := by
          rw [HY.out]
          unfold FM.pre FM.bytes
          rw [show f.blks.take 18 = f.blks from rfl, List.append_assoc]
          rfl
        rw [← e]
        exact ⟨A, c, rfl, S1.out, S2.out⟩)⟩
      case measure => simp [intOf]; omega
    · obtain rfl : k = 2 := by omega
      obtain ⟨A, c, rfl, h1, h2⟩ := HV.out rfl
      have S1 := Lib.hid h1
      have S2 := Lib.hid h2
      clear h1 h2 HV
      go_wp2_with fail
      go_ret
      exact ⟨A, c, rfl, S1.out, S2.out, BW.out⟩
end Go.Proofs.YtajeinkkfggcbaaGreatDoor
