/- Laws on an object file: whether it may be changed, how many there are, in one way. (printed by gen_fl1.py) -/
import Derived.Test.YtimdaolbdgafcaaDoorSmall
import Derived.Test.YtimdaolbdgafcaaDoorBuild
import Derived.Test.YtimdaolbdgafcaaDoorPws
namespace Go.Proofs.YtimdaolbdgafcaaDoor
open Go.RowKit

set_option maxRecDepth 100000 in
set_option maxHeartbeats 1000000 in
theorem fnFileReadOnly_walk (f : FM) (only : Bool) (w : World) (hI : f.In w) : Calls Tryd.prog 4 #[f.val, .bool only] w (LawEnd w) := by
  obtain ⟨p0, p1, p2, p3, p4, p5, p6, p7, a0, a1, a2, a3, a4, a5, a6, a7, a8, a9, a10, a11, efp, hA, e⟩ := FM.val_eq hI.fp.1
  have HE := Lib.hid e
  have EFP := Lib.hid efp
  rw [e]
  clear e efp
  have HI := Lib.hid hI
  have HA := Lib.hid hA
  obtain ⟨w0, hw0⟩ : ∃ w0, w0 = w.alloc (.cells (fileArr p0 p1 p2 p3 p4 p5 p6 p7 a0 a1 a2 a3 a4 a5 a6 a7 a8 a9 a10 a11 f) 33) := ⟨_, rfl⟩
  have BX0 := Lib.hid (show Blk w0 w.heap.size 33 (fileArr p0 p1 p2 p3 p4 p5 p6 p7 a0 a1 a2 a3 a4 a5 a6 a7 a8 a9 a10 a11 f) from by rw [hw0]; exact Blk.new _ _ _)
  have B0 := Lib.hid (show Below w.heap.size w w0 from by rw [hw0]; exact later_alloc _ _)
  have HW := Lib.hid hw0
  have Z6 := Lib.hid (show Calls Tryd.prog 17 #[.agg (fileArr p0 p1 p2 p3 p4 p5 p6 p7 a0 a1 a2 a3 a4 a5 a6 a7 a8 a9 a10 a11 f)] w0 (RetIf (∀ L ∈ f.lists, L.l.length ≤ 2147483647) w0) from by have h := zz6_any f w0 (HI.out.here B0.out); rw [HE.out] at h; exact h)
  have SMA := Lib.hid (fun (W : World) (hb : Below w.heap.size w W) (hL : ∀ L ∈ f.lists, L.l.length ≤ 2147483647) => show Calls Tryd.prog 18 #[.agg (fileArr p0 p1 p2 p3 p4 p5 p6 p7 a0 a1 a2 a3 a4 a5 a6 a7 a8 a9 a10 a11 f)] W (RetIf f.Small W) from by have h := small_any f W (HI.out.here hb) hL; rw [HE.out] at h; exact h)
  have BFA := Lib.hid (fun (W : World) (hb : Below w.heap.size w W) (S : f.Small) => show Calls Tryd.prog 19 #[.agg (fileArr p0 p1 p2 p3 p4 p5 p6 p7 a0 a1 a2 a3 a4 a5 a6 a7 a8 a9 a10 a11 f)] W (RetB f.bytes W) from by have h := buildFile_any f W (HI.out.here hb) S; rw [HE.out] at h; exact h)
  clear hI hA hw0
  go_enter Tryd.func4, Tryd.ntmps4
  go_upto_region 1 with fail
  rw [← HW.out]
  go_wp2_with (refine wpList_load_row rfl 33 (.tmp 2) rfl w.heap.size rfl 33 _ (0, 0) _ BX0.out Tryd.underlying33 rfl Tryd.fileInfo ?_)
  refine Z6.out.mono ?_
  rintro e w1 ⟨b1, rfl, hp1, hb1⟩
  have BX1 := Lib.hid (BX0.out.here hb1)
  have B1 := Lib.hid (below_from B0.out hb1)
  clear hb1
  rcases b1 with _ | _
  · go_wp2_with fail
    go_returns
    exact ⟨rfl, B1.out⟩
  have FL := Lib.hid (hp1 rfl)
  clear hp1 BX0 B0 Z6 HW
  go_wp2_with (refine wpList_load_row rfl 33 (.tmp 2) rfl w.heap.size rfl 33 _ (0, 0) _ BX1.out Tryd.underlying33 rfl Tryd.fileInfo ?_)
  refine (SMA.out w1 B1.out FL.out).mono ?_
  rintro e w2 ⟨b2, rfl, hp2, hb2⟩
  have BX2 := Lib.hid (BX1.out.here hb2)
  have B2 := Lib.hid (below_from B1.out hb2)
  clear hb2
  rcases b2 with _ | _
  · go_wp2_with fail
    go_returns
    exact ⟨rfl, B2.out⟩
  have SM := Lib.hid (hp2 rfl)
  clear hp2 BX1 B1 SMA
  go_wp2_with (refine wpList_load_row rfl 33 (.tmp 2) rfl w.heap.size rfl 33 _ (0, 0) _ BX2.out Tryd.underlying33 rfl Tryd.fileInfo ?_)
  refine (BFA.out w2 B2.out SM.out).mono ?_
  rintro e w3 ⟨A3, c3, rfl, s3, k3, hb3⟩
  have len0 := FM.bytes_len SM.out
  have len1 := f.at_mono 0 18 (by omega)
  obtain ⟨d, o, rfl, at3⟩ := s3.at_ (by omega)
  have BX3 := Lib.hid (BX2.out.here hb3)
  have B3 := Lib.hid (below_from B2.out hb3)
  obtain ⟨n, hn⟩ : ∃ n, n = f.bytes.length := ⟨_, rfl⟩
  rw [← hn] at k3 len0 ⊢
  have D3 := Lib.hid (show Dat f d o n c3 w3 from ⟨hn, SM.out, HI.out.flags, k3, at3, at3.lt (by rw [← hn]; omega)⟩)
  have n0 : (96 : Int) ≤ n := by omega
  have n1 : (n : Int) ≤ 110000 := by omega
  have n2 : (n : Int) ≤ c3 := by omega
  clear len0 len1 hn s3 k3 at3 hb3 BX2 B2
  go_wp2_with fail
  refine (fileReadOnly_any D3.out only).mono ?_
  rintro e w4 ⟨rfl, hb4⟩
  have B4 := Lib.hid (below_from B3.out hb4)
  go_wp2_with fail
  go_returns
  exact ⟨by simp, B4.out⟩
theorem fnFileReadOnly_any {H : Type} {enc : TypeId × Value → H} (x0 x1 x2 x3 x4 x5 x6 x7 x8 : Int) (x9 x10 x11 x12 x13 x14 x15 x16 x17 x18 x19 x20 : Value) (only : Bool) (w : World) (b0 : 0 ≤ x0 ∧ x0 < 256) (b1 : 0 ≤ x1 ∧ x1 < 256) (b2 : 0 ≤ x2 ∧ x2 < 256) (b3 : 0 ≤ x3 ∧ x3 < 256) (b4 : 0 ≤ x4 ∧ x4 < 256) (b5 : 0 ≤ x5 ∧ x5 < 256) (b6 : 0 ≤ x6 ∧ x6 < 256) (b7 : 0 ≤ x7 ∧ x7 < 256) (b8 : 0 ≤ x8 ∧ x8 < 4294967296) (b9 : Rd enc Tryd.prog w 24 [x9]) (b10 : Rd enc Tryd.prog w 25 [x10]) (b11 : Rd enc Tryd.prog w 25 [x11]) (b12 : Rd enc Tryd.prog w 26 [x12]) (b13 : Rd enc Tryd.prog w 26 [x13]) (b14 : Rd enc Tryd.prog w 26 [x14]) (b15 : Rd enc Tryd.prog w 26 [x15]) (b16 : Rd enc Tryd.prog w 27 [x16]) (b17 : Rd enc Tryd.prog w 28 [x17]) (b18 : Rd enc Tryd.prog w 29 [x18]) (b19 : Rd enc Tryd.prog w 30 [x19]) (b20 : Rd enc Tryd.prog w 31 [x20]) : Calls Tryd.prog 4 #[.agg #[.int .u8 x0, .int .u8 x1, .int .u8 x2, .int .u8 x3, .int .u8 x4, .int .u8 x5, .int .u8 x6, .int .u8 x7, .int .u32 x8, x9, x10, x11, x12, x13, x14, x15, x16, x17, x18, x19, x20], .bool only] w (LawEnd w) := by
  obtain ⟨f, hI, e⟩ := Rd.file b0 b1 b2 b3 b4 b5 b6 b7 b8 b9 b10 b11 b12 b13 b14 b15 b16 b17 b18 b19 b20
  rw [← e]
  exact fnFileReadOnly_walk f only w hI
set_option maxRecDepth 100000 in
theorem eq7 (f : FM) (W : World) : (binOp .eql 62 (.agg #[.int .i64 f.own.l.length, .int .i64 f.short.l.length, .int .i64 f.hashed.l.length, .int .i64 f.other.l.length, .int .i64 f.refs.l.length, .int .i64 f.rf.l.length, .int .i64 f.rn.l.length]) (.agg #[.int .i64 f.own.l.length, .int .i64 f.short.l.length, .int .i64 f.hashed.l.length, .int .i64 f.other.l.length, .int .i64 f.refs.l.length, .int .i64 f.rf.l.length, .int .i64 f.rn.l.length])).run Tryd.prog W = .ok (.bool true) W := by
  have h := run_eql_ints (P := Tryd.prog) (t := 62) (n := 7) W Tryd.underlying62 Tryd.underlying3 (by kernel_rfl) (by kernel_rfl) [(f.own.l.length : Int), f.short.l.length, f.hashed.l.length, f.other.l.length, f.refs.l.length, f.rf.l.length, f.rn.l.length] [(f.own.l.length : Int), f.short.l.length, f.hashed.l.length, f.other.l.length, f.refs.l.length, f.rf.l.length, f.rn.l.length] rfl rfl
  simpa using h
set_option maxRecDepth 100000 in
set_option maxHeartbeats 1000000 in
theorem fnFileSizes_walk (f : FM) (w : World) (hI : f.In w) : Calls Tryd.prog 10 #[f.val] w (LawEnd w) := by
  obtain ⟨p0, p1, p2, p3, p4, p5, p6, p7, a0, a1, a2, a3, a4, a5, a6, a7, a8, a9, a10, a11, efp, hA, e⟩ := FM.val_eq hI.fp.1
  have HE := Lib.hid e
  have EFP := Lib.hid efp
  rw [e]
  clear e efp
  have HI := Lib.hid hI
  have HA := Lib.hid hA
  obtain ⟨w0, hw0⟩ : ∃ w0, w0 = w.alloc (.cells (fileArr p0 p1 p2 p3 p4 p5 p6 p7 a0 a1 a2 a3 a4 a5 a6 a7 a8 a9 a10 a11 f) 33) := ⟨_, rfl⟩
  have BX0 := Lib.hid (show Blk w0 w.heap.size 33 (fileArr p0 p1 p2 p3 p4 p5 p6 p7 a0 a1 a2 a3 a4 a5 a6 a7 a8 a9 a10 a11 f) from by rw [hw0]; exact Blk.new _ _ _)
  have B0 := Lib.hid (show Below w.heap.size w w0 from by rw [hw0]; exact later_alloc _ _)
  have HW := Lib.hid hw0
  have Z6 := Lib.hid (show Calls Tryd.prog 17 #[.agg (fileArr p0 p1 p2 p3 p4 p5 p6 p7 a0 a1 a2 a3 a4 a5 a6 a7 a8 a9 a10 a11 f)] w0 (RetIf (∀ L ∈ f.lists, L.l.length ≤ 2147483647) w0) from by have h := zz6_any f w0 (HI.out.here B0.out); rw [HE.out] at h; exact h)
  have SMA := Lib.hid (fun (W : World) (hb : Below w.heap.size w W) (hL : ∀ L ∈ f.lists, L.l.length ≤ 2147483647) => show Calls Tryd.prog 18 #[.agg (fileArr p0 p1 p2 p3 p4 p5 p6 p7 a0 a1 a2 a3 a4 a5 a6 a7 a8 a9 a10 a11 f)] W (RetIf f.Small W) from by have h := small_any f W (HI.out.here hb) hL; rw [HE.out] at h; exact h)
  have BFA := Lib.hid (fun (W : World) (hb : Below w.heap.size w W) (S : f.Small) => show Calls Tryd.prog 19 #[.agg (fileArr p0 p1 p2 p3 p4 p5 p6 p7 a0 a1 a2 a3 a4 a5 a6 a7 a8 a9 a10 a11 f)] W (RetB f.bytes W) from by have h := buildFile_any f W (HI.out.here hb) S; rw [HE.out] at h; exact h)
  clear hI hA hw0
  go_enter Tryd.func10, Tryd.ntmps10
  go_upto_region 1 with fail
  rw [← HW.out]
  go_wp2_with (refine wpList_load_row rfl 33 (.tmp 1) rfl w.heap.size rfl 33 _ (0, 0) _ BX0.out Tryd.underlying33 rfl Tryd.fileInfo ?_)
  refine Z6.out.mono ?_
  rintro e w1 ⟨b1, rfl, hp1, hb1⟩
  have BX1 := Lib.hid (BX0.out.here hb1)
  have B1 := Lib.hid (below_from B0.out hb1)
  clear hb1
  rcases b1 with _ | _
  · go_wp2_with fail
    go_returns
    exact ⟨rfl, B1.out⟩
  have FL := Lib.hid (hp1 rfl)
  clear hp1 BX0 B0 Z6 HW
  go_wp2_with (refine wpList_load_row rfl 33 (.tmp 1) rfl w.heap.size rfl 33 _ (0, 0) _ BX1.out Tryd.underlying33 rfl Tryd.fileInfo ?_)
  refine (SMA.out w1 B1.out FL.out).mono ?_
  rintro e w2 ⟨b2, rfl, hp2, hb2⟩
  have BX2 := Lib.hid (BX1.out.here hb2)
  have B2 := Lib.hid (below_from B1.out hb2)
  clear hb2
  rcases b2 with _ | _
  · go_wp2_with fail
    go_returns
    exact ⟨rfl, B2.out⟩
  have SM := Lib.hid (hp2 rfl)
  clear hp2 BX1 B1 SMA
  obtain ⟨n, hn⟩ : ∃ n, n = f.bytes.length := ⟨_, rfl⟩
  have HN := Lib.hid hn
  have hlen := (FM.bytes_len SM.out)
  have hlen2 := f.at_mono 0 18 (by omega)
  rw [← hn] at hlen
  have n0 : (96 : Int) ≤ n := by omega
  have n1 : (n : Int) ≤ 110000 := by omega
  clear hn hlen hlen2
  have k12 := BX2.out.cell 12
  have k13 := BX2.out.cell 13
  have k14 := BX2.out.cell 14
  have k15 := BX2.out.cell 15
  have k16 := BX2.out.cell 16
  have k17 := BX2.out.cell 17
  have k20 := BX2.out.cell 20
  have hz2 := B2.out.size
  have BX3 := Lib.hid (BX2.out.alloc (.cells #[.int .i64 f.own.l.length, .int .i64 f.short.l.length, .int .i64 f.hashed.l.length, .int .i64 f.other.l.length, .int .i64 f.refs.l.length, .int .i64 f.rf.l.length, .int .i64 f.rn.l.length] 62))
  have B3 := Lib.hid (B2.out.alloc hz2 (.cells #[.int .i64 f.own.l.length, .int .i64 f.short.l.length, .int .i64 f.hashed.l.length, .int .i64 f.other.l.length, .int .i64 f.refs.l.length, .int .i64 f.rf.l.length, .int .i64 f.rn.l.length] 62))
  have R7 := Lib.hid (Blk.new w2 62 #[.int .i64 f.own.l.length, .int .i64 f.short.l.length, .int .i64 f.hashed.l.length, .int .i64 f.other.l.length, .int .i64 f.refs.l.length, .int .i64 f.rf.l.length, .int .i64 f.rn.l.length])
  go_upto_region 6 with fail
  obtain ⟨w4, hw4⟩ : ∃ w4, w4 = w2.alloc (.cells #[.int .i64 f.own.l.length, .int .i64 f.short.l.length, .int .i64 f.hashed.l.length, .int .i64 f.other.l.length, .int .i64 f.refs.l.length, .int .i64 f.rf.l.length, .int .i64 f.rn.l.length] 62) := ⟨_, rfl⟩
  have BX4 := Lib.hid (show Blk w4 w.heap.size 33 (fileArr p0 p1 p2 p3 p4 p5 p6 p7 a0 a1 a2 a3 a4 a5 a6 a7 a8 a9 a10 a11 f) from by rw [hw4]; exact BX3.out)
  have B4 := Lib.hid (show Below w.heap.size w w4 from by rw [hw4]; exact B3.out)
  have R74 := Lib.hid (show Blk w4 w2.heap.size 62 #[.int .i64 f.own.l.length, .int .i64 f.short.l.length, .int .i64 f.hashed.l.length, .int .i64 f.other.l.length, .int .i64 f.refs.l.length, .int .i64 f.rf.l.length, .int .i64 f.rn.l.length] from by rw [hw4]; exact R7.out)
  rw [← hw4]
  clear hw4 BX3 B3 R7 BX2 B2 k12 k13 k14 k15 k16 k17 k20
  refine region_pw (by kernel_rfl) [.is (fun v => v = .agg (fileArr p0 p1 p2 p3 p4 p5 p6 p7 a0 a1 a2 a3 a4 a5 a6 a7 a8 a9 a10 a11 f)), .dat f n, .is (fun v => v = .agg #[.int .i64 f.own.l.length, .int .i64 f.short.l.length, .int .i64 f.hashed.l.length, .int .i64 f.other.l.length, .int .i64 f.refs.l.length, .int .i64 f.rf.l.length, .int .i64 f.rn.l.length]), .is (fun v => v = .agg #[.int .i64 f.own.l.length, .int .i64 f.short.l.length, .int .i64 f.hashed.l.length, .int .i64 f.other.l.length, .int .i64 f.refs.l.length, .int .i64 f.rf.l.length, .int .i64 f.rn.l.length]), .is (fun v => v = .bool true), .is (fun v => v = .bool true)] [32, 33, 34, 35, 36, 2] (by kernel_rfl) ?_ ?_
  · refine Steps.cons ?_ (Steps.cons ?_ (Steps.cons ?_ (Steps.cons ?_ (Steps.cons ?_ (Steps.cons ?_ (Steps.nil))))))
    all_goals (intro f_ W hW hd K hK; rw [if_pos (by rfl)]; simp only [over, List.foldl_cons, List.foldl_nil, List.setIfInBounds_toArray, List.set_cons_zero, List.set_cons_succ, Act.put] at hK ⊢; simp only [Deps, List.filter, Region.binds, pws, Pw.is, Pw.dat, List.getD_cons_zero, List.getD_cons_succ, List.getElem?_cons_zero, List.getElem?_cons_succ, Option.getD_some] at hd)
    · clear hd
      refine wp_load_row 33 (.tmp 1) rfl w.heap.size rfl 33 _ (0, 0) _ (BX4.out.drew.here hW) Tryd.underlying33 rfl Tryd.fileInfo ?_
      exact hK _ _ rfl (later_refl _)
    · have h0 := hd.1
      clear hd
      rw [h0] at hK ⊢
      go_simp
      go_at_call 19
      refine (BFA.out W (below_from B4.out.drew hW) SM.out).mono ?_
      rintro e_ w1 ⟨A, c_, rfl, h1, h2, h3⟩
      have len0 := FM.bytes_len SM.out
      have len1 := f.at_mono 0 18 (by omega)
      obtain ⟨d, o, rfl, hat⟩ := h1.at_ (by omega)
      rw [← HN.out] at h2 ⊢
      exact hK _ _ ⟨d, o, c_, rfl, ⟨HN.out, SM.out, HI.out.flags, h2, hat, hat.lt (by omega)⟩⟩ h3
    · have hd0 := hd.1
      clear hd
      obtain ⟨d, o, c_, h0, hD⟩ := hd0
      rw [h0] at hK ⊢
      go_simp
      go_at_call 28
      refine (fileSizes_any hD).mono ?_
      rintro e_ w1 ⟨rfl, h3⟩
      exact hK _ _ rfl h3
    · clear hd
      have hc := (R74.out.drew.here hW).cell
      go_simp
      exact hK _ _ rfl (later_refl _)
    · have h0 := hd.1
      have h1 := hd.2.1
      clear hd
      rw [h0, h1] at hK ⊢
      have he := eq7 f
      go_simp
      exact hK _ _ rfl (later_refl _)
    · have h0 := hd.1
      clear hd
      rw [h0] at hK ⊢
      go_simp
      exact hK _ _ rfl (later_refl _)
  · intro f_ W hW hd
    have h15 : f_ 2 = .bool true := hd 5 (by decide)
    clear hd
    have B5 := Lib.hid (below_from B4.out.drew hW)
    simp only [over, List.foldl_cons, List.foldl_nil, List.setIfInBounds_toArray, List.set_cons_zero, List.set_cons_succ, h15]
    clear h15 hW
    go_wp2_with fail
    go_returns
    exact ⟨rfl, B5.out⟩
theorem fnFileSizes_any {H : Type} {enc : TypeId × Value → H} (x0 x1 x2 x3 x4 x5 x6 x7 x8 : Int) (x9 x10 x11 x12 x13 x14 x15 x16 x17 x18 x19 x20 : Value) (w : World) (b0 : 0 ≤ x0 ∧ x0 < 256) (b1 : 0 ≤ x1 ∧ x1 < 256) (b2 : 0 ≤ x2 ∧ x2 < 256) (b3 : 0 ≤ x3 ∧ x3 < 256) (b4 : 0 ≤ x4 ∧ x4 < 256) (b5 : 0 ≤ x5 ∧ x5 < 256) (b6 : 0 ≤ x6 ∧ x6 < 256) (b7 : 0 ≤ x7 ∧ x7 < 256) (b8 : 0 ≤ x8 ∧ x8 < 4294967296) (b9 : Rd enc Tryd.prog w 24 [x9]) (b10 : Rd enc Tryd.prog w 25 [x10]) (b11 : Rd enc Tryd.prog w 25 [x11]) (b12 : Rd enc Tryd.prog w 26 [x12]) (b13 : Rd enc Tryd.prog w 26 [x13]) (b14 : Rd enc Tryd.prog w 26 [x14]) (b15 : Rd enc Tryd.prog w 26 [x15]) (b16 : Rd enc Tryd.prog w 27 [x16]) (b17 : Rd enc Tryd.prog w 28 [x17]) (b18 : Rd enc Tryd.prog w 29 [x18]) (b19 : Rd enc Tryd.prog w 30 [x19]) (b20 : Rd enc Tryd.prog w 31 [x20]) : Calls Tryd.prog 10 #[.agg #[.int .u8 x0, .int .u8 x1, .int .u8 x2, .int .u8 x3, .int .u8 x4, .int .u8 x5, .int .u8 x6, .int .u8 x7, .int .u32 x8, x9, x10, x11, x12, x13, x14, x15, x16, x17, x18, x19, x20]] w (LawEnd w) := by
  obtain ⟨f, hI, e⟩ := Rd.file b0 b1 b2 b3 b4 b5 b6 b7 b8 b9 b10 b11 b12 b13 b14 b15 b16 b17 b18 b19 b20
  rw [← e]
  exact fnFileSizes_walk f w hI
set_option maxRecDepth 100000 in
set_option maxHeartbeats 1000000 in
theorem fnFileAgain_walk (f : FM) (w : World) (hI : f.In w) : Calls Tryd.prog 3 #[f.val] w (LawEnd w) := by
  obtain ⟨p0, p1, p2, p3, p4, p5, p6, p7, a0, a1, a2, a3, a4, a5, a6, a7, a8, a9, a10, a11, efp, hA, e⟩ := FM.val_eq hI.fp.1
  have HE := Lib.hid e
  have EFP := Lib.hid efp
  rw [e]
  clear e efp
  have HI := Lib.hid hI
  have HA := Lib.hid hA
  obtain ⟨w0, hw0⟩ : ∃ w0, w0 = w.alloc (.cells (fileArr p0 p1 p2 p3 p4 p5 p6 p7 a0 a1 a2 a3 a4 a5 a6 a7 a8 a9 a10 a11 f) 33) := ⟨_, rfl⟩
  have BX0 := Lib.hid (show Blk w0 w.heap.size 33 (fileArr p0 p1 p2 p3 p4 p5 p6 p7 a0 a1 a2 a3 a4 a5 a6 a7 a8 a9 a10 a11 f) from by rw [hw0]; exact Blk.new _ _ _)
  have B0 := Lib.hid (show Below w.heap.size w w0 from by rw [hw0]; exact later_alloc _ _)
  have HW := Lib.hid hw0
  have Z6 := Lib.hid (show Calls Tryd.prog 17 #[.agg (fileArr p0 p1 p2 p3 p4 p5 p6 p7 a0 a1 a2 a3 a4 a5 a6 a7 a8 a9 a10 a11 f)] w0 (RetIf (∀ L ∈ f.lists, L.l.length ≤ 2147483647) w0) from by have h := zz6_any f w0 (HI.out.here B0.out); rw [HE.out] at h; exact h)
  have SMA := Lib.hid (fun (W : World) (hb : Below w.heap.size w W) (hL : ∀ L ∈ f.lists, L.l.length ≤ 2147483647) => show Calls Tryd.prog 18 #[.agg (fileArr p0 p1 p2 p3 p4 p5 p6 p7 a0 a1 a2 a3 a4 a5 a6 a7 a8 a9 a10 a11 f)] W (RetIf f.Small W) from by have h := small_any f W (HI.out.here hb) hL; rw [HE.out] at h; exact h)
  have BFA := Lib.hid (fun (W : World) (hb : Below w.heap.size w W) (S : f.Small) => show Calls Tryd.prog 19 #[.agg (fileArr p0 p1 p2 p3 p4 p5 p6 p7 a0 a1 a2 a3 a4 a5 a6 a7 a8 a9 a10 a11 f)] W (RetB f.bytes W) from by have h := buildFile_any f W (HI.out.here hb) S; rw [HE.out] at h; exact h)
  clear hI hA hw0
  go_enter Tryd.func3, Tryd.ntmps3
  go_upto_region 1 with fail
  rw [← HW.out]
  go_wp2_with (refine wpList_load_row rfl 33 (.tmp 1) rfl w.heap.size rfl 33 _ (0, 0) _ BX0.out Tryd.underlying33 rfl Tryd.fileInfo ?_)
  refine Z6.out.mono ?_
  rintro e w1 ⟨b1, rfl, hp1, hb1⟩
  have BX1 := Lib.hid (BX0.out.here hb1)
  have B1 := Lib.hid (below_from B0.out hb1)
  clear hb1
  rcases b1 with _ | _
  · go_wp2_with fail
    go_returns
    exact ⟨rfl, B1.out⟩
  have FL := Lib.hid (hp1 rfl)
  clear hp1 BX0 B0 Z6 HW
  go_wp2_with (refine wpList_load_row rfl 33 (.tmp 1) rfl w.heap.size rfl 33 _ (0, 0) _ BX1.out Tryd.underlying33 rfl Tryd.fileInfo ?_)
  refine (SMA.out w1 B1.out FL.out).mono ?_
  rintro e w2 ⟨b2, rfl, hp2, hb2⟩
  have BX2 := Lib.hid (BX1.out.here hb2)
  have B2 := Lib.hid (below_from B1.out hb2)
  clear hb2
  rcases b2 with _ | _
  · go_wp2_with fail
    go_returns
    exact ⟨rfl, B2.out⟩
  have SM := Lib.hid (hp2 rfl)
  clear hp2 BX1 B1 SMA
  obtain ⟨n, hn⟩ : ∃ n, n = f.bytes.length := ⟨_, rfl⟩
  have HN := Lib.hid hn
  have hlen := (FM.bytes_len SM.out)
  have hlen2 := f.at_mono 0 18 (by omega)
  rw [← hn] at hlen
  have n0 : (96 : Int) ≤ n := by omega
  have n1 : (n : Int) ≤ 110000 := by omega
  clear hn hlen hlen2
  go_upto_region 5 with fail
  refine region_pw (by kernel_rfl) [.is (fun v => v = .agg (fileArr p0 p1 p2 p3 p4 p5 p6 p7 a0 a1 a2 a3 a4 a5 a6 a7 a8 a9 a10 a11 f)), .dat f n, .is (fun v => v = .agg (fileArr p0 p1 p2 p3 p4 p5 p6 p7 a0 a1 a2 a3 a4 a5 a6 a7 a8 a9 a10 a11 f)), .dat f n, .dat f n, .dat f n] [11, 12, 13, 14, 3, 4] (by kernel_rfl) ?_ ?_
  · refine Steps.cons ?_ (Steps.cons ?_ (Steps.cons ?_ (Steps.cons ?_ (Steps.cons ?_ (Steps.cons ?_ (Steps.nil))))))
    all_goals (intro f_ W hW hd K hK; rw [if_pos (by rfl)]; simp only [over, List.foldl_cons, List.foldl_nil, List.setIfInBounds_toArray, List.set_cons_zero, List.set_cons_succ, Act.put] at hK ⊢; simp only [Deps, List.filter, Region.binds, pws, Pw.is, Pw.dat, List.getD_cons_zero, List.getD_cons_succ, List.getElem?_cons_zero, List.getElem?_cons_succ, Option.getD_some] at hd)
    · clear hd
      refine wp_load_row 33 (.tmp 1) rfl w.heap.size rfl 33 _ (0, 0) _ (BX2.out.drew.here hW) Tryd.underlying33 rfl Tryd.fileInfo ?_
      exact hK _ _ rfl (later_refl _)
    · have h0 := hd.1
      clear hd
      rw [h0] at hK ⊢
      go_simp
      go_at_call 19
      refine (BFA.out W (below_from B2.out.drew hW) SM.out).mono ?_
      rintro e_ w1 ⟨A, c_, rfl, h1, h2, h3⟩
      have len0 := FM.bytes_len SM.out
      have len1 := f.at_mono 0 18 (by omega)
      obtain ⟨d, o, rfl, hat⟩ := h1.at_ (by omega)
      rw [← HN.out] at h2 ⊢
      exact hK _ _ ⟨d, o, c_, rfl, ⟨HN.out, SM.out, HI.out.flags, h2, hat, hat.lt (by omega)⟩⟩ h3
    · clear hd
      refine wp_load_row 33 (.tmp 1) rfl w.heap.size rfl 33 _ (0, 0) _ (BX2.out.drew.here hW) Tryd.underlying33 rfl Tryd.fileInfo ?_
      exact hK _ _ rfl (later_refl _)
    · have h0 := hd.1
      clear hd
      rw [h0] at hK ⊢
      go_simp
      go_at_call 19
      refine (BFA.out W (below_from B2.out.drew hW) SM.out).mono ?_
      rintro e_ w1 ⟨A, c_, rfl, h1, h2, h3⟩
      have len0 := FM.bytes_len SM.out
      have len1 := f.at_mono 0 18 (by omega)
      obtain ⟨d, o, rfl, hat⟩ := h1.at_ (by omega)
      rw [← HN.out] at h2 ⊢
      exact hK _ _ ⟨d, o, c_, rfl, ⟨HN.out, SM.out, HI.out.flags, h2, hat, hat.lt (by omega)⟩⟩ h3
    · have hd0 := hd.1
      clear hd
      obtain ⟨d, o, c_, h0, hD⟩ := hd0
      rw [h0] at hK ⊢
      go_simp
      exact hK _ _ ⟨d, o, c_, rfl, hD⟩ (later_refl _)
    · have hd0 := hd.1
      clear hd
      obtain ⟨d, o, c_, h0, hD⟩ := hd0
      rw [h0] at hK ⊢
      go_simp
      exact hK _ _ ⟨d, o, c_, rfl, hD⟩ (later_refl _)
  · intro f_ W hW hd
    have h1 := hd 4 (by decide)
    have h2 := hd 5 (by decide)
    clear hd
    obtain ⟨d1, o1, c1, h1, D1⟩ := (show ∃ d o c, f_ 3 = .slice (some ⟨d, o, none⟩) n c ∧ Dat f d o n c W from h1)
    obtain ⟨d2, o2, c2, h2, D2⟩ := (show ∃ d o c, f_ 4 = .slice (some ⟨d, o, none⟩) n c ∧ Dat f d o n c W from h2)
    have B5 := Lib.hid (below_from B2.out.drew hW)
    have E1 := Lib.hid D1
    simp only [over, List.foldl_cons, List.foldl_nil, List.setIfInBounds_toArray, List.set_cons_zero, List.set_cons_succ, h1, h2]
    have i1 : (n : Int) ≤ c1 := by have := D1.cap; omega
    have SB := Lib.hid (show Calls Tryd.prog 20 #[.slice (some ⟨d1, o1, none⟩) n c1, .slice (some ⟨d2, o2, none⟩) n c2] W (RetQ (.bool true) W) from by
      have h := sameBytes_any (some ⟨d1, o1, none⟩) (some ⟨d2, o2, none⟩) c1 c2 f.bytes W (fun _ => ⟨d1, o1, rfl, D1.at_⟩) (fun _ => ⟨d2, o2, rfl, D2.at_⟩) (by have := SM.out.len_le; unfold maxLen; omega)
      rw [← HN.out] at h
      exact h)
    have hst : ∀ k c', (convert 35 9 (.slice (some ⟨d1, o1, none⟩) 8 c')).run Tryd.prog (W.drewN k) = .ok (.string magicS) (W.drewN k) := fun k c' => run_str (s := magicS) (show At (W.drewN k) d1 o1 (sbs magicS) from by rw [sbs_magic]; have := (D1.at_.drewN k).has (p := 0) f.has_magic; simpa using this)
    clear h1 h2 hW D1 D2
    go_wp2_with fail
    refine SB.out.mono ?_
    rintro e w5 ⟨rfl, m5, rfl⟩
    go_wp2_with fail
    go_returns
    exact ⟨rfl, below_drewN B5.out m5⟩
theorem fnFileAgain_any {H : Type} {enc : TypeId × Value → H} (x0 x1 x2 x3 x4 x5 x6 x7 x8 : Int) (x9 x10 x11 x12 x13 x14 x15 x16 x17 x18 x19 x20 : Value) (w : World) (b0 : 0 ≤ x0 ∧ x0 < 256) (b1 : 0 ≤ x1 ∧ x1 < 256) (b2 : 0 ≤ x2 ∧ x2 < 256) (b3 : 0 ≤ x3 ∧ x3 < 256) (b4 : 0 ≤ x4 ∧ x4 < 256) (b5 : 0 ≤ x5 ∧ x5 < 256) (b6 : 0 ≤ x6 ∧ x6 < 256) (b7 : 0 ≤ x7 ∧ x7 < 256) (b8 : 0 ≤ x8 ∧ x8 < 4294967296) (b9 : Rd enc Tryd.prog w 24 [x9]) (b10 : Rd enc Tryd.prog w 25 [x10]) (b11 : Rd enc Tryd.prog w 25 [x11]) (b12 : Rd enc Tryd.prog w 26 [x12]) (b13 : Rd enc Tryd.prog w 26 [x13]) (b14 : Rd enc Tryd.prog w 26 [x14]) (b15 : Rd enc Tryd.prog w 26 [x15]) (b16 : Rd enc Tryd.prog w 27 [x16]) (b17 : Rd enc Tryd.prog w 28 [x17]) (b18 : Rd enc Tryd.prog w 29 [x18]) (b19 : Rd enc Tryd.prog w 30 [x19]) (b20 : Rd enc Tryd.prog w 31 [x20]) : Calls Tryd.prog 3 #[.agg #[.int .u8 x0, .int .u8 x1, .int .u8 x2, .int .u8 x3, .int .u8 x4, .int .u8 x5, .int .u8 x6, .int .u8 x7, .int .u32 x8, x9, x10, x11, x12, x13, x14, x15, x16, x17, x18, x19, x20]] w (LawEnd w) := by
  obtain ⟨f, hI, e⟩ := Rd.file b0 b1 b2 b3 b4 b5 b6 b7 b8 b9 b10 b11 b12 b13 b14 b15 b16 b17 b18 b19 b20
  rw [← e]
  exact fnFileAgain_walk f w hI
end Go.Proofs.YtimdaolbdgafcaaDoor
