/- Laws on an object file: its fingerprint and its flags. (printed by gen_fl4.py) -/
import Derived.Test.YtimdaolbdgafcaaDoorSmall
import Derived.Test.YtimdaolbdgafcaaDoorBuild
import Derived.Test.YtimdaolbdgafcaaDoorImplC
namespace Go.Proofs.YtimdaolbdgafcaaDoor
open Go.RowKit

theorem eqFp (p0 p1 p2 p3 p4 p5 p6 p7 : Int) (W : World) : (binOp .eql 22 (.agg #[.int .u8 p0, .int .u8 p1, .int .u8 p2, .int .u8 p3, .int .u8 p4, .int .u8 p5, .int .u8 p6, .int .u8 p7]) (.agg #[.int .u8 p0, .int .u8 p1, .int .u8 p2, .int .u8 p3, .int .u8 p4, .int .u8 p5, .int .u8 p6, .int .u8 p7])).run Tryd.prog W = .ok (.bool true) W := by
  have h := run_eql_ints (P := Tryd.prog) (t := 22) (n := 8) W Tryd.underlying22 Tryd.underlying5 (by kernel_rfl) (by kernel_rfl) [p0, p1, p2, p3, p4, p5, p6, p7] [p0, p1, p2, p3, p4, p5, p6, p7] rfl rfl
  simpa using h
set_option maxRecDepth 100000 in
set_option maxHeartbeats 1000000 in
theorem fnFileHead_walk (f : FM) (w : World) (hI : f.In w) : Calls Tryd.prog 7 #[f.val] w (LawEnd w) := by
  obtain ⟨p0, p1, p2, p3, p4, p5, p6, p7, a0, a1, a2, a3, a4, a5, a6, a7, a8, a9, a10, a11, efp, hA, e⟩ := FM.val_eq hI.fp.1
  have HE := Lib.hid e
  have EFP := Lib.hid efp
  rw [e]
  clear e efp
  have HI := Lib.hid hI
  have HA := Lib.hid hA
  obtain ⟨w0, hw0⟩ : ∃ w0, w0 = w.alloc (.cells (fileArr p0 p1 p2 p3 p4 p5 p6 p7 a0 a1 a2 a3 a4 a5 a6 a7 a8 a9 a10 a11 f) 33) := ⟨_, rfl⟩
  have BX0 := Lib.hid (show Blk w0 w.heap.size 33 (fileArr p0 p1 p2 p3 p4 p5 p6 p7 a0 a1 a2 a3 a4 a5 a6 a7 a8 a9 a10 a11 f) from by rw [hw0]; exact Blk.new _ _ _)
  have B0 := Lib.hid (show Below w.heap.size w w0 from by rw [hw0]; exact later_alloc _ _)
  have HW := Lib.hid hw0
  have Z6 := Lib.hid (show Calls Tryd.prog 17 #[.agg (fileArr p0 p1 p2 p3 p4 p5 p6 p7 a0 a1 a2 a3 a4 a5 a6 a7 a8 a9 a10 a11 f)] w0 (RetIf (∀ L ∈ f.lists, L.l.length ≤ 2147483647) w0) from by have h := zz6_any f w0 (HI.out.here B0.out); rw [HE.out] at h; exact h)
  have SMA := Lib.hid (fun (W : World) (hb : Below w.heap.size w W) (hL : ∀ L ∈ f.lists, L.l.length ≤ 2147483647) => show Calls Tryd.prog 18 #[.agg (fileArr p0 p1 p2 p3 p4 p5 p6 p7 a0 a1 a2 a3 a4 a5 a6 a7 a8 a9 a10 a11 f)] W (RetIf f.Small W) from by have h := small_any f W (HI.out.here hb) hL; rw [HE.out] at h; exact h)
  have BFA := Lib.hid (fun (W : World) (hb : Below w.heap.size w W) (S : f.Small) => show Calls Tryd.prog 19 #[.agg (fileArr p0 p1 p2 p3 p4 p5 p6 p7 a0 a1 a2 a3 a4 a5 a6 a7 a8 a9 a10 a11 f)] W (RetB f.bytes W) from by have h := buildFile_any f W (HI.out.here hb) S; rw [HE.out] at h; exact h)
  clear hI hA hw0
  go_enter Tryd.func7, Tryd.ntmps7
  go_upto_region 1 with fail
  rw [← HW.out]
  go_wp2_with (refine wpList_load_row rfl 33 (.tmp 1) rfl w.heap.size rfl 33 _ (0, 0) _ BX0.out Tryd.underlying33 rfl Tryd.fileInfo ?_)
  refine Z6.out.mono ?_
  rintro e w1 ⟨b1, rfl, hp1, hb1⟩
  have BX1 := Lib.hid (BX0.out.here hb1)
  have B1 := Lib.hid (below_from B0.out hb1)
  clear hb1
  rcases b1 with _ | _
  · go_wp2_with fail
    go_returns
    exact ⟨rfl, B1.out⟩
  have FL := Lib.hid (hp1 rfl)
  clear hp1 BX0 B0 Z6 HW
  go_wp2_with (refine wpList_load_row rfl 33 (.tmp 1) rfl w.heap.size rfl 33 _ (0, 0) _ BX1.out Tryd.underlying33 rfl Tryd.fileInfo ?_)
  refine (SMA.out w1 B1.out FL.out).mono ?_
  rintro e w2 ⟨b2, rfl, hp2, hb2⟩
  have BX2 := Lib.hid (BX1.out.here hb2)
  have B2 := Lib.hid (below_from B1.out hb2)
  clear hb2
  rcases b2 with _ | _
  · go_wp2_with fail
    go_returns
    exact ⟨rfl, B2.out⟩
  have SM := Lib.hid (hp2 rfl)
  clear hp2 BX1 B1 SMA
  go_wp2_with (refine wpList_load_row rfl 33 (.tmp 1) rfl w.heap.size rfl 33 _ (0, 0) _ BX2.out Tryd.underlying33 rfl Tryd.fileInfo ?_)
  refine (BFA.out w2 B2.out SM.out).mono ?_
  rintro e w3 ⟨A3, c3, rfl, s3, k3, hb3⟩
  have len0 := FM.bytes_len SM.out
  have len1 := f.at_mono 0 18 (by omega)
  obtain ⟨d, o, rfl, at3⟩ := s3.at_ (by omega)
  have BX3 := Lib.hid (BX2.out.here hb3)
  have B3 := Lib.hid (below_from B2.out hb3)
  obtain ⟨n, hn⟩ : ∃ n, n = f.bytes.length := ⟨_, rfl⟩
  rw [← hn] at k3 len0 ⊢
  have D3 := Lib.hid (show Dat f d o n c3 w3 from ⟨hn, SM.out, HI.out.flags, k3, at3, at3.lt (by rw [← hn]; omega)⟩)
  have n0 : (96 : Int) ≤ n := by omega
  have n1 : (n : Int) ≤ 110000 := by omega
  have n2 : (n : Int) ≤ c3 := by omega
  clear len0 len1 hn s3 k3 at3 hb3 BX2 B2
  go_wp2_with fail
  refine (fileHead_any D3.out EFP.out).mono ?_
  rintro e w4 ⟨rfl, hb4⟩
  have BX4 := Lib.hid (BX3.out.here hb4)
  have B4 := Lib.hid (below_from B3.out hb4)
  clear hb4 BX3 B3 D3
  have q0 := BX4.out.cell 0
  have q1 := BX4.out.cell 1
  have q2 := BX4.out.cell 2
  have q3 := BX4.out.cell 3
  have q4 := BX4.out.cell 4
  have q5 := BX4.out.cell 5
  have q6 := BX4.out.cell 6
  have q7 := BX4.out.cell 7
  have q8 := BX4.out.cell 8
  obtain ⟨w5, hw5⟩ : ∃ w5, w5 = (w4.alloc (.cells #[.int .u8 p0, .int .u8 p1, .int .u8 p2, .int .u8 p3, .int .u8 p4, .int .u8 p5, .int .u8 p6, .int .u8 p7] 22)).alloc (.cells #[.bool (bits .and .u32 f.flags 1 != 0), .bool (bits .and .u32 f.flags 4 != 0), .bool (bits .and .u32 f.flags 8 != 0), .bool (bits .and .u32 f.flags 16 != 0)] 53) := ⟨_, rfl⟩
  have HW5 := Lib.hid hw5
  have L5 := Lib.hid (show Below w4.heap.size w4 w5 from by rw [hw5]; (repeat' (first | (with_reducible exact Below.refl _ _) | (with_reducible assumption) | (with_reducible refine below_drewN ?_ _) | (with_reducible refine Below.alloc ?_ ?_ _) | (with_reducible refine Below.drew ?_) | (with_reducible refine Below.setCell ?_ ?_ _) | go_size)))
  have BA := Lib.hid (show Blk w5 w4.heap.size 22 #[.int .u8 p0, .int .u8 p1, .int .u8 p2, .int .u8 p3, .int .u8 p4, .int .u8 p5, .int .u8 p6, .int .u8 p7] from by rw [hw5]; exact (Blk.new w4 _ _).alloc _)
  have BB := Lib.hid (show Blk w5 (w4.heap.size + 1) 53 #[.bool (bits .and .u32 f.flags 1 != 0), .bool (bits .and .u32 f.flags 4 != 0), .bool (bits .and .u32 f.flags 8 != 0), .bool (bits .and .u32 f.flags 16 != 0)] from by rw [hw5]; exact Blk.new1 w4 _ _ _)
  have BX5 := Lib.hid (BX4.out.here L5.out)
  have B5 := Lib.hid (below_from B4.out L5.out)
  clear hw5
  go_wp2_with fail
  rw [← HW5.out]
  clear q0 q1 q2 q3 q4 q5 q6 q7 q8
  go_loopw [7, 8, 24] (fun _ _ i wr => ∃ k : Nat, k ≤ 4 ∧ i = .int .i64 k ∧ Below w5.heap.size w5 wr) (fun _ _ i _ => 4 - (intOf i).toNat)
  case atStart => exact ⟨0, by omega, rfl, Below.refl _ _⟩
  case round =>
    obtain ⟨k, hk, rfl, hb⟩ := hrel
    have HB := Lib.hid hb
    have zb := hb.size
    have cq := (BX5.out.here hb).cell 8
    by_cases hlt : k < 4
    · obtain rfl | rfl | rfl | rfl : k = 0 ∨ k = 1 ∨ k = 2 ∨ k = 3 := by omega
      · have cb := (BB.out.here hb).cell 0
        clear hb
        rw [show ((0 : Nat) : Int) = 0 from rfl]
        have hix : ∀ W : World, (Instr.index 56 (.agg #[.int .u32 1, .int .u32 4, .int .u32 8, .int .u32 16]) (.int .i64 0)).run Tryd.prog W = .ok (.int .u32 1) W := fun W => by kernel_rfl
        go_wp2_with fail
        go_quiet (fail)
        go_wp2_with fail
        go_roundw
        case rel => exact ⟨1, by omega, rfl, below_drewN HB.out _⟩
        case measure => simp [intOf]
      · have cb := (BB.out.here hb).cell 1
        clear hb
        rw [show ((1 : Nat) : Int) = 1 from rfl]
        have hix : ∀ W : World, (Instr.index 56 (.agg #[.int .u32 1, .int .u32 4, .int .u32 8, .int .u32 16]) (.int .i64 1)).run Tryd.prog W = .ok (.int .u32 4) W := fun W => by kernel_rfl
        go_wp2_with fail
        go_quiet (fail)
        go_wp2_with fail
        go_roundw
        case rel => exact ⟨2, by omega, rfl, below_drewN HB.out _⟩
        case measure => simp [intOf]
      · have cb := (BB.out.here hb).cell 2
        clear hb
        rw [show ((2 : Nat) : Int) = 2 from rfl]
        have hix : ∀ W : World, (Instr.index 56 (.agg #[.int .u32 1, .int .u32 4, .int .u32 8, .int .u32 16]) (.int .i64 2)).run Tryd.prog W = .ok (.int .u32 8) W := fun W => by kernel_rfl
        go_wp2_with fail
        go_quiet (fail)
        go_wp2_with fail
        go_roundw
        case rel => exact ⟨3, by omega, rfl, below_drewN HB.out _⟩
        case measure => simp [intOf]
      · have cb := (BB.out.here hb).cell 3
        clear hb
        rw [show ((3 : Nat) : Int) = 3 from rfl]
        have hix : ∀ W : World, (Instr.index 56 (.agg #[.int .u32 1, .int .u32 4, .int .u32 8, .int .u32 16]) (.int .i64 3)).run Tryd.prog W = .ok (.int .u32 16) W := fun W => by kernel_rfl
        go_wp2_with fail
        go_quiet (fail)
        go_wp2_with fail
        go_roundw
        case rel => exact ⟨4, by omega, rfl, below_drewN HB.out _⟩
        case measure => simp [intOf]
    · obtain rfl : k = 4 := by omega
      rw [show ((4 : Nat) : Int) = 4 from rfl]
      have r0 := (BA.out.here hb).cell 0
      have q0 := (BX5.out.here hb).cell 0
      have r1 := (BA.out.here hb).cell 1
      have q1 := (BX5.out.here hb).cell 1
      have r2 := (BA.out.here hb).cell 2
      have q2 := (BX5.out.here hb).cell 2
      have r3 := (BA.out.here hb).cell 3
      have q3 := (BX5.out.here hb).cell 3
      have r4 := (BA.out.here hb).cell 4
      have q4 := (BX5.out.here hb).cell 4
      have r5 := (BA.out.here hb).cell 5
      have q5 := (BX5.out.here hb).cell 5
      have r6 := (BA.out.here hb).cell 6
      have q6 := (BX5.out.here hb).cell 6
      have r7 := (BA.out.here hb).cell 7
      have q7 := (BX5.out.here hb).cell 7
      have heq := eqFp p0 p1 p2 p3 p4 p5 p6 p7
      clear hb
      go_wp2_with fail
      go_returns
      exact ⟨by simp, B5.out.trans (HB.out.mono B5.out.size)⟩
theorem fnFileHead_any {H : Type} {enc : TypeId × Value → H} (x0 x1 x2 x3 x4 x5 x6 x7 x8 : Int) (x9 x10 x11 x12 x13 x14 x15 x16 x17 x18 x19 x20 : Value) (w : World) (b0 : 0 ≤ x0 ∧ x0 < 256) (b1 : 0 ≤ x1 ∧ x1 < 256) (b2 : 0 ≤ x2 ∧ x2 < 256) (b3 : 0 ≤ x3 ∧ x3 < 256) (b4 : 0 ≤ x4 ∧ x4 < 256) (b5 : 0 ≤ x5 ∧ x5 < 256) (b6 : 0 ≤ x6 ∧ x6 < 256) (b7 : 0 ≤ x7 ∧ x7 < 256) (b8 : 0 ≤ x8 ∧ x8 < 4294967296) (b9 : Rd enc Tryd.prog w 24 [x9]) (b10 : Rd enc Tryd.prog w 25 [x10]) (b11 : Rd enc Tryd.prog w 25 [x11]) (b12 : Rd enc Tryd.prog w 26 [x12]) (b13 : Rd enc Tryd.prog w 26 [x13]) (b14 : Rd enc Tryd.prog w 26 [x14]) (b15 : Rd enc Tryd.prog w 26 [x15]) (b16 : Rd enc Tryd.prog w 27 [x16]) (b17 : Rd enc Tryd.prog w 28 [x17]) (b18 : Rd enc Tryd.prog w 29 [x18]) (b19 : Rd enc Tryd.prog w 30 [x19]) (b20 : Rd enc Tryd.prog w 31 [x20]) : Calls Tryd.prog 7 #[.agg #[.int .u8 x0, .int .u8 x1, .int .u8 x2, .int .u8 x3, .int .u8 x4, .int .u8 x5, .int .u8 x6, .int .u8 x7, .int .u32 x8, x9, x10, x11, x12, x13, x14, x15, x16, x17, x18, x19, x20]] w (LawEnd w) := by
  obtain ⟨f, hI, e⟩ := Rd.file b0 b1 b2 b3 b4 b5 b6 b7 b8 b9 b10 b11 b12 b13 b14 b15 b16 b17 b18 b19 b20
  rw [← e]
  exact fnFileHead_walk f w hI
end Go.Proofs.YtimdaolbdgafcaaDoor
