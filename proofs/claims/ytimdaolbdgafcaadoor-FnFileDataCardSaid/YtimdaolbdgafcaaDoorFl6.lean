/- Laws on an object file: the data of each symbol. (printed by gen_fl6.py) -/
import Derived.Test.YtimdaolbdgafcaaDoorSmall
import Derived.Test.YtimdaolbdgafcaaDoorBuild
import Derived.Test.YtimdaolbdgafcaaDoorImplE
namespace Go.Proofs.YtimdaolbdgafcaaDoor
open Go.RowKit

set_option maxRecDepth 100000 in
set_option maxHeartbeats 1000000 in
theorem fnFileData_walk (f : FM) (w : World) (hI : f.In w) : Calls Tryd.prog 13 #[f.val] w (LawEnd w) := by
  obtain ⟨p0, p1, p2, p3, p4, p5, p6, p7, a0, a1, a2, a3, a4, a5, a6, a7, a8, a9, a10, a11, efp, hA, e⟩ := FM.val_eq hI.fp.1
  have HE := Lib.hid e
  have EFP := Lib.hid efp
  rw [e]
  clear e efp
  have HI := Lib.hid hI
  have HA := Lib.hid hA
  obtain ⟨w0, hw0⟩ : ∃ w0, w0 = w.alloc (.cells (fileArr p0 p1 p2 p3 p4 p5 p6 p7 a0 a1 a2 a3 a4 a5 a6 a7 a8 a9 a10 a11 f) 33) := ⟨_, rfl⟩
  have BX0 := Lib.hid (show Blk w0 w.heap.size 33 (fileArr p0 p1 p2 p3 p4 p5 p6 p7 a0 a1 a2 a3 a4 a5 a6 a7 a8 a9 a10 a11 f) from by rw [hw0]; exact Blk.new _ _ _)
  have B0 := Lib.hid (show Below w.heap.size w w0 from by rw [hw0]; exact later_alloc _ _)
  have HW := Lib.hid hw0
  have Z6 := Lib.hid (show Calls Tryd.prog 17 #[.agg (fileArr p0 p1 p2 p3 p4 p5 p6 p7 a0 a1 a2 a3 a4 a5 a6 a7 a8 a9 a10 a11 f)] w0 (RetIf (∀ L ∈ f.lists, L.l.length ≤ 2147483647) w0) from by have h := zz6_any f w0 (HI.out.here B0.out); rw [HE.out] at h; exact h)
  have SMA := Lib.hid (fun (W : World) (hb : Below w.heap.size w W) (hL : ∀ L ∈ f.lists, L.l.length ≤ 2147483647) => show Calls Tryd.prog 18 #[.agg (fileArr p0 p1 p2 p3 p4 p5 p6 p7 a0 a1 a2 a3 a4 a5 a6 a7 a8 a9 a10 a11 f)] W (RetIf f.Small W) from by have h := small_any f W (HI.out.here hb) hL; rw [HE.out] at h; exact h)
  have BFA := Lib.hid (fun (W : World) (hb : Below w.heap.size w W) (S : f.Small) => show Calls Tryd.prog 19 #[.agg (fileArr p0 p1 p2 p3 p4 p5 p6 p7 a0 a1 a2 a3 a4 a5 a6 a7 a8 a9 a10 a11 f)] W (RetB f.bytes W) from by have h := buildFile_any f W (HI.out.here hb) S; rw [HE.out] at h; exact h)
  have ALL := Lib.hid (fun (W : World) (hb : Below w.heap.size w W) (hL : ∀ L ∈ f.lists, L.l.length ≤ 2147483647) => show Calls Tryd.prog 22 #[.agg (fileArr p0 p1 p2 p3 p4 p5 p6 p7 a0 a1 a2 a3 a4 a5 a6 a7 a8 a9 a10 a11 f)] W (AllIs f W) from by have h := all_any f w W HI.out hb hL; rw [HE.out] at h; exact h)
  clear hI hA hw0
  go_enter Tryd.func13, Tryd.ntmps13
  go_upto_region 1 with fail
  rw [← HW.out]
  go_wp2_with (refine wpList_load_row rfl 33 (.tmp 1) rfl w.heap.size rfl 33 _ (0, 0) _ BX0.out Tryd.underlying33 rfl Tryd.fileInfo ?_)
  refine Z6.out.mono ?_
  rintro e w1 ⟨b1, rfl, hp1, hb1⟩
  have BX1 := Lib.hid (BX0.out.here hb1)
  have B1 := Lib.hid (below_from B0.out hb1)
  clear hb1
  rcases b1 with _ | _
  · go_wp2_with fail
    go_returns
    exact ⟨rfl, B1.out⟩
  have FL := Lib.hid (hp1 rfl)
  clear hp1 BX0 B0 Z6 HW
  go_wp2_with (refine wpList_load_row rfl 33 (.tmp 1) rfl w.heap.size rfl 33 _ (0, 0) _ BX1.out Tryd.underlying33 rfl Tryd.fileInfo ?_)
  refine (SMA.out w1 B1.out FL.out).mono ?_
  rintro e w2 ⟨b2, rfl, hp2, hb2⟩
  have BX2 := Lib.hid (BX1.out.here hb2)
  have B2 := Lib.hid (below_from B1.out hb2)
  clear hb2
  rcases b2 with _ | _
  · go_wp2_with fail
    go_returns
    exact ⟨rfl, B2.out⟩
  have SM := Lib.hid (hp2 rfl)
  clear hp2 BX1 B1 SMA
  go_wp2_with (refine wpList_load_row rfl 33 (.tmp 1) rfl w.heap.size rfl 33 _ (0, 0) _ BX2.out Tryd.underlying33 rfl Tryd.fileInfo ?_)
  refine (BFA.out w2 B2.out SM.out).mono ?_
  rintro e w3 ⟨A3, c3, rfl, s3, k3, hb3⟩
  have len0 := FM.bytes_len SM.out
  have len1 := f.at_mono 0 18 (by omega)
  obtain ⟨d, o, rfl, at3⟩ := s3.at_ (by omega)
  have BX3 := Lib.hid (BX2.out.here hb3)
  have B3 := Lib.hid (below_from B2.out hb3)
  obtain ⟨n, hn⟩ : ∃ n, n = f.bytes.length := ⟨_, rfl⟩
  rw [← hn] at k3 len0 ⊢
  have D3 := Lib.hid (show Dat f d o n c3 w3 from ⟨hn, SM.out, HI.out.flags, k3, at3, at3.lt (by rw [← hn]; omega)⟩)
  have n0 : (96 : Int) ≤ n := by omega
  have n1 : (n : Int) ≤ 110000 := by omega
  have n2 : (n : Int) ≤ c3 := by omega
  clear len0 len1 hn s3 k3 at3 hb3 BX2 B2
  go_wp2_with (refine wpList_load_row rfl 33 (.tmp 1) rfl w.heap.size rfl 33 _ (0, 0) _ BX3.out Tryd.underlying33 rfl Tryd.fileInfo ?_)
  refine (ALL.out w3 B3.out FL.out).mono ?_
  rintro e w4 ⟨LA, LC, rfl, hs, hcap, hb4⟩
  have BX4 := Lib.hid (BX3.out.here hb4)
  have B4 := Lib.hid (below_from B3.out hb4)
  have D4 := Lib.hid (D3.out.here hb4)
  have HS := Lib.hid hs
  have a60 := SM.out.all
  have a0 : (0 : Int) ≤ f.all.length := by omega
  have a1 : (f.all.length : Int) ≤ 60 := by omega
  clear hs hcap hb4 BX3 B3 D3 a60
  go_wp2_with fail
  go_loopw [4, 5, 20] (fun _ _ i wr => ∃ k : Nat, k ≤ f.all.length ∧ i = .int .i64 k ∧ Below w4.heap.size w4 wr) (fun _ _ i _ => f.all.length - (intOf i).toNat)
  case atStart => exact ⟨0, by omega, rfl, Below.refl _ _⟩
  case round =>
    obtain ⟨k, hk, rfl, hb⟩ := hrel
    have HB := Lib.hid hb
    have zb := hb.size
    by_cases hlt : k < f.all.length
    · obtain ⟨bb, oo, rfl, hc⟩ := SlR.at_ (HS.out.here hb) k hlt
      have CON := Lib.hid (fun (W : World) (hD : Dat f d o n c3 W) => fileData_any hD k hlt)
      have hds : f.all[k].data.size ≤ 200 := (SM.out.data _ (List.getElem_mem hlt)).1
      have q0 := hc 0 _ rfl
      have q1 := hc 1 _ rfl
      have q2 := hc 2 _ rfl
      have q3 := hc 3 _ rfl
      have q4 := hc 4 _ rfl
      have q5 := hc 5 _ rfl
      have q6 := hc 6 _ rfl
      have q7 := hc 7 _ rfl
      have q8 := hc 8 _ rfl
      have q9 := hc 9 _ rfl
      rw [Nat.add_zero] at q0
      generalize f.all[k] = x at *
      obtain ⟨w5, hw5⟩ : ∃ w5, w5 = wr.alloc (.cells #[.string x.name, .int .u16 x.sy.abi, .int .u8 x.sy.kind, .int .u8 x.sy.flag, .int .u8 x.sy.flag2, .int .u32 x.sy.size, .int .u32 x.sy.align, .slice x.rs.A x.rs.l.length x.rs.c, .slice x.xs.A x.xs.l.length x.xs.c, .string x.data] 49) := ⟨_, rfl⟩
      have HW5 := Lib.hid hw5
      have BK := Lib.hid (show Blk w5 wr.heap.size 49 #[.string x.name, .int .u16 x.sy.abi, .int .u8 x.sy.kind, .int .u8 x.sy.flag, .int .u8 x.sy.flag2, .int .u32 x.sy.size, .int .u32 x.sy.align, .slice x.rs.A x.rs.l.length x.rs.c, .slice x.xs.A x.xs.l.length x.xs.c, .string x.data] from by rw [hw5]; exact Blk.new _ _ _)
      have B5 := Lib.hid (show Below w4.heap.size w4 w5 from by rw [hw5]; exact HB.out.alloc zb _)
      have D5 := Lib.hid (D4.out.here B5.out)
      have i3 : (k : Int) < 60 := by omega
      have i4 : (0 : Int) ≤ (k : Int) := by omega
      clear hb hc hw5
      have i5 : (x.data.size : Int) ≤ 200 := by omega
      clear hds
      go_wp2_with fail
      rw [← HW5.out]
      refine (CON.out w5 D5.out).mono ?_
      rintro e w6 ⟨A6, c6, rfl, hp6, hs6, hb6⟩
      have hst : ∀ W, W = w6 → (convert 35 9 (.slice A6 x.data.size c6)).run Tryd.prog W = .ok (.string x.data) W := fun W h => by subst h; exact run_strS hp6 hs6 c6
      have hst6 := hst w6 rfl
      have bk9 := (BK.out.here hb6).cell 9
      have H6 := Lib.hid hb6
      clear hst hp6 hs6 hb6
      go_wp2_with fail
      go_roundw
      case rel => exact ⟨k + 1, by omega, by go_num, B5.out.trans (H6.out.mono B5.out.size)⟩
      case measure => simp [intOf]; omega
    · obtain rfl : k = f.all.length := by omega
      go_wp2_with fail
      go_returns
      exact ⟨by simp; omega, B4.out.trans (HB.out.mono B4.out.size)⟩
theorem fnFileData_any {H : Type} {enc : TypeId × Value → H} (x0 x1 x2 x3 x4 x5 x6 x7 x8 : Int) (x9 x10 x11 x12 x13 x14 x15 x16 x17 x18 x19 x20 : Value) (w : World) (b0 : 0 ≤ x0 ∧ x0 < 256) (b1 : 0 ≤ x1 ∧ x1 < 256) (b2 : 0 ≤ x2 ∧ x2 < 256) (b3 : 0 ≤ x3 ∧ x3 < 256) (b4 : 0 ≤ x4 ∧ x4 < 256) (b5 : 0 ≤ x5 ∧ x5 < 256) (b6 : 0 ≤ x6 ∧ x6 < 256) (b7 : 0 ≤ x7 ∧ x7 < 256) (b8 : 0 ≤ x8 ∧ x8 < 4294967296) (b9 : Rd enc Tryd.prog w 24 [x9]) (b10 : Rd enc Tryd.prog w 25 [x10]) (b11 : Rd enc Tryd.prog w 25 [x11]) (b12 : Rd enc Tryd.prog w 26 [x12]) (b13 : Rd enc Tryd.prog w 26 [x13]) (b14 : Rd enc Tryd.prog w 26 [x14]) (b15 : Rd enc Tryd.prog w 26 [x15]) (b16 : Rd enc Tryd.prog w 27 [x16]) (b17 : Rd enc Tryd.prog w 28 [x17]) (b18 : Rd enc Tryd.prog w 29 [x18]) (b19 : Rd enc Tryd.prog w 30 [x19]) (b20 : Rd enc Tryd.prog w 31 [x20]) : Calls Tryd.prog 13 #[.agg #[.int .u8 x0, .int .u8 x1, .int .u8 x2, .int .u8 x3, .int .u8 x4, .int .u8 x5, .int .u8 x6, .int .u8 x7, .int .u32 x8, x9, x10, x11, x12, x13, x14, x15, x16, x17, x18, x19, x20]] w (LawEnd w) := by
  obtain ⟨f, hI, e⟩ := Rd.file b0 b1 b2 b3 b4 b5 b6 b7 b8 b9 b10 b11 b12 b13 b14 b15 b16 b17 b18 b19 b20
  rw [← e]
  exact fnFileData_walk f w hI
end Go.Proofs.YtimdaolbdgafcaaDoor
