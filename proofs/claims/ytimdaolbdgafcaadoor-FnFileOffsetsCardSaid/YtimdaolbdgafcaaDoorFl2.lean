/- Laws on an object file: where symbols and data stand. (printed by gen_fl2.py) -/
import Derived.Test.YtimdaolbdgafcaaDoorSmall
import Derived.Test.YtimdaolbdgafcaaDoorBuild
import Derived.Test.YtimdaolbdgafcaaDoorImplA
namespace Go.Proofs.YtimdaolbdgafcaaDoor
open Go.RowKit

set_option maxRecDepth 100000 in
set_option maxHeartbeats 1000000 in
theorem fnFileOffsets_walk (f : FM) (w : World) (hI : f.In w) : Calls Tryd.prog 5 #[f.val] w (LawEnd w) := by
  obtain ⟨p0, p1, p2, p3, p4, p5, p6, p7, a0, a1, a2, a3, a4, a5, a6, a7, a8, a9, a10, a11, efp, hA, e⟩ := FM.val_eq hI.fp.1
  have HE := Lib.hid e
  have EFP := Lib.hid efp
  rw [e]
  clear e efp
  have HI := Lib.hid hI
  have HA := Lib.hid hA
  obtain ⟨w0, hw0⟩ : ∃ w0, w0 = w.alloc (.cells (fileArr p0 p1 p2 p3 p4 p5 p6 p7 a0 a1 a2 a3 a4 a5 a6 a7 a8 a9 a10 a11 f) 33) := ⟨_, rfl⟩
  have BX0 := Lib.hid (show Blk w0 w.heap.size 33 (fileArr p0 p1 p2 p3 p4 p5 p6 p7 a0 a1 a2 a3 a4 a5 a6 a7 a8 a9 a10 a11 f) from by rw [hw0]; exact Blk.new _ _ _)
  have B0 := Lib.hid (show Below w.heap.size w w0 from by rw [hw0]; exact later_alloc _ _)
  have HW := Lib.hid hw0
  have Z6 := Lib.hid (show Calls Tryd.prog 17 #[.agg (fileArr p0 p1 p2 p3 p4 p5 p6 p7 a0 a1 a2 a3 a4 a5 a6 a7 a8 a9 a10 a11 f)] w0 (RetIf (∀ L ∈ f.lists, L.l.length ≤ 2147483647) w0) from by have h := zz6_any f w0 (HI.out.here B0.out); rw [HE.out] at h; exact h)
  have SMA := Lib.hid (fun (W : World) (hb : Below w.heap.size w W) (hL : ∀ L ∈ f.lists, L.l.length ≤ 2147483647) => show Calls Tryd.prog 18 #[.agg (fileArr p0 p1 p2 p3 p4 p5 p6 p7 a0 a1 a2 a3 a4 a5 a6 a7 a8 a9 a10 a11 f)] W (RetIf f.Small W) from by have h := small_any f W (HI.out.here hb) hL; rw [HE.out] at h; exact h)
  have BFA := Lib.hid (fun (W : World) (hb : Below w.heap.size w W) (S : f.Small) => show Calls Tryd.prog 19 #[.agg (fileArr p0 p1 p2 p3 p4 p5 p6 p7 a0 a1 a2 a3 a4 a5 a6 a7 a8 a9 a10 a11 f)] W (RetB f.bytes W) from by have h := buildFile_any f W (HI.out.here hb) S; rw [HE.out] at h; exact h)
  have ALL := Lib.hid (fun (W : World) (hb : Below w.heap.size w W) (hL : ∀ L ∈ f.lists, L.l.length ≤ 2147483647) => show Calls Tryd.prog 22 #[.agg (fileArr p0 p1 p2 p3 p4 p5 p6 p7 a0 a1 a2 a3 a4 a5 a6 a7 a8 a9 a10 a11 f)] W (AllIs f W) from by have h := all_any f w W HI.out hb hL; rw [HE.out] at h; exact h)
  clear hI hA hw0
  go_enter Tryd.func5, Tryd.ntmps5
  go_upto_region 1 with fail
  rw [← HW.out]
  go_wp2_with (refine wpList_load_row rfl 33 (.tmp 1) rfl w.heap.size rfl 33 _ (0, 0) _ BX0.out Tryd.underlying33 rfl Tryd.fileInfo ?_)
  refine Z6.out.mono ?_
  rintro e w1 ⟨b1, rfl, hp1, hb1⟩
  have BX1 := Lib.hid (BX0.out.here hb1)
  have B1 := Lib.hid (below_from B0.out hb1)
  clear hb1
  rcases b1 with _ | _
  · go_wp2_with fail
    go_returns
    exact ⟨rfl, B1.out⟩
  have FL := Lib.hid (hp1 rfl)
  clear hp1 BX0 B0 Z6 HW
  go_wp2_with (refine wpList_load_row rfl 33 (.tmp 1) rfl w.heap.size rfl 33 _ (0, 0) _ BX1.out Tryd.underlying33 rfl Tryd.fileInfo ?_)
  refine (SMA.out w1 B1.out FL.out).mono ?_
  rintro e w2 ⟨b2, rfl, hp2, hb2⟩
  have BX2 := Lib.hid (BX1.out.here hb2)
  have B2 := Lib.hid (below_from B1.out hb2)
  clear hb2
  rcases b2 with _ | _
  · go_wp2_with fail
    go_returns
    exact ⟨rfl, B2.out⟩
  have SM := Lib.hid (hp2 rfl)
  clear hp2 BX1 B1 SMA
  go_wp2_with (refine wpList_load_row rfl 33 (.tmp 1) rfl w.heap.size rfl 33 _ (0, 0) _ BX2.out Tryd.underlying33 rfl Tryd.fileInfo ?_)
  refine (BFA.out w2 B2.out SM.out).mono ?_
  rintro e w3 ⟨A3, c3, rfl, s3, k3, hb3⟩
  have len0 := FM.bytes_len SM.out
  have len1 := f.at_mono 0 18 (by omega)
  obtain ⟨d, o, rfl, at3⟩ := s3.at_ (by omega)
  have BX3 := Lib.hid (BX2.out.here hb3)
  have B3 := Lib.hid (below_from B2.out hb3)
  obtain ⟨n, hn⟩ : ∃ n, n = f.bytes.length := ⟨_, rfl⟩
  rw [← hn] at k3 len0 ⊢
  have D3 := Lib.hid (show Dat f d o n c3 w3 from ⟨hn, SM.out, HI.out.flags, k3, at3, at3.lt (by rw [← hn]; omega)⟩)
  have n0 : (96 : Int) ≤ n := by omega
  have n1 : (n : Int) ≤ 110000 := by omega
  have n2 : (n : Int) ≤ c3 := by omega
  clear len0 len1 hn s3 k3 at3 hb3 BX2 B2
  go_wp2_with (refine wpList_load_row rfl 33 (.tmp 1) rfl w.heap.size rfl 33 _ (0, 0) _ BX3.out Tryd.underlying33 rfl Tryd.fileInfo ?_)
  refine (ALL.out w3 B3.out FL.out).mono ?_
  rintro e w4 ⟨LA, LC, rfl, hs, hcap, hb4⟩
  have BX4 := Lib.hid (BX3.out.here hb4)
  have B4 := Lib.hid (below_from B3.out hb4)
  have D4 := Lib.hid (D3.out.here hb4)
  have HS := Lib.hid hs
  have a60 := SM.out.all
  have a0 : (0 : Int) ≤ f.all.length := by omega
  have a1 : (f.all.length : Int) ≤ 60 := by omega
  clear hs hcap hb4 BX3 B3 D3 a60
  go_wp2_with fail
  go_loopw [5, 6, 7, 8, 9, 26, 34] (fun i _ _ _ _ _ _ wr => ∃ k : Nat, 1 ≤ k ∧ k ≤ f.all.length + 1 ∧ i = .int .i64 k ∧ Below w4.heap.size w4 wr) (fun i _ _ _ _ _ _ _ => f.all.length + 1 - (intOf i).toNat)
  case atStart => exact ⟨1, by omega, by omega, rfl, Below.refl _ _⟩
  case round =>
    obtain ⟨k, hk1, hk2, rfl, hb⟩ := hrel
    have HB := Lib.hid hb
    by_cases hlt : k < f.all.length
    · obtain ⟨j, rfl⟩ : ∃ j, k = j + 1 := ⟨k - 1, by omega⟩
      obtain ⟨bb, oo, rfl, hc⟩ := SlR.at_ (HS.out.here hb) j (by omega)
      have q9 := hc 9 _ rfl
      have hds : f.all[j].data.size ≤ 200 := SM.out.nd_le f.all[j] (List.getElem_mem (by omega))
      have c1 := SM.out.cnt_le Df.nd SM.out.nd_le j
      have c2 : cntK Df.nd f.all (j + 1) = cntK Df.nd f.all j + f.all[j].data.size := cntK_succ Df.nd f.all j (by omega)
      have b3 := SM.out.at_le 3
      have b16 := SM.out.at_le 16
      have F0 := Lib.hid (fileOffsets_any (D4.out.here hb) j (by omega))
      have F1 := Lib.hid (fun (W : World) (hw : Below wr.heap.size wr W) => show Calls Tryd.prog 23 #[.slice (some ⟨d, o, none⟩) n c3, .int .u32 ((j : Int) + 1)] W (RetV (.tuple #[.int .u32 ((f.at_ 3 + 21 * (j + 1) : Nat) : Int), .int .u32 ((f.at_ 16 + cntK Df.nd f.all (j + 1) : Nat) : Int)]) W) from fileOffsets_any ((D4.out.here hb).here hw) (j + 1) (by omega))
      obtain ⟨u0, hu0⟩ : ∃ u0, u0 = f.at_ 3 + 21 * j := ⟨_, rfl⟩
      obtain ⟨u1, hu1⟩ : ∃ u1, u1 = f.at_ 3 + 21 * (j + 1) := ⟨_, rfl⟩
      obtain ⟨v0, hv0⟩ : ∃ v0, v0 = f.at_ 16 + cntK Df.nd f.all j := ⟨_, rfl⟩
      obtain ⟨v1, hv1⟩ : ∃ v1, v1 = f.at_ 16 + cntK Df.nd f.all (j + 1) := ⟨_, rfl⟩
      rw [← hu0, ← hv0] at F0
      simp only [← hu1, ← hv1] at F1
      generalize f.all[j] = x at *
      have e1 : ((u1 : Int) != (u0 : Int) + 21) = false := by simp; omega
      have e2 : ((v1 : Int) != (v0 : Int) + x.data.size) = false := by simp; omega
      have r1 : (0 : Int) ≤ u0 := by omega
      have r2 : (u0 : Int) ≤ 120000 := by omega
      have r3 : (0 : Int) ≤ v0 := by omega
      have r4 : (v0 : Int) ≤ 130000 := by omega
      have r5 : (x.data.size : Int) ≤ 200 := by omega
      have r6 : (0 : Int) ≤ j := by omega
      have r7 : (j : Int) + 1 < f.all.length := by omega
      clear hb hc c1 c2 b3 b16 hu0 hu1 hv0 hv1 hds
      rw [show ((j + 1 : Nat) : Int) = (j : Int) + 1 from by omega]
      go_wp2_with fail
      refine F0.out.mono ?_
      rintro e w5 ⟨rfl, hb5⟩
      have H5 := Lib.hid hb5
      have q9' := keep_cell hb5 q9
      clear hb5 q9
      go_wp2_with fail
      refine (F1.out _ H5.out).mono ?_
      rintro e w6 ⟨rfl, hb6⟩
      have H6 := Lib.hid (below_from H5.out hb6)
      have q9 := keep_cell hb6 q9'
      clear hb6 q9'
      go_wp2_with fail
      go_roundw
      case rel => exact ⟨j + 2, by omega, by omega, by go_num, HB.out.trans (H6.out.mono HB.out.size)⟩
      case measure => simp [intOf]; omega
    · have r7 : (f.all.length : Int) ≤ k := by omega
      go_wp2_with fail
      go_returns
      exact ⟨by simp; omega, B4.out.trans (HB.out.mono B4.out.size)⟩
theorem fnFileOffsets_any {H : Type} {enc : TypeId × Value → H} (x0 x1 x2 x3 x4 x5 x6 x7 x8 : Int) (x9 x10 x11 x12 x13 x14 x15 x16 x17 x18 x19 x20 : Value) (w : World) (b0 : 0 ≤ x0 ∧ x0 < 256) (b1 : 0 ≤ x1 ∧ x1 < 256) (b2 : 0 ≤ x2 ∧ x2 < 256) (b3 : 0 ≤ x3 ∧ x3 < 256) (b4 : 0 ≤ x4 ∧ x4 < 256) (b5 : 0 ≤ x5 ∧ x5 < 256) (b6 : 0 ≤ x6 ∧ x6 < 256) (b7 : 0 ≤ x7 ∧ x7 < 256) (b8 : 0 ≤ x8 ∧ x8 < 4294967296) (b9 : Rd enc Tryd.prog w 24 [x9]) (b10 : Rd enc Tryd.prog w 25 [x10]) (b11 : Rd enc Tryd.prog w 25 [x11]) (b12 : Rd enc Tryd.prog w 26 [x12]) (b13 : Rd enc Tryd.prog w 26 [x13]) (b14 : Rd enc Tryd.prog w 26 [x14]) (b15 : Rd enc Tryd.prog w 26 [x15]) (b16 : Rd enc Tryd.prog w 27 [x16]) (b17 : Rd enc Tryd.prog w 28 [x17]) (b18 : Rd enc Tryd.prog w 29 [x18]) (b19 : Rd enc Tryd.prog w 30 [x19]) (b20 : Rd enc Tryd.prog w 31 [x20]) : Calls Tryd.prog 5 #[.agg #[.int .u8 x0, .int .u8 x1, .int .u8 x2, .int .u8 x3, .int .u8 x4, .int .u8 x5, .int .u8 x6, .int .u8 x7, .int .u32 x8, x9, x10, x11, x12, x13, x14, x15, x16, x17, x18, x19, x20]] w (LawEnd w) := by
  obtain ⟨f, hI, e⟩ := Rd.file b0 b1 b2 b3 b4 b5 b6 b7 b8 b9 b10 b11 b12 b13 b14 b15 b16 b17 b18 b19 b20
  rw [← e]
  exact fnFileOffsets_walk f w hI
end Go.Proofs.YtimdaolbdgafcaaDoor
