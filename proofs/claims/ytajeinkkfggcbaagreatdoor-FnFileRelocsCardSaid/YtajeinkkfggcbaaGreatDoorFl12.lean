/- Laws on an object file: relocations read again. (printed by gen_fl8.py) -/
import Derived.Test.YtajeinkkfggcbaaGreatDoorSmall
import Derived.Test.YtajeinkkfggcbaaGreatDoorBuild
import Derived.BigQuiet
import Derived.Test.YtajeinkkfggcbaaGreatDoorImplGr
namespace Go.Proofs.YtajeinkkfggcbaaGreatDoor
open Go.RowKit

set_option maxRecDepth 100000 in
set_option maxHeartbeats 4000000 in
theorem fnFileRelocs_walk (f : FM) (w : World) (hI : f.In w) : Calls Tryz.prog 4 #[f.val] w (LawEnd w) := by
  obtain ⟨p0, p1, p2, p3, p4, p5, p6, p7, a0, a1, a2, a3, a4, a5, a6, a7, a8, a9, a10, a11, efp, hA, e⟩ := FM.val_eq hI.fp.1
  have HE := Lib.hid e
  have EFP := Lib.hid efp
  rw [e]
  clear e efp
  have HI := Lib.hid hI
  have HA := Lib.hid hA
  obtain ⟨w0, hw0⟩ : ∃ w0, w0 = w.alloc (.cells (fileArr p0 p1 p2 p3 p4 p5 p6 p7 a0 a1 a2 a3 a4 a5 a6 a7 a8 a9 a10 a11 f) 33) := ⟨_, rfl⟩
  have BX0 := Lib.hid (show Blk w0 w.heap.size 33 (fileArr p0 p1 p2 p3 p4 p5 p6 p7 a0 a1 a2 a3 a4 a5 a6 a7 a8 a9 a10 a11 f) from by rw [hw0]; exact Blk.new _ _ _)
  have B0 := Lib.hid (show Below w.heap.size w w0 from by rw [hw0]; exact later_alloc _ _)
  have HW := Lib.hid hw0
  have Z6 := Lib.hid (show Calls Tryz.prog 5 #[.agg (fileArr p0 p1 p2 p3 p4 p5 p6 p7 a0 a1 a2 a3 a4 a5 a6 a7 a8 a9 a10 a11 f)] w0 (RetIf (∀ L ∈ f.lists, L.l.length ≤ 2147483647) w0) from by have h := zz6_any f w0 (HI.out.here B0.out); rw [HE.out] at h; exact h)
  have SMA := Lib.hid (fun (W : World) (hb : Below w.heap.size w W) (hL : ∀ L ∈ f.lists, L.l.length ≤ 2147483647) => show Calls Tryz.prog 6 #[.agg (fileArr p0 p1 p2 p3 p4 p5 p6 p7 a0 a1 a2 a3 a4 a5 a6 a7 a8 a9 a10 a11 f)] W (RetIf f.Small W) from by have h := small_any f W (HI.out.here hb) hL; rw [HE.out] at h; exact h)
  have BFA := Lib.hid (fun (W : World) (hb : Below w.heap.size w W) (S : f.Small) => show Calls Tryz.prog 7 #[.agg (fileArr p0 p1 p2 p3 p4 p5 p6 p7 a0 a1 a2 a3 a4 a5 a6 a7 a8 a9 a10 a11 f)] W (RetB f.bytes W) from by have h := buildFile_any f W (HI.out.here hb) S; rw [HE.out] at h; exact h)
  have ALL := Lib.hid (fun (W : World) (hb : Below w.heap.size w W) (hL : ∀ L ∈ f.lists, L.l.length ≤ 2147483647) => show Calls Tryz.prog 8 #[.agg (fileArr p0 p1 p2 p3 p4 p5 p6 p7 a0 a1 a2 a3 a4 a5 a6 a7 a8 a9 a10 a11 f)] W (AllIs f W) from by have h := all_any f w W HI.out hb hL; rw [HE.out] at h; exact h)
  clear hI hA hw0
  go_enter Tryz.func4, Tryz.ntmps4
  go_upto_region 1 with fail
  rw [← HW.out]
  go_wp2_with (refine wpList_load_row rfl 33 (.tmp 1) rfl w.heap.size rfl 33 _ (0, 0) _ BX0.out Tryz.underlying33 rfl Tryz.fileInfo ?_)
  refine Z6.out.mono ?_
  rintro e w1 ⟨b1, rfl, hp1, hb1⟩
  have BX1 := Lib.hid (BX0.out.here hb1)
  have B1 := Lib.hid (below_from B0.out hb1)
  clear hb1
  rcases b1 with _ | _
  · go_wp2_with fail
    go_returns
    exact ⟨rfl, B1.out⟩
  have FL := Lib.hid (hp1 rfl)
  clear hp1 BX0 B0 Z6 HW
  go_wp2_with (refine wpList_load_row rfl 33 (.tmp 1) rfl w.heap.size rfl 33 _ (0, 0) _ BX1.out Tryz.underlying33 rfl Tryz.fileInfo ?_)
  refine (SMA.out w1 B1.out FL.out).mono ?_
  rintro e w2 ⟨b2, rfl, hp2, hb2⟩
  have BX2 := Lib.hid (BX1.out.here hb2)
  have B2 := Lib.hid (below_from B1.out hb2)
  clear hb2
  rcases b2 with _ | _
  · go_wp2_with fail
    go_returns
    exact ⟨rfl, B2.out⟩
  have SM := Lib.hid (hp2 rfl)
  clear hp2 BX1 B1 SMA
  go_wp2_with (refine wpList_load_row rfl 33 (.tmp 1) rfl w.heap.size rfl 33 _ (0, 0) _ BX2.out Tryz.underlying33 rfl Tryz.fileInfo ?_)
  refine (BFA.out w2 B2.out SM.out).mono ?_
  rintro e w3 ⟨A3, c3, rfl, s3, k3, hb3⟩
  have len0 := FM.bytes_len SM.out
  have len1 := f.at_mono 0 18 (by omega)
  obtain ⟨d, o, rfl, at3⟩ := s3.at_ (by omega)
  have BX3 := Lib.hid (BX2.out.here hb3)
  have B3 := Lib.hid (below_from B2.out hb3)
  obtain ⟨n, hn⟩ : ∃ n, n = f.bytes.length := ⟨_, rfl⟩
  rw [← hn] at k3 len0 ⊢
  have D3 := Lib.hid (show Dat f d o n c3 w3 from ⟨hn, SM.out, HI.out.flags, k3, at3, at3.lt (by rw [← hn]; omega)⟩)
  have n0 : (96 : Int) ≤ n := by omega
  have n1 : (n : Int) ≤ 110000 := by omega
  have n2 : (n : Int) ≤ c3 := by omega
  clear len0 len1 hn s3 k3 at3 hb3 BX2 B2
  go_wp2_with (refine wpList_load_row rfl 33 (.tmp 1) rfl w.heap.size rfl 33 _ (0, 0) _ BX3.out Tryz.underlying33 rfl Tryz.fileInfo ?_)
  refine (ALL.out w3 B3.out FL.out).mono ?_
  rintro e w4 ⟨LA, LC, rfl, hs, hcap, hb4⟩
  have BX4 := Lib.hid (BX3.out.here hb4)
  have B4 := Lib.hid (below_from B3.out hb4)
  have D4 := Lib.hid (D3.out.here hb4)
  have HS := Lib.hid hs
  have a60 := SM.out.all
  have a0 : (0 : Int) ≤ f.all.length := by omega
  have a1 : (f.all.length : Int) ≤ 60 := by omega
  clear hs hcap hb4 BX3 B3 D3 a60
  go_wp2_with fail
  go_loopw [4, 5, 6, 7, 21] (fun _ _ _ _ i wr => ∃ k : Nat, k ≤ f.all.length ∧ i = .int .i64 k ∧ Below w4.heap.size w4 wr) (fun _ _ _ _ i _ => f.all.length - (intOf i).toNat)
  case atStart => exact ⟨0, by omega, rfl, Below.refl _ _⟩
  case round =>
    obtain ⟨k, hk, rfl, hb⟩ := hrel
    have HB := Lib.hid hb
    have zb := hb.size
    by_cases hlt : k < f.all.length
    · obtain ⟨bb, oo, rfl, hc⟩ := SlR.at_ (HS.out.here hb) k hlt
      have hIN := (fun (L : Sl Df) (hL : L ∈ f.lists) => (HI.out.dfs L hL).sub)
      have hOK := (fun (L : Sl Df) (hL : L ∈ f.lists) => (HI.out.dfs L hL).ok)
      have hm2 : f.all[k] ∈ (f.lists.map Sl.l).flatten := by rw [← FM.all_flat]; exact List.getElem_mem hlt
      obtain ⟨L0, hL0, hd0⟩ := List.mem_flatten.1 hm2
      obtain ⟨L1, hL1, rfl⟩ := List.mem_map.1 hL0
      have hin := hIN L1 hL1 _ hd0
      have hok := hOK L1 hL1 _ hd0
      have hsz := SM.out.data _ (List.getElem_mem hlt)
      have HRL := Lib.hid (show ∀ j (h : j < f.all[k].rs.l.length), Has f.bytes (f.at_ 14 + 23 * (cntK Df.nr f.all k + j)) (f.all[k].rs.l[j]).bytes from fun j h => FM.has_rel SM.out k hlt j h)
      have HXL := Lib.hid (show ∀ j (h : j < f.all[k].xs.l.length), Has f.bytes (f.at_ 15 + 9 * (cntK Df.nx f.all k + j)) (f.all[k].xs.l[j]).bytes from fun j h => FM.has_aux SM.out k hlt j h)
      have q0 := hc 0 _ rfl
      have q1 := hc 1 _ rfl
      have q2 := hc 2 _ rfl
      have q3 := hc 3 _ rfl
      have q4 := hc 4 _ rfl
      have q5 := hc 5 _ rfl
      have q6 := hc 6 _ rfl
      have q7 := hc 7 _ rfl
      have q8 := hc 8 _ rfl
      have q9 := hc 9 _ rfl
      rw [Nat.add_zero] at q0
      have C1 := Lib.hid (fun (W : World) (hD : Dat f d o n c3 W) => show Calls Tryz.prog 10 #[.slice (some ⟨d, o, none⟩) n c3, .int .u32 k] W (ReadReloc f.all[k].rs.l W) from fileRelocs_any hD k hlt hok.rs)
      have C2 := Lib.hid (fun (W : World) (hD : Dat f d o n c3 W) => show Calls Tryz.prog 11 #[.slice (some ⟨d, o, none⟩) n c3, .int .u32 k] W (ReadReloc f.all[k].rs.l W) from fileAllRelocs_any hD k hlt hok.rs)
      clear hIN hOK hm2 hL0 hd0 hc
      generalize f.all[k] = x at *
      obtain ⟨nm, sy, ⟨RA, rc, rl⟩, ⟨XA, xc, xl⟩, dt⟩ := x
      dsimp only at hin hok hsz HRL HXL C1 C2 q0 q1 q2 q3 q4 q5 q6 q7 q8 q9
      have HSR := Lib.hid (show SlR 6 w RA (rl.map Rl.cells) from hin.rs)
      have HSX := Lib.hid (show SlR 3 w XA (xl.map Ax.cells) from hin.xs)
      have HOR := Lib.hid (show ∀ r ∈ rl, r.Ok from hok.rs)
      have HOX := Lib.hid (show ∀ r ∈ xl, r.Ok from hok.xs)
      have rn1 : rl.length ≤ 20 := hsz.2.1
      have xn1 : xl.length ≤ 20 := hsz.2.2
      have rn2 : (rl.length : Int) ≤ 20 := by omega
      have xn2 : (xl.length : Int) ≤ 20 := by omega
      obtain ⟨w5, hw5⟩ : ∃ w5, w5 = wr.alloc (.cells #[.string nm, .int .u16 sy.abi, .int .u8 sy.kind, .int .u8 sy.flag, .int .u8 sy.flag2, .int .u32 sy.size, .int .u32 sy.align, .slice RA rl.length rc, .slice XA xl.length xc, .string dt] 44) := ⟨_, rfl⟩
      have HW5 := Lib.hid hw5
      have BK := Lib.hid (show Blk w5 wr.heap.size 44 #[.string nm, .int .u16 sy.abi, .int .u8 sy.kind, .int .u8 sy.flag, .int .u8 sy.flag2, .int .u32 sy.size, .int .u32 sy.align, .slice RA rl.length rc, .slice XA xl.length xc, .string dt] from by rw [hw5]; exact Blk.new _ _ _)
      have B5 := Lib.hid (show Below w4.heap.size w4 w5 from by rw [hw5]; exact HB.out.alloc zb _)
      have D5 := Lib.hid (D4.out.here B5.out)
      have L5 := Lib.hid (show Below w.heap.size w w5 from B4.out.trans (B5.out.mono B4.out.size))
      have i3 : (k : Int) < 60 := by omega
      have i4 : (0 : Int) ≤ (k : Int) := by omega
      clear hb hw5 hin hok hsz hL1
      go_wp2_with fail
      rw [← HW5.out]
      refine (C1.out w5 D5.out).mono ?_
      rintro e w6 ⟨A6, c6, rfl, hs6, hb6⟩
      have S6 := Lib.hid hs6
      have D6 := Lib.hid (D5.out.here hb6)
      have B6 := Lib.hid (below_from (Below.refl w5.heap.size w5) hb6)
      clear hs6 hb6
      go_wp2_with fail
      refine (C2.out w6 D6.out).mono ?_
      rintro e w7 ⟨A7, c7, rfl, hs7, hb7⟩
      have S7 := Lib.hid hs7
      have T7 := Lib.hid (S6.out.here hb7)
      have B7 := Lib.hid (below_from B6.out hb7)
      have bk := (BK.out.here B7.out).cell 7
      have L7 := Lib.hid (show Below w.heap.size w w7 from L5.out.trans (B7.out.mono L5.out.size))
      clear hs7 hb7 S6 D6 B6
      go_wp2_with fail
      have z7 := L7.out.size
      go_loopw [8, 9, 51] (fun _ _ i wr => ∃ j : Nat, j ≤ rl.length ∧ i = .int .i64 j ∧ Below w7.heap.size w7 wr) (fun _ _ i _ => rl.length - (intOf i).toNat)
      case atStart => exact ⟨0, by omega, rfl, Below.refl _ _⟩
      case round =>
        obtain ⟨j, hj, rfl, hbj⟩ := hrel
        have HBj := Lib.hid hbj
        have zbj := hbj.size
        by_cases hltj : j < rl.length
        · obtain ⟨b1, o1, hA1, hc1⟩ := SlR.at_ ((HSR.out.here L7.out).here hbj) j hltj
          obtain ⟨b2, o2, hA2, hc2⟩ := SlR.at_ (T7.out.here hbj) j hltj
          obtain ⟨b3, o3, hA3, hc3⟩ := SlR.at_ (S7.out.here hbj) j hltj
          have p0 := hc1 0 _ rfl
          have p1 := hc1 1 _ rfl
          have p2 := hc1 2 _ rfl
          have p3 := hc1 3 _ rfl
          have p4 := hc1 4 _ rfl
          have p5 := hc1 5 _ rfl
          have s0 := hc2 0 _ rfl
          have s1 := hc2 1 _ rfl
          have s2 := hc2 2 _ rfl
          have s3 := hc2 3 _ rfl
          have s4 := hc2 4 _ rfl
          have s5 := hc2 5 _ rfl
          have t0 := hc3 0 _ rfl
          have t1 := hc3 1 _ rfl
          have t2 := hc3 2 _ rfl
          have t3 := hc3 3 _ rfl
          have t4 := hc3 4 _ rfl
          have t5 := hc3 5 _ rfl
          rw [Nat.add_zero] at p0 s0 t0
          obtain rfl : RA = some ⟨b1, o1, none⟩ := hA1
          obtain rfl : A6 = some ⟨b2, o2, none⟩ := hA2
          obtain rfl : A7 = some ⟨b3, o3, none⟩ := hA3
          generalize rl[j] = r at *
          obtain ⟨w8, hw8⟩ : ∃ w8, w8 = wr.alloc (.cells #[.int .i32 r.off, .int .u8 r.size, .int .u16 r.kind, .int .i64 r.add, .int .u32 r.pkg, .int .u32 r.sym] 53) := ⟨_, rfl⟩
          have HW8 := Lib.hid hw8
          have BR := Lib.hid (show Blk w8 wr.heap.size 53 #[.int .i32 r.off, .int .u8 r.size, .int .u16 r.kind, .int .i64 r.add, .int .u32 r.pkg, .int .u32 r.sym] from by rw [hw8]; exact Blk.new _ _ _)
          have BA8 : Below wr.heap.size wr w8 := by rw [hw8]; exact later_alloc _ _
          have B8 := Lib.hid (HBj.out.trans (BA8.mono zbj))
          have s0' := keep_cell BA8 s0
          have t0' := keep_cell BA8 t0
          have s1' := keep_cell BA8 s1
          have t1' := keep_cell BA8 t1
          have s2' := keep_cell BA8 s2
          have t2' := keep_cell BA8 t2
          have s3' := keep_cell BA8 s3
          have t3' := keep_cell BA8 t3
          have s4' := keep_cell BA8 s4
          have t4' := keep_cell BA8 t4
          have s5' := keep_cell BA8 s5
          have t5' := keep_cell BA8 t5
          have brc := BR.out.cell
          have j3 : (j : Int) < 20 := by omega
          have j4 : (0 : Int) ≤ (j : Int) := by omega
          clear hbj hc1 hc2 hc3 hw8 BA8
          go_wp2_with fail
          rw [← HW8.out]
          clear s0 t0 p0 s1 t1 p1 s2 t2 p2 s3 t3 p3 s4 t4 p4 s5 t5 p5
          go_quiet (fail)
          go_wp2_with fail
          go_roundw
          case rel => exact ⟨j + 1, by omega, by go_num, below_drewN B8.out _⟩
          case measure => simp [intOf]; omega
        · obtain rfl : j = rl.length := by omega
          go_wp2_with fail
          go_roundw
          case rel => exact ⟨k + 1, by omega, by go_num, B5.out.trans ((B7.out.trans (HBj.out.mono B7.out.size)).mono B5.out.size)⟩
          case measure => simp [intOf]; omega
    · obtain rfl : k = f.all.length := by omega
      go_wp2_with fail
      go_returns
      exact ⟨by simp; omega, B4.out.trans (HB.out.mono B4.out.size)⟩
theorem fnFileRelocs_any {H : Type} {enc : TypeId × Value → H} (x0 x1 x2 x3 x4 x5 x6 x7 x8 : Int) (x9 x10 x11 x12 x13 x14 x15 x16 x17 x18 x19 x20 : Value) (w : World) (b0 : 0 ≤ x0 ∧ x0 < 256) (b1 : 0 ≤ x1 ∧ x1 < 256) (b2 : 0 ≤ x2 ∧ x2 < 256) (b3 : 0 ≤ x3 ∧ x3 < 256) (b4 : 0 ≤ x4 ∧ x4 < 256) (b5 : 0 ≤ x5 ∧ x5 < 256) (b6 : 0 ≤ x6 ∧ x6 < 256) (b7 : 0 ≤ x7 ∧ x7 < 256) (b8 : 0 ≤ x8 ∧ x8 < 4294967296) (b9 : Rd enc Tryz.prog w 24 [x9]) (b10 : Rd enc Tryz.prog w 25 [x10]) (b11 : Rd enc Tryz.prog w 25 [x11]) (b12 : Rd enc Tryz.prog w 26 [x12]) (b13 : Rd enc Tryz.prog w 26 [x13]) (b14 : Rd enc Tryz.prog w 26 [x14]) (b15 : Rd enc Tryz.prog w 26 [x15]) (b16 : Rd enc Tryz.prog w 27 [x16]) (b17 : Rd enc Tryz.prog w 28 [x17]) (b18 : Rd enc Tryz.prog w 29 [x18]) (b19 : Rd enc Tryz.prog w 30 [x19]) (b20 : Rd enc Tryz.prog w 31 [x20]) : Calls Tryz.prog 4 #[.agg #[.int .u8 x0, .int .u8 x1, .int .u8 x2, .int .u8 x3, .int .u8 x4, .int .u8 x5, .int .u8 x6, .int .u8 x7, .int .u32 x8, x9, x10, x11, x12, x13, x14, x15, x16, x17, x18, x19, x20]] w (LawEnd w) := by
  obtain ⟨f, hI, e⟩ := Rd.file b0 b1 b2 b3 b4 b5 b6 b7 b8 b9 b10 b11 b12 b13 b14 b15 b16 b17 b18 b19 b20
  rw [← e]
  exact fnFileRelocs_walk f w hI
end Go.Proofs.YtajeinkkfggcbaaGreatDoor
