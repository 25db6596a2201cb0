/- Laws on an object file: where relocations and auxiliary symbols are written. (printed by gen_fl7.py) -/
import Derived.Test.YtimdaolbdgafcaaDoorSmall
import Derived.Test.YtimdaolbdgafcaaDoorBuild
import Derived.Test.YtimdaolbdgafcaaDoorImplD
import Derived.Test.YtimdaolbdgafcaaDoorSpecR
namespace Go.Proofs.YtimdaolbdgafcaaDoor
open Go.RowKit

theorem cut_of_has {xs ys : List Int} {p : Nat} (h : Has xs p ys) : cut xs p ys.length = ys := by
  unfold cut
  rw [h.drop, List.take_left']
  rfl
set_option maxRecDepth 100000 in
set_option maxHeartbeats 4000000 in
theorem fnFilePlaces_walk (f : FM) (w : World) (hI : f.In w) : Calls Tryd.prog 11 #[f.val] w (LawEnd w) := by
  obtain ⟨p0, p1, p2, p3, p4, p5, p6, p7, a0, a1, a2, a3, a4, a5, a6, a7, a8, a9, a10, a11, efp, hA, e⟩ := FM.val_eq hI.fp.1
  have HE := Lib.hid e
  have EFP := Lib.hid efp
  rw [e]
  clear e efp
  have HI := Lib.hid hI
  have HA := Lib.hid hA
  obtain ⟨w0, hw0⟩ : ∃ w0, w0 = w.alloc (.cells (fileArr p0 p1 p2 p3 p4 p5 p6 p7 a0 a1 a2 a3 a4 a5 a6 a7 a8 a9 a10 a11 f) 33) := ⟨_, rfl⟩
  have BX0 := Lib.hid (show Blk w0 w.heap.size 33 (fileArr p0 p1 p2 p3 p4 p5 p6 p7 a0 a1 a2 a3 a4 a5 a6 a7 a8 a9 a10 a11 f) from by rw [hw0]; exact Blk.new _ _ _)
  have B0 := Lib.hid (show Below w.heap.size w w0 from by rw [hw0]; exact later_alloc _ _)
  have HW := Lib.hid hw0
  have Z6 := Lib.hid (show Calls Tryd.prog 17 #[.agg (fileArr p0 p1 p2 p3 p4 p5 p6 p7 a0 a1 a2 a3 a4 a5 a6 a7 a8 a9 a10 a11 f)] w0 (RetIf (∀ L ∈ f.lists, L.l.length ≤ 2147483647) w0) from by have h := zz6_any f w0 (HI.out.here B0.out); rw [HE.out] at h; exact h)
  have SMA := Lib.hid (fun (W : World) (hb : Below w.heap.size w W) (hL : ∀ L ∈ f.lists, L.l.length ≤ 2147483647) => show Calls Tryd.prog 18 #[.agg (fileArr p0 p1 p2 p3 p4 p5 p6 p7 a0 a1 a2 a3 a4 a5 a6 a7 a8 a9 a10 a11 f)] W (RetIf f.Small W) from by have h := small_any f W (HI.out.here hb) hL; rw [HE.out] at h; exact h)
  have BFA := Lib.hid (fun (W : World) (hb : Below w.heap.size w W) (S : f.Small) => show Calls Tryd.prog 19 #[.agg (fileArr p0 p1 p2 p3 p4 p5 p6 p7 a0 a1 a2 a3 a4 a5 a6 a7 a8 a9 a10 a11 f)] W (RetB f.bytes W) from by have h := buildFile_any f W (HI.out.here hb) S; rw [HE.out] at h; exact h)
  have ALL := Lib.hid (fun (W : World) (hb : Below w.heap.size w W) (hL : ∀ L ∈ f.lists, L.l.length ≤ 2147483647) => show Calls Tryd.prog 22 #[.agg (fileArr p0 p1 p2 p3 p4 p5 p6 p7 a0 a1 a2 a3 a4 a5 a6 a7 a8 a9 a10 a11 f)] W (AllIs f W) from by have h := all_any f w W HI.out hb hL; rw [HE.out] at h; exact h)
  clear hI hA hw0
  go_enter Tryd.func11, Tryd.ntmps11
  go_upto_region 1 with fail
  rw [← HW.out]
  go_wp2_with (refine wpList_load_row rfl 33 (.tmp 1) rfl w.heap.size rfl 33 _ (0, 0) _ BX0.out Tryd.underlying33 rfl Tryd.fileInfo ?_)
  refine Z6.out.mono ?_
  rintro e w1 ⟨b1, rfl, hp1, hb1⟩
  have BX1 := Lib.hid (BX0.out.here hb1)
  have B1 := Lib.hid (below_from B0.out hb1)
  clear hb1
  rcases b1 with _ | _
  · go_wp2_with fail
    go_returns
    exact ⟨rfl, B1.out⟩
  have FL := Lib.hid (hp1 rfl)
  clear hp1 BX0 B0 Z6 HW
  go_wp2_with (refine wpList_load_row rfl 33 (.tmp 1) rfl w.heap.size rfl 33 _ (0, 0) _ BX1.out Tryd.underlying33 rfl Tryd.fileInfo ?_)
  refine (SMA.out w1 B1.out FL.out).mono ?_
  rintro e w2 ⟨b2, rfl, hp2, hb2⟩
  have BX2 := Lib.hid (BX1.out.here hb2)
  have B2 := Lib.hid (below_from B1.out hb2)
  clear hb2
  rcases b2 with _ | _
  · go_wp2_with fail
    go_returns
    exact ⟨rfl, B2.out⟩
  have SM := Lib.hid (hp2 rfl)
  clear hp2 BX1 B1 SMA
  go_wp2_with (refine wpList_load_row rfl 33 (.tmp 1) rfl w.heap.size rfl 33 _ (0, 0) _ BX2.out Tryd.underlying33 rfl Tryd.fileInfo ?_)
  refine (BFA.out w2 B2.out SM.out).mono ?_
  rintro e w3 ⟨A3, c3, rfl, s3, k3, hb3⟩
  have len0 := FM.bytes_len SM.out
  have len1 := f.at_mono 0 18 (by omega)
  obtain ⟨d, o, rfl, at3⟩ := s3.at_ (by omega)
  have BX3 := Lib.hid (BX2.out.here hb3)
  have B3 := Lib.hid (below_from B2.out hb3)
  obtain ⟨n, hn⟩ : ∃ n, n = f.bytes.length := ⟨_, rfl⟩
  rw [← hn] at k3 len0 ⊢
  have D3 := Lib.hid (show Dat f d o n c3 w3 from ⟨hn, SM.out, HI.out.flags, k3, at3, at3.lt (by rw [← hn]; omega)⟩)
  have n0 : (96 : Int) ≤ n := by omega
  have n1 : (n : Int) ≤ 110000 := by omega
  have n2 : (n : Int) ≤ c3 := by omega
  clear len0 len1 hn s3 k3 at3 hb3 BX2 B2
  go_wp2_with (refine wpList_load_row rfl 33 (.tmp 1) rfl w.heap.size rfl 33 _ (0, 0) _ BX3.out Tryd.underlying33 rfl Tryd.fileInfo ?_)
  refine (ALL.out w3 B3.out FL.out).mono ?_
  rintro e w4 ⟨LA, LC, rfl, hs, hcap, hb4⟩
  have BX4 := Lib.hid (BX3.out.here hb4)
  have B4 := Lib.hid (below_from B3.out hb4)
  have D4 := Lib.hid (D3.out.here hb4)
  have HS := Lib.hid hs
  have a60 := SM.out.all
  have a0 : (0 : Int) ≤ f.all.length := by omega
  have a1 : (f.all.length : Int) ≤ 60 := by omega
  clear hs hcap hb4 BX3 B3 D3 a60
  go_wp2_with fail
  go_loopw [4, 5, 27] (fun _ _ i wr => ∃ k : Nat, k ≤ f.all.length ∧ i = .int .i64 k ∧ Below w4.heap.size w4 wr) (fun _ _ i _ => f.all.length - (intOf i).toNat)
  case atStart => exact ⟨0, by omega, rfl, Below.refl _ _⟩
  case round =>
    obtain ⟨k, hk, rfl, hb⟩ := hrel
    have HB := Lib.hid hb
    have zb := hb.size
    by_cases hlt : k < f.all.length
    · obtain ⟨bb, oo, rfl, hc⟩ := SlR.at_ (HS.out.here hb) k hlt
      have hIN := (fun (L : Sl Df) (hL : L ∈ f.lists) => (HI.out.dfs L hL).sub)
      have hOK := (fun (L : Sl Df) (hL : L ∈ f.lists) => (HI.out.dfs L hL).ok)
      have hm2 : f.all[k] ∈ (f.lists.map Sl.l).flatten := by rw [← FM.all_flat]; exact List.getElem_mem hlt
      obtain ⟨L0, hL0, hd0⟩ := List.mem_flatten.1 hm2
      obtain ⟨L1, hL1, rfl⟩ := List.mem_map.1 hL0
      have hin := hIN L1 hL1 _ hd0
      have hok := hOK L1 hL1 _ hd0
      have hsz := SM.out.data _ (List.getElem_mem hlt)
      have HRL := Lib.hid (show ∀ j (h : j < f.all[k].rs.l.length), Has f.bytes (f.at_ 14 + 23 * (cntK Df.nr f.all k + j)) (f.all[k].rs.l[j]).bytes from fun j h => FM.has_rel SM.out k hlt j h)
      have HXL := Lib.hid (show ∀ j (h : j < f.all[k].xs.l.length), Has f.bytes (f.at_ 15 + 9 * (cntK Df.nx f.all k + j)) (f.all[k].xs.l[j]).bytes from fun j h => FM.has_aux SM.out k hlt j h)
      have q0 := hc 0 _ rfl
      have q1 := hc 1 _ rfl
      have q2 := hc 2 _ rfl
      have q3 := hc 3 _ rfl
      have q4 := hc 4 _ rfl
      have q5 := hc 5 _ rfl
      have q6 := hc 6 _ rfl
      have q7 := hc 7 _ rfl
      have q8 := hc 8 _ rfl
      have q9 := hc 9 _ rfl
      rw [Nat.add_zero] at q0
      clear hIN hOK hm2 hL0 hd0 hc
      generalize f.all[k] = x at *
      obtain ⟨nm, sy, ⟨RA, rc, rl⟩, ⟨XA, xc, xl⟩, dt⟩ := x
      dsimp only at hin hok hsz HRL HXL q0 q1 q2 q3 q4 q5 q6 q7 q8 q9
      have HSR := Lib.hid (show SlR 6 w RA (rl.map Rl.cells) from hin.rs)
      have HSX := Lib.hid (show SlR 3 w XA (xl.map Ax.cells) from hin.xs)
      have HOR := Lib.hid (show ∀ r ∈ rl, r.Ok from hok.rs)
      have HOX := Lib.hid (show ∀ r ∈ xl, r.Ok from hok.xs)
      have rn1 : rl.length ≤ 20 := hsz.2.1
      have xn1 : xl.length ≤ 20 := hsz.2.2
      have rn2 : (rl.length : Int) ≤ 20 := by omega
      have xn2 : (xl.length : Int) ≤ 20 := by omega
      obtain ⟨w5, hw5⟩ : ∃ w5, w5 = wr.alloc (.cells #[.string nm, .int .u16 sy.abi, .int .u8 sy.kind, .int .u8 sy.flag, .int .u8 sy.flag2, .int .u32 sy.size, .int .u32 sy.align, .slice RA rl.length rc, .slice XA xl.length xc, .string dt] 49) := ⟨_, rfl⟩
      have HW5 := Lib.hid hw5
      have BK := Lib.hid (show Blk w5 wr.heap.size 49 #[.string nm, .int .u16 sy.abi, .int .u8 sy.kind, .int .u8 sy.flag, .int .u8 sy.flag2, .int .u32 sy.size, .int .u32 sy.align, .slice RA rl.length rc, .slice XA xl.length xc, .string dt] from by rw [hw5]; exact Blk.new _ _ _)
      have B5 := Lib.hid (show Below w4.heap.size w4 w5 from by rw [hw5]; exact HB.out.alloc zb _)
      have D5 := Lib.hid (D4.out.here B5.out)
      have L5 := Lib.hid (show Below w.heap.size w w5 from B4.out.trans (B5.out.mono B4.out.size))
      have i3 : (k : Int) < 60 := by omega
      have i4 : (0 : Int) ≤ (k : Int) := by omega
      clear hb hw5 hin hok hsz hL1
      have bk7 := BK.out.cell 7
      go_wp2_with fail
      rw [← HW5.out]
      have z5 := L5.out.size
      go_loopw [6, 7, 35] (fun _ _ i wr => ∃ j : Nat, j ≤ rl.length ∧ i = .int .i64 j ∧ Below w5.heap.size w5 wr) (fun _ _ i _ => rl.length - (intOf i).toNat)
      case atStart => exact ⟨0, by omega, rfl, Below.refl _ _⟩
      case round =>
        obtain ⟨j, hj, rfl, hbj⟩ := hrel
        have HBj := Lib.hid hbj
        have zbj := hbj.size
        by_cases hltj : j < rl.length
        · obtain ⟨bb, oo, hA', hc⟩ := SlR.at_ ((HSR.out.here L5.out).here hbj) j hltj
          have CO := Lib.hid (fun (W : World) (hD : Dat f d o n c3 W) => fileRelocOff_any hD k j (by omega) (by omega))
          have HH := HRL.out j hltj
          have p0 := hc 0 _ rfl
          have p1 := hc 1 _ rfl
          have p2 := hc 2 _ rfl
          have p3 := hc 3 _ rfl
          have p4 := hc 4 _ rfl
          have p5 := hc 5 _ rfl
          rw [Nat.add_zero] at p0
          obtain rfl : RA = some ⟨bb, oo, none⟩ := hA'
          generalize rl[j] = r at *
          have hln := r.bytes_length
          have hle := HH.le (by rw [hln]; omega)
          have DLN := D5.out.len
          rw [hln] at hle
          obtain ⟨p, hp⟩ : ∃ p, p = f.at_ 14 + 23 * (cntK Df.nr f.all k + j) := ⟨_, rfl⟩
          rw [← hp] at HH CO hle
          have CUT := Lib.hid (show cut f.bytes p 23 = r.bytes from by rw [← hln]; exact cut_of_has HH)
          have FB := Lib.hid (fun (W : World) (hD : Dat f d o n c3 W) => show Calls Tryd.prog 24 #[.slice (some ⟨d, o, none⟩) n c3, .int .u32 p, .int .u32 23] W (BytesRead r.bytes W) from by have h := fileBytes_any hD p 23 (by omega) (by omega); rw [CUT.out] at h; exact h)
          have SPC := Lib.hid (fun (W : World) => show Calls Tryd.prog 29 #[.agg #[.int .i32 r.off, .int .u8 r.size, .int .u16 r.kind, .int .i64 r.add, .int .u32 r.pkg, .int .u32 r.sym]] W (RetB r.bytes W) from relocationBytes_any r.off r.size r.kind r.add r.pkg r.sym W)
          have SB := Lib.hid (fun (W : World) (A1 A2 : Option Addr) (k1 k2 : Nat) (h1 : SlI .u8 W A1 r.bytes) (h2 : SlI .u8 W A2 r.bytes) => show Calls Tryd.prog 20 #[.slice A1 23 k1, .slice A2 23 k2] W (RetQ (.bool true) W) from by have h := sameBytes_any A1 A2 k1 k2 r.bytes W h1 h2 (by rw [hln]; unfold maxLen; omega); rw [hln] at h; exact h)
          have HLN := Lib.hid hln
          obtain ⟨w6, hw6⟩ : ∃ w6, w6 = wr.alloc (.cells #[.int .i32 r.off, .int .u8 r.size, .int .u16 r.kind, .int .i64 r.add, .int .u32 r.pkg, .int .u32 r.sym] 67) := ⟨_, rfl⟩
          have HW6 := Lib.hid hw6
          have BR := Lib.hid (show Blk w6 wr.heap.size 67 #[.int .i32 r.off, .int .u8 r.size, .int .u16 r.kind, .int .i64 r.add, .int .u32 r.pkg, .int .u32 r.sym] from by rw [hw6]; exact Blk.new _ _ _)
          have B6 := Lib.hid (show Below w5.heap.size w5 w6 from by rw [hw6]; exact HBj.out.alloc zbj _)
          have D6 := Lib.hid (D5.out.here B6.out)
          have j3 : (j : Int) < 20 := by omega
          have j4 : (0 : Int) ≤ (j : Int) := by omega
          clear hbj hc hw6 HH hln hle DLN hp CUT
          go_wp2_with fail
          rw [← HW6.out]
          refine (SPC.out w6).mono ?_
          rintro e w7 ⟨A7, c7, rfl, hs7, hc7, hb7⟩
          have S7 := Lib.hid hs7
          have D7 := Lib.hid (D6.out.here hb7)
          have B7 := Lib.hid (below_from B6.out hb7)
          rw [HLN.out]
          clear hs7 hc7 hb7
          go_wp2_with fail
          refine (CO.out w7 D7.out).mono ?_
          rintro e w8 ⟨rfl, hb8⟩
          have S8 := Lib.hid (S7.out.here hb8)
          have D8 := Lib.hid (D7.out.here hb8)
          have B8 := Lib.hid (below_from B7.out hb8)
          clear hb8
          go_wp2_with fail
          refine (FB.out w8 D8.out).mono ?_
          rintro e w9 ⟨A9, c9, rfl, hs9, hb9⟩
          rw [HLN.out]
          generalize strOfNums r.bytes = sx at *
          have S9 := Lib.hid hs9
          have T9 := Lib.hid (S8.out.here hb9)
          have B9 := Lib.hid (below_from B8.out hb9)
          clear hs9 hb9
          go_wp2_with fail
          refine (SB.out w9 _ _ _ _ S9.out T9.out).mono ?_
          rintro e w10 ⟨rfl, m10, rfl⟩
          go_wp2_with fail
          go_roundw
          case rel => exact ⟨j + 1, by omega, by go_num, below_drewN B9.out m10⟩
          case measure => simp [intOf]; omega
        · obtain rfl : j = rl.length := by omega
          obtain ⟨w6a, hw6a⟩ : ∃ w' : World, w' = wr := ⟨_, rfl⟩
          have H6a := Lib.hid (show Below w5.heap.size w5 w6a from by rw [hw6a]; exact hbj)
          have z6a' := H6a.out.size
          have L6a := Lib.hid (show Below w.heap.size w w6a from L5.out.trans (H6a.out.mono L5.out.size))
          have D6a := Lib.hid (D5.out.here H6a.out)
          have bk8 := (BK.out.here H6a.out).cell 8
          rw [← hw6a]
          clear hw6a hbj HBj zbj hj hltj bk7
          go_wp2_with fail
          have z6a := L6a.out.size
          go_loopw [11, 12, 63] (fun _ _ i wr => ∃ j : Nat, j ≤ xl.length ∧ i = .int .i64 j ∧ Below w6a.heap.size w6a wr) (fun _ _ i _ => xl.length - (intOf i).toNat)
          case atStart => exact ⟨0, by omega, rfl, Below.refl _ _⟩
          case round =>
            obtain ⟨j, hj, rfl, hbj⟩ := hrel
            have HBj := Lib.hid hbj
            have zbj := hbj.size
            by_cases hltj : j < xl.length
            · obtain ⟨bb, oo, hA', hc⟩ := SlR.at_ ((HSX.out.here L6a.out).here hbj) j hltj
              have CO := Lib.hid (fun (W : World) (hD : Dat f d o n c3 W) => fileAuxOff_any hD k j (by omega) (by omega))
              have HH := HXL.out j hltj
              have p0 := hc 0 _ rfl
              have p1 := hc 1 _ rfl
              have p2 := hc 2 _ rfl
              rw [Nat.add_zero] at p0
              obtain rfl : XA = some ⟨bb, oo, none⟩ := hA'
              generalize xl[j] = r at *
              have hln := r.bytes_length
              have hle := HH.le (by rw [hln]; omega)
              have DLN := D6a.out.len
              rw [hln] at hle
              obtain ⟨p, hp⟩ : ∃ p, p = f.at_ 15 + 9 * (cntK Df.nx f.all k + j) := ⟨_, rfl⟩
              rw [← hp] at HH CO hle
              have CUT := Lib.hid (show cut f.bytes p 9 = r.bytes from by rw [← hln]; exact cut_of_has HH)
              have FB := Lib.hid (fun (W : World) (hD : Dat f d o n c3 W) => show Calls Tryd.prog 24 #[.slice (some ⟨d, o, none⟩) n c3, .int .u32 p, .int .u32 9] W (BytesRead r.bytes W) from by have h := fileBytes_any hD p 9 (by omega) (by omega); rw [CUT.out] at h; exact h)
              have SPC := Lib.hid (fun (W : World) => show Calls Tryd.prog 31 #[.agg #[.int .u8 r.kind, .int .u32 r.pkg, .int .u32 r.sym]] W (RetB r.bytes W) from auxiliaryBytes_any r.kind r.pkg r.sym W)
              have SB := Lib.hid (fun (W : World) (A1 A2 : Option Addr) (k1 k2 : Nat) (h1 : SlI .u8 W A1 r.bytes) (h2 : SlI .u8 W A2 r.bytes) => show Calls Tryd.prog 20 #[.slice A1 9 k1, .slice A2 9 k2] W (RetQ (.bool true) W) from by have h := sameBytes_any A1 A2 k1 k2 r.bytes W h1 h2 (by rw [hln]; unfold maxLen; omega); rw [hln] at h; exact h)
              have HLN := Lib.hid hln
              obtain ⟨w6, hw6⟩ : ∃ w6, w6 = wr.alloc (.cells #[.int .u8 r.kind, .int .u32 r.pkg, .int .u32 r.sym] 71) := ⟨_, rfl⟩
              have HW6 := Lib.hid hw6
              have BR := Lib.hid (show Blk w6 wr.heap.size 71 #[.int .u8 r.kind, .int .u32 r.pkg, .int .u32 r.sym] from by rw [hw6]; exact Blk.new _ _ _)
              have B6 := Lib.hid (show Below w6a.heap.size w6a w6 from by rw [hw6]; exact HBj.out.alloc zbj _)
              have D6 := Lib.hid (D6a.out.here B6.out)
              have j3 : (j : Int) < 20 := by omega
              have j4 : (0 : Int) ≤ (j : Int) := by omega
              clear hbj hc hw6 HH hln hle DLN hp CUT
              go_wp2_with fail
              rw [← HW6.out]
              refine (SPC.out w6).mono ?_
              rintro e w7 ⟨A7, c7, rfl, hs7, hc7, hb7⟩
              have S7 := Lib.hid hs7
              have D7 := Lib.hid (D6.out.here hb7)
              have B7 := Lib.hid (below_from B6.out hb7)
              rw [HLN.out]
              clear hs7 hc7 hb7
              go_wp2_with fail
              refine (CO.out w7 D7.out).mono ?_
              rintro e w8 ⟨rfl, hb8⟩
              have S8 := Lib.hid (S7.out.here hb8)
              have D8 := Lib.hid (D7.out.here hb8)
              have B8 := Lib.hid (below_from B7.out hb8)
              clear hb8
              go_wp2_with fail
              refine (FB.out w8 D8.out).mono ?_
              rintro e w9 ⟨A9, c9, rfl, hs9, hb9⟩
              rw [HLN.out]
              generalize strOfNums r.bytes = sx at *
              have S9 := Lib.hid hs9
              have T9 := Lib.hid (S8.out.here hb9)
              have B9 := Lib.hid (below_from B8.out hb9)
              clear hs9 hb9
              go_wp2_with fail
              refine (SB.out w9 _ _ _ _ S9.out T9.out).mono ?_
              rintro e w10 ⟨rfl, m10, rfl⟩
              go_wp2_with fail
              go_roundw
              case rel => exact ⟨j + 1, by omega, by go_num, below_drewN B9.out m10⟩
              case measure => simp [intOf]; omega
            · obtain rfl : j = xl.length := by omega
              go_wp2_with fail
              go_roundw
              case rel => exact ⟨k + 1, by omega, by go_num, B5.out.trans ((H6a.out.trans (HBj.out.mono z6a')).mono B5.out.size)⟩
              case measure => simp [intOf]; omega
    · obtain rfl : k = f.all.length := by omega
      go_wp2_with fail
      go_returns
      exact ⟨by simp; omega, B4.out.trans (HB.out.mono B4.out.size)⟩
theorem fnFilePlaces_any {H : Type} {enc : TypeId × Value → H} (x0 x1 x2 x3 x4 x5 x6 x7 x8 : Int) (x9 x10 x11 x12 x13 x14 x15 x16 x17 x18 x19 x20 : Value) (w : World) (b0 : 0 ≤ x0 ∧ x0 < 256) (b1 : 0 ≤ x1 ∧ x1 < 256) (b2 : 0 ≤ x2 ∧ x2 < 256) (b3 : 0 ≤ x3 ∧ x3 < 256) (b4 : 0 ≤ x4 ∧ x4 < 256) (b5 : 0 ≤ x5 ∧ x5 < 256) (b6 : 0 ≤ x6 ∧ x6 < 256) (b7 : 0 ≤ x7 ∧ x7 < 256) (b8 : 0 ≤ x8 ∧ x8 < 4294967296) (b9 : Rd enc Tryd.prog w 24 [x9]) (b10 : Rd enc Tryd.prog w 25 [x10]) (b11 : Rd enc Tryd.prog w 25 [x11]) (b12 : Rd enc Tryd.prog w 26 [x12]) (b13 : Rd enc Tryd.prog w 26 [x13]) (b14 : Rd enc Tryd.prog w 26 [x14]) (b15 : Rd enc Tryd.prog w 26 [x15]) (b16 : Rd enc Tryd.prog w 27 [x16]) (b17 : Rd enc Tryd.prog w 28 [x17]) (b18 : Rd enc Tryd.prog w 29 [x18]) (b19 : Rd enc Tryd.prog w 30 [x19]) (b20 : Rd enc Tryd.prog w 31 [x20]) : Calls Tryd.prog 11 #[.agg #[.int .u8 x0, .int .u8 x1, .int .u8 x2, .int .u8 x3, .int .u8 x4, .int .u8 x5, .int .u8 x6, .int .u8 x7, .int .u32 x8, x9, x10, x11, x12, x13, x14, x15, x16, x17, x18, x19, x20]] w (LawEnd w) := by
  obtain ⟨f, hI, e⟩ := Rd.file b0 b1 b2 b3 b4 b5 b6 b7 b8 b9 b10 b11 b12 b13 b14 b15 b16 b17 b18 b19 b20
  rw [← e]
  exact fnFilePlaces_walk f w hI
end Go.Proofs.YtimdaolbdgafcaaDoor
