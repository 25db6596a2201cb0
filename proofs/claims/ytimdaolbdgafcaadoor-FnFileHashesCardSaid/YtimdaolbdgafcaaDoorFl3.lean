/- Laws on an object file: flags and names of references, hashes. (printed by gen_fl3.py) -/
import Derived.Test.YtimdaolbdgafcaaDoorSmall
import Derived.Test.YtimdaolbdgafcaaDoorBuild
import Derived.Test.YtimdaolbdgafcaaDoorImplB
import Derived.Test.YtimdaolbdgafcaaDoorPws
namespace Go.Proofs.YtimdaolbdgafcaaDoor
open Go.RowKit

theorem Dat.drew {f : FM} {d o n c : Nat} {w : World} (D : Dat f d o n c w) : Dat f d o n c w.drew := D.drewN 1
set_option maxRecDepth 100000 in
set_option maxHeartbeats 1000000 in
theorem fnFileRefs_walk (f : FM) (w : World) (hI : f.In w) : Calls Tryd.prog 15 #[f.val] w (LawEnd w) := by
  obtain ⟨p0, p1, p2, p3, p4, p5, p6, p7, a0, a1, a2, a3, a4, a5, a6, a7, a8, a9, a10, a11, efp, hA, e⟩ := FM.val_eq hI.fp.1
  have HE := Lib.hid e
  have EFP := Lib.hid efp
  rw [e]
  clear e efp
  have HI := Lib.hid hI
  have HA := Lib.hid hA
  obtain ⟨w0, hw0⟩ : ∃ w0, w0 = w.alloc (.cells (fileArr p0 p1 p2 p3 p4 p5 p6 p7 a0 a1 a2 a3 a4 a5 a6 a7 a8 a9 a10 a11 f) 33) := ⟨_, rfl⟩
  have BX0 := Lib.hid (show Blk w0 w.heap.size 33 (fileArr p0 p1 p2 p3 p4 p5 p6 p7 a0 a1 a2 a3 a4 a5 a6 a7 a8 a9 a10 a11 f) from by rw [hw0]; exact Blk.new _ _ _)
  have B0 := Lib.hid (show Below w.heap.size w w0 from by rw [hw0]; exact later_alloc _ _)
  have HW := Lib.hid hw0
  have Z6 := Lib.hid (show Calls Tryd.prog 17 #[.agg (fileArr p0 p1 p2 p3 p4 p5 p6 p7 a0 a1 a2 a3 a4 a5 a6 a7 a8 a9 a10 a11 f)] w0 (RetIf (∀ L ∈ f.lists, L.l.length ≤ 2147483647) w0) from by have h := zz6_any f w0 (HI.out.here B0.out); rw [HE.out] at h; exact h)
  have SMA := Lib.hid (fun (W : World) (hb : Below w.heap.size w W) (hL : ∀ L ∈ f.lists, L.l.length ≤ 2147483647) => show Calls Tryd.prog 18 #[.agg (fileArr p0 p1 p2 p3 p4 p5 p6 p7 a0 a1 a2 a3 a4 a5 a6 a7 a8 a9 a10 a11 f)] W (RetIf f.Small W) from by have h := small_any f W (HI.out.here hb) hL; rw [HE.out] at h; exact h)
  have BFA := Lib.hid (fun (W : World) (hb : Below w.heap.size w W) (S : f.Small) => show Calls Tryd.prog 19 #[.agg (fileArr p0 p1 p2 p3 p4 p5 p6 p7 a0 a1 a2 a3 a4 a5 a6 a7 a8 a9 a10 a11 f)] W (RetB f.bytes W) from by have h := buildFile_any f W (HI.out.here hb) S; rw [HE.out] at h; exact h)
  clear hI hA hw0
  go_enter Tryd.func15, Tryd.ntmps15
  go_upto_region 1 with fail
  rw [← HW.out]
  go_wp2_with (refine wpList_load_row rfl 33 (.tmp 1) rfl w.heap.size rfl 33 _ (0, 0) _ BX0.out Tryd.underlying33 rfl Tryd.fileInfo ?_)
  refine Z6.out.mono ?_
  rintro e w1 ⟨b1, rfl, hp1, hb1⟩
  have BX1 := Lib.hid (BX0.out.here hb1)
  have B1 := Lib.hid (below_from B0.out hb1)
  clear hb1
  rcases b1 with _ | _
  · go_wp2_with fail
    go_returns
    exact ⟨rfl, B1.out⟩
  have FL := Lib.hid (hp1 rfl)
  clear hp1 BX0 B0 Z6 HW
  go_wp2_with (refine wpList_load_row rfl 33 (.tmp 1) rfl w.heap.size rfl 33 _ (0, 0) _ BX1.out Tryd.underlying33 rfl Tryd.fileInfo ?_)
  refine (SMA.out w1 B1.out FL.out).mono ?_
  rintro e w2 ⟨b2, rfl, hp2, hb2⟩
  have BX2 := Lib.hid (BX1.out.here hb2)
  have B2 := Lib.hid (below_from B1.out hb2)
  clear hb2
  rcases b2 with _ | _
  · go_wp2_with fail
    go_returns
    exact ⟨rfl, B2.out⟩
  have SM := Lib.hid (hp2 rfl)
  clear hp2 BX1 B1 SMA
  go_wp2_with (refine wpList_load_row rfl 33 (.tmp 1) rfl w.heap.size rfl 33 _ (0, 0) _ BX2.out Tryd.underlying33 rfl Tryd.fileInfo ?_)
  refine (BFA.out w2 B2.out SM.out).mono ?_
  rintro e w3 ⟨A3, c3, rfl, s3, k3, hb3⟩
  have len0 := FM.bytes_len SM.out
  have len1 := f.at_mono 0 18 (by omega)
  obtain ⟨d, o, rfl, at3⟩ := s3.at_ (by omega)
  have BX3 := Lib.hid (BX2.out.here hb3)
  have B3 := Lib.hid (below_from B2.out hb3)
  obtain ⟨n, hn⟩ : ∃ n, n = f.bytes.length := ⟨_, rfl⟩
  rw [← hn] at k3 len0 ⊢
  have D3 := Lib.hid (show Dat f d o n c3 w3 from ⟨hn, SM.out, HI.out.flags, k3, at3, at3.lt (by rw [← hn]; omega)⟩)
  have n0 : (96 : Int) ≤ n := by omega
  have n1 : (n : Int) ≤ 110000 := by omega
  have n2 : (n : Int) ≤ c3 := by omega
  clear len0 len1 hn s3 k3 at3 hb3 BX2 B2
  have ccb := BX3.out.cell 17
  go_wp2_with fail
  have hn60 : f.rf.l.length ≤ 60 := by have := SM.out.rf; omega
  have z3 := B3.out.size
  go_loopw [4, 5, 19] (fun _ _ i wr => ∃ k : Nat, k ≤ f.rf.l.length ∧ i = .int .i64 k ∧ Below w3.heap.size w3 wr) (fun _ _ i _ => f.rf.l.length - (intOf i).toNat)
  case atStart => exact ⟨0, by omega, rfl, Below.refl _ _⟩
  case round =>
    obtain ⟨k, hk, rfl, hb⟩ := hrel
    have HB := Lib.hid hb
    have zb := hb.size
    by_cases hlt : k < f.rf.l.length
    · obtain ⟨bb, oo, hA', hc⟩ := SlR.at_ ((HI.out.rf.here B3.out).here hb) k hlt
      obtain rfl : a8 = some ⟨bb, oo, none⟩ := HA.out.rf.symm.trans hA'
      have CON := Lib.hid (fun (W : World) (hD : Dat f d o n c3 W) => fileRefFlags_any hD HI.out.rfk k hlt)
      have q0 := hc 0 _ rfl
      have q1 := hc 1 _ rfl
      have q2 := hc 2 _ rfl
      have q3 := hc 3 _ rfl
      rw [Nat.add_zero] at q0
      generalize f.rf.l[k] = x at *
      obtain ⟨w5, hw5⟩ : ∃ w5, w5 = wr.alloc (.cells #[.int .u32 x.pkg, .int .u32 x.sym, .int .u8 x.flag, .int .u8 x.flag2] 80) := ⟨_, rfl⟩
      have HW5 := Lib.hid hw5
      have BK := Lib.hid (show Blk w5 wr.heap.size 80 #[.int .u32 x.pkg, .int .u32 x.sym, .int .u8 x.flag, .int .u8 x.flag2] from by rw [hw5]; exact Blk.new _ _ _)
      have B5 := Lib.hid (show Below w3.heap.size w3 w5 from by rw [hw5]; exact HB.out.alloc zb _)
      have D5 := Lib.hid (D3.out.here B5.out)
      have i3 : (k : Int) < 60 := by omega
      have i4 : (0 : Int) ≤ (k : Int) := by omega
      clear hb hc hw5
      go_wp2_with fail
      rw [← HW5.out]
      refine region_pw (by kernel_rfl) [.is (fun v => v = .slice (some ⟨d, o, none⟩) n c3), .is (fun v => v = .int .i64 k), .is (fun v => v = .agg #[.int .u32 x.pkg, .int .u32 x.sym, .int .u8 x.flag, .int .u8 x.flag2]), .is (fun v => v = .agg #[.int .u32 x.pkg, .int .u32 x.sym, .int .u8 x.flag, .int .u8 x.flag2]), .is (fun v => v = .bool false)] [24, 25, 26, 27, 28] (by kernel_rfl) ?_ ?_
      · refine Steps.cons ?_ (Steps.cons ?_ (Steps.cons ?_ (Steps.cons ?_ (Steps.cons ?_ (Steps.nil)))))
        all_goals (intro f_ W hW hd K hK; rw [if_pos (by rfl)]; simp only [over, List.foldl_cons, List.foldl_nil, List.setIfInBounds_toArray, List.set_cons_zero, List.set_cons_succ, Act.put] at hK ⊢; simp only [Deps, List.filter, Region.binds, pws, Pw.is, List.getD_cons_zero, List.getD_cons_succ, List.getElem?_cons_zero, List.getElem?_cons_succ, Option.getD_some] at hd)
        · clear hd
          go_simp
          exact hK _ _ rfl (later_refl _)
        · clear hd
          go_simp
          exact hK _ _ rfl (later_refl _)
        · have h0 := hd.1
          have h1 := hd.2.1
          clear hd
          rw [h0, h1] at hK ⊢
          go_simp
          go_at_call 37
          refine (CON.out W (D5.out.drew.here hW)).mono ?_
          rintro e_ w6 ⟨rfl, h3⟩
          exact hK _ _ rfl h3
        · clear hd
          have hcc := (BK.out.drew.here hW).cell
          go_simp
          exact hK _ _ rfl (later_refl _)
        · have h0 := hd.1
          have h1 := hd.2.1
          clear hd
          rw [h0, h1] at hK ⊢
          go_simp
          exact hK _ _ rfl (later_refl _)
      · intro f_ W hW hd
        have hf : f_ 28 = .bool false := hd 4 (by decide)
        clear hd
        have H7 := Lib.hid hW
        simp only [over, List.foldl_cons, List.foldl_nil, List.setIfInBounds_toArray, List.set_cons_zero, List.set_cons_succ, hf]
        clear hf hW
        go_wp2_with fail
        go_roundw
        case rel => exact ⟨k + 1, by omega, by go_num, B5.out.drew.trans (H7.out.mono (show w3.heap.size ≤ w5.drew.heap.size from B5.out.size))⟩
        case measure => simp [intOf]; omega
    · obtain rfl : k = f.rf.l.length := by omega
      obtain ⟨w4, hw4⟩ : ∃ w4 : World, w4 = wr := ⟨_, rfl⟩
      have BX4 := Lib.hid (show Blk w4 w.heap.size 33 (fileArr p0 p1 p2 p3 p4 p5 p6 p7 a0 a1 a2 a3 a4 a5 a6 a7 a8 a9 a10 a11 f) from by rw [hw4]; exact BX3.out.here hb)
      have B4 := Lib.hid (show Below w.heap.size w w4 from by rw [hw4]; exact B3.out.trans (hb.mono z3))
      have D4 := Lib.hid (show Dat f d o n c3 w4 from by rw [hw4]; exact D3.out.here hb)
      rw [← hw4]
      clear hw4 hb HB hk hlt zb hn60 ccb
      have ccc := BX4.out.cell 20
      go_wp2_with fail
      have hn60 : f.rn.l.length ≤ 60 := by have := SM.out.rn; omega
      have z4 := B4.out.size
      go_loopw [6, 7, 33] (fun _ _ i wr => ∃ k : Nat, k ≤ f.rn.l.length ∧ i = .int .i64 k ∧ Below w4.heap.size w4 wr) (fun _ _ i _ => f.rn.l.length - (intOf i).toNat)
      case atStart => exact ⟨0, by omega, rfl, Below.refl _ _⟩
      case round =>
        obtain ⟨k, hk, rfl, hb⟩ := hrel
        have HB := Lib.hid hb
        have zb := hb.size
        by_cases hlt : k < f.rn.l.length
        · obtain ⟨bb, oo, hA', hc⟩ := SlR.at_ ((HI.out.rn.here B4.out).here hb) k hlt
          obtain rfl : a11 = some ⟨bb, oo, none⟩ := HA.out.rn.symm.trans hA'
          have CON := Lib.hid (fun (W : World) (hD : Dat f d o n c3 W) => fileRefName_any hD HI.out.rnk k hlt)
          have q0 := hc 0 _ rfl
          have q1 := hc 1 _ rfl
          have q2 := hc 2 _ rfl
          rw [Nat.add_zero] at q0
          generalize f.rn.l[k] = x at *
          obtain ⟨w5, hw5⟩ : ∃ w5, w5 = wr.alloc (.cells #[.int .u32 x.pkg, .int .u32 x.sym, .string x.name] 83) := ⟨_, rfl⟩
          have HW5 := Lib.hid hw5
          have BK := Lib.hid (show Blk w5 wr.heap.size 83 #[.int .u32 x.pkg, .int .u32 x.sym, .string x.name] from by rw [hw5]; exact Blk.new _ _ _)
          have B5 := Lib.hid (show Below w4.heap.size w4 w5 from by rw [hw5]; exact HB.out.alloc zb _)
          have D5 := Lib.hid (D4.out.here B5.out)
          have i3 : (k : Int) < 60 := by omega
          have i4 : (0 : Int) ≤ (k : Int) := by omega
          clear hb hc hw5
          go_wp2_with fail
          rw [← HW5.out]
          refine region_pw (by kernel_rfl) [.is (fun v => v = .slice (some ⟨d, o, none⟩) n c3), .is (fun v => v = .int .i64 k), .is (fun v => v = .agg #[.int .u32 x.pkg, .int .u32 x.sym, .string x.name]), .is (fun v => v = .agg #[.int .u32 x.pkg, .int .u32 x.sym, .string x.name]), .is (fun v => v = .bool false)] [38, 39, 40, 41, 42] (by kernel_rfl) ?_ ?_
          · refine Steps.cons ?_ (Steps.cons ?_ (Steps.cons ?_ (Steps.cons ?_ (Steps.cons ?_ (Steps.nil)))))
            all_goals (intro f_ W hW hd K hK; rw [if_pos (by rfl)]; simp only [over, List.foldl_cons, List.foldl_nil, List.setIfInBounds_toArray, List.set_cons_zero, List.set_cons_succ, Act.put] at hK ⊢; simp only [Deps, List.filter, Region.binds, pws, Pw.is, List.getD_cons_zero, List.getD_cons_succ, List.getElem?_cons_zero, List.getElem?_cons_succ, Option.getD_some] at hd)
            · clear hd
              go_simp
              exact hK _ _ rfl (later_refl _)
            · clear hd
              go_simp
              exact hK _ _ rfl (later_refl _)
            · have h0 := hd.1
              have h1 := hd.2.1
              clear hd
              rw [h0, h1] at hK ⊢
              go_simp
              go_at_call 38
              refine (CON.out W (D5.out.drew.here hW)).mono ?_
              rintro e_ w6 ⟨rfl, h3⟩
              exact hK _ _ rfl h3
            · clear hd
              have hcc := (BK.out.drew.here hW).cell
              go_simp
              exact hK _ _ rfl (later_refl _)
            · have h0 := hd.1
              have h1 := hd.2.1
              clear hd
              rw [h0, h1] at hK ⊢
              go_simp
              exact hK _ _ rfl (later_refl _)
          · intro f_ W hW hd
            have hf : f_ 42 = .bool false := hd 4 (by decide)
            clear hd
            have H7 := Lib.hid hW
            simp only [over, List.foldl_cons, List.foldl_nil, List.setIfInBounds_toArray, List.set_cons_zero, List.set_cons_succ, hf]
            clear hf hW
            go_wp2_with fail
            go_roundw
            case rel => exact ⟨k + 1, by omega, by go_num, B5.out.drew.trans (H7.out.mono (show w4.heap.size ≤ w5.drew.heap.size from B5.out.size))⟩
            case measure => simp [intOf]; omega
        · obtain rfl : k = f.rn.l.length := by omega
          go_wp2_with fail
          go_returns
          exact ⟨by simp; omega, B4.out.trans (HB.out.mono B4.out.size)⟩
theorem fnFileRefs_any {H : Type} {enc : TypeId × Value → H} (x0 x1 x2 x3 x4 x5 x6 x7 x8 : Int) (x9 x10 x11 x12 x13 x14 x15 x16 x17 x18 x19 x20 : Value) (w : World) (b0 : 0 ≤ x0 ∧ x0 < 256) (b1 : 0 ≤ x1 ∧ x1 < 256) (b2 : 0 ≤ x2 ∧ x2 < 256) (b3 : 0 ≤ x3 ∧ x3 < 256) (b4 : 0 ≤ x4 ∧ x4 < 256) (b5 : 0 ≤ x5 ∧ x5 < 256) (b6 : 0 ≤ x6 ∧ x6 < 256) (b7 : 0 ≤ x7 ∧ x7 < 256) (b8 : 0 ≤ x8 ∧ x8 < 4294967296) (b9 : Rd enc Tryd.prog w 24 [x9]) (b10 : Rd enc Tryd.prog w 25 [x10]) (b11 : Rd enc Tryd.prog w 25 [x11]) (b12 : Rd enc Tryd.prog w 26 [x12]) (b13 : Rd enc Tryd.prog w 26 [x13]) (b14 : Rd enc Tryd.prog w 26 [x14]) (b15 : Rd enc Tryd.prog w 26 [x15]) (b16 : Rd enc Tryd.prog w 27 [x16]) (b17 : Rd enc Tryd.prog w 28 [x17]) (b18 : Rd enc Tryd.prog w 29 [x18]) (b19 : Rd enc Tryd.prog w 30 [x19]) (b20 : Rd enc Tryd.prog w 31 [x20]) : Calls Tryd.prog 15 #[.agg #[.int .u8 x0, .int .u8 x1, .int .u8 x2, .int .u8 x3, .int .u8 x4, .int .u8 x5, .int .u8 x6, .int .u8 x7, .int .u32 x8, x9, x10, x11, x12, x13, x14, x15, x16, x17, x18, x19, x20]] w (LawEnd w) := by
  obtain ⟨f, hI, e⟩ := Rd.file b0 b1 b2 b3 b4 b5 b6 b7 b8 b9 b10 b11 b12 b13 b14 b15 b16 b17 b18 b19 b20
  rw [← e]
  exact fnFileRefs_walk f w hI
theorem run_neq_hash (x : List Int) (hx : x.length = 16) (W : World) : (binOp .neq 60 (.agg (hashCells x).toArray) (.agg (hashCells x).toArray)).run Tryd.prog W = .ok (.bool false) W := by
  have hi : (Tryd.prog.info? 5).isSome = true := by kernel_rfl
  obtain ⟨i, hi⟩ := Option.isSome_iff_exists.1 hi
  rw [run_neq_struct, run_equalIn_array W 9999 _ _ Tryd.underlying60 hi, eqItems_ints W 9998 Tryd.underlying5 (by kernel_rfl) x x _ (fun j hj => by rw [List.mem_range] at hj; omega), all_range_eq x x 16 hx hx]
  simp [Result.andThen]
set_option maxRecDepth 100000 in
set_option maxHeartbeats 1000000 in
theorem fnFileHashes_walk (f : FM) (w : World) (hI : f.In w) : Calls Tryd.prog 9 #[f.val] w (LawEnd w) := by
  obtain ⟨p0, p1, p2, p3, p4, p5, p6, p7, a0, a1, a2, a3, a4, a5, a6, a7, a8, a9, a10, a11, efp, hA, e⟩ := FM.val_eq hI.fp.1
  have HE := Lib.hid e
  have EFP := Lib.hid efp
  rw [e]
  clear e efp
  have HI := Lib.hid hI
  have HA := Lib.hid hA
  obtain ⟨w0, hw0⟩ : ∃ w0, w0 = w.alloc (.cells (fileArr p0 p1 p2 p3 p4 p5 p6 p7 a0 a1 a2 a3 a4 a5 a6 a7 a8 a9 a10 a11 f) 33) := ⟨_, rfl⟩
  have BX0 := Lib.hid (show Blk w0 w.heap.size 33 (fileArr p0 p1 p2 p3 p4 p5 p6 p7 a0 a1 a2 a3 a4 a5 a6 a7 a8 a9 a10 a11 f) from by rw [hw0]; exact Blk.new _ _ _)
  have B0 := Lib.hid (show Below w.heap.size w w0 from by rw [hw0]; exact later_alloc _ _)
  have HW := Lib.hid hw0
  have Z6 := Lib.hid (show Calls Tryd.prog 17 #[.agg (fileArr p0 p1 p2 p3 p4 p5 p6 p7 a0 a1 a2 a3 a4 a5 a6 a7 a8 a9 a10 a11 f)] w0 (RetIf (∀ L ∈ f.lists, L.l.length ≤ 2147483647) w0) from by have h := zz6_any f w0 (HI.out.here B0.out); rw [HE.out] at h; exact h)
  have SMA := Lib.hid (fun (W : World) (hb : Below w.heap.size w W) (hL : ∀ L ∈ f.lists, L.l.length ≤ 2147483647) => show Calls Tryd.prog 18 #[.agg (fileArr p0 p1 p2 p3 p4 p5 p6 p7 a0 a1 a2 a3 a4 a5 a6 a7 a8 a9 a10 a11 f)] W (RetIf f.Small W) from by have h := small_any f W (HI.out.here hb) hL; rw [HE.out] at h; exact h)
  have BFA := Lib.hid (fun (W : World) (hb : Below w.heap.size w W) (S : f.Small) => show Calls Tryd.prog 19 #[.agg (fileArr p0 p1 p2 p3 p4 p5 p6 p7 a0 a1 a2 a3 a4 a5 a6 a7 a8 a9 a10 a11 f)] W (RetB f.bytes W) from by have h := buildFile_any f W (HI.out.here hb) S; rw [HE.out] at h; exact h)
  clear hI hA hw0
  go_enter Tryd.func9, Tryd.ntmps9
  go_upto_region 1 with fail
  rw [← HW.out]
  go_wp2_with (refine wpList_load_row rfl 33 (.tmp 1) rfl w.heap.size rfl 33 _ (0, 0) _ BX0.out Tryd.underlying33 rfl Tryd.fileInfo ?_)
  refine Z6.out.mono ?_
  rintro e w1 ⟨b1, rfl, hp1, hb1⟩
  have BX1 := Lib.hid (BX0.out.here hb1)
  have B1 := Lib.hid (below_from B0.out hb1)
  clear hb1
  rcases b1 with _ | _
  · go_wp2_with fail
    go_returns
    exact ⟨rfl, B1.out⟩
  have FL := Lib.hid (hp1 rfl)
  clear hp1 BX0 B0 Z6 HW
  go_wp2_with (refine wpList_load_row rfl 33 (.tmp 1) rfl w.heap.size rfl 33 _ (0, 0) _ BX1.out Tryd.underlying33 rfl Tryd.fileInfo ?_)
  refine (SMA.out w1 B1.out FL.out).mono ?_
  rintro e w2 ⟨b2, rfl, hp2, hb2⟩
  have BX2 := Lib.hid (BX1.out.here hb2)
  have B2 := Lib.hid (below_from B1.out hb2)
  clear hb2
  rcases b2 with _ | _
  · go_wp2_with fail
    go_returns
    exact ⟨rfl, B2.out⟩
  have SM := Lib.hid (hp2 rfl)
  clear hp2 BX1 B1 SMA
  go_wp2_with (refine wpList_load_row rfl 33 (.tmp 1) rfl w.heap.size rfl 33 _ (0, 0) _ BX2.out Tryd.underlying33 rfl Tryd.fileInfo ?_)
  refine (BFA.out w2 B2.out SM.out).mono ?_
  rintro e w3 ⟨A3, c3, rfl, s3, k3, hb3⟩
  have len0 := FM.bytes_len SM.out
  have len1 := f.at_mono 0 18 (by omega)
  obtain ⟨d, o, rfl, at3⟩ := s3.at_ (by omega)
  have BX3 := Lib.hid (BX2.out.here hb3)
  have B3 := Lib.hid (below_from B2.out hb3)
  obtain ⟨n, hn⟩ : ∃ n, n = f.bytes.length := ⟨_, rfl⟩
  rw [← hn] at k3 len0 ⊢
  have D3 := Lib.hid (show Dat f d o n c3 w3 from ⟨hn, SM.out, HI.out.flags, k3, at3, at3.lt (by rw [← hn]; omega)⟩)
  have n0 : (96 : Int) ≤ n := by omega
  have n1 : (n : Int) ≤ 110000 := by omega
  have n2 : (n : Int) ≤ c3 := by omega
  clear len0 len1 hn s3 k3 at3 hb3 BX2 B2
  have ccb := BX3.out.cell 18
  go_wp2_with fail
  have hn60 : f.h64.l.length ≤ 60 := by have := SM.out.h64; have := SM.out.short_le; omega
  have z3 := B3.out.size
  go_loopw [4, 5, 19] (fun _ _ i wr => ∃ k : Nat, k ≤ f.h64.l.length ∧ i = .int .i64 k ∧ Below w3.heap.size w3 wr) (fun _ _ i _ => f.h64.l.length - (intOf i).toNat)
  case atStart => exact ⟨0, by omega, rfl, Below.refl _ _⟩
  case round =>
    obtain ⟨k, hk, rfl, hb⟩ := hrel
    have HB := Lib.hid hb
    have zb := hb.size
    by_cases hlt : k < f.h64.l.length
    · obtain ⟨bb, oo, hA', hc⟩ := SlR.at_ ((HI.out.h64.here B3.out).here hb) k hlt
      obtain rfl : a9 = some ⟨bb, oo, none⟩ := HA.out.h64.symm.trans hA'
      have CON := Lib.hid (fileHash64_any (D3.out.here hb) HI.out.h64k k hlt)
      have q0 := hc 0 _ rfl
      rw [Nat.add_zero, Nat.mul_one] at q0
      generalize f.h64.l[k] = x at *
      have i3 : (k : Int) < 60 := by omega
      have i4 : (0 : Int) ≤ (k : Int) := by omega
      clear hb hc
      go_wp2_with fail
      refine CON.out.mono ?_
      rintro e w5 ⟨rfl, hb5⟩
      have H5 := Lib.hid hb5
      clear hb5 q0
      go_wp2_with fail
      go_roundw
      case rel => exact ⟨k + 1, by omega, by go_num, HB.out.trans (H5.out.mono HB.out.size)⟩
      case measure => simp [intOf]; omega
    · obtain rfl : k = f.h64.l.length := by omega
      obtain ⟨w4, hw4⟩ : ∃ w4 : World, w4 = wr := ⟨_, rfl⟩
      have BX4 := Lib.hid (show Blk w4 w.heap.size 33 (fileArr p0 p1 p2 p3 p4 p5 p6 p7 a0 a1 a2 a3 a4 a5 a6 a7 a8 a9 a10 a11 f) from by rw [hw4]; exact BX3.out.here hb)
      have B4 := Lib.hid (show Below w.heap.size w w4 from by rw [hw4]; exact B3.out.trans (hb.mono z3))
      have D4 := Lib.hid (show Dat f d o n c3 w4 from by rw [hw4]; exact D3.out.here hb)
      rw [← hw4]
      clear hw4 hb HB hk hlt zb hn60 ccb
      have ccc := BX4.out.cell 19
      go_wp2_with fail
      have hn60 : f.hs.l.length ≤ 60 := by have := SM.out.hs; have := SM.out.hashed_le; omega
      have z4 := B4.out.size
      go_loopw [6, 7, 34] (fun _ _ i wr => ∃ k : Nat, k ≤ f.hs.l.length ∧ i = .int .i64 k ∧ Below w4.heap.size w4 wr) (fun _ _ i _ => f.hs.l.length - (intOf i).toNat)
      case atStart => exact ⟨0, by omega, rfl, Below.refl _ _⟩
      case round =>
        obtain ⟨k, hk, rfl, hb⟩ := hrel
        have HB := Lib.hid hb
        have zb := hb.size
        by_cases hlt : k < f.hs.l.length
        · obtain ⟨bb, oo, hA', hc⟩ := SlR.at_ ((HI.out.hs.here B4.out).here hb) k hlt
          obtain rfl : a10 = some ⟨bb, oo, none⟩ := HA.out.hs.symm.trans hA'
          have CON := Lib.hid (fun (W : World) (hD : Dat f d o n c3 W) => fileHash_any hD k hlt)
          have hx16 := SM.out.hsf _ (List.getElem_mem hlt)
          have HC := Lib.hid (show ∀ j v, (hashCells f.hs.l[k])[j]? = some v → wr.cell? ⟨bb, oo + k * 16 + j, none⟩ = some v from hc)
          generalize f.hs.l[k] = x at *
          have HX := Lib.hid hx16
          have XS := Lib.hid (show (hashCells x).toArray.size = 16 from by rw [List.size_toArray, hashCells, List.length_map, HX.out])
          have I16x := Lib.hid (show (Tryd.prog.info? 60).map (·.size) = some (hashCells x).toArray.size from by rw [XS.out]; kernel_rfl)
          have I16y := Lib.hid (show (Tryd.prog.info? 60).map (·.size) = some (hashCells x).length from by rw [hashCells, List.length_map, HX.out]; kernel_rfl)
          have HOLD := Lib.hid (show (#[.int .u8 0, .int .u8 0, .int .u8 0, .int .u8 0, .int .u8 0, .int .u8 0, .int .u8 0, .int .u8 0, .int .u8 0, .int .u8 0, .int .u8 0, .int .u8 0, .int .u8 0, .int .u8 0, .int .u8 0, .int .u8 0] : Array Value).size = (hashCells x).toArray.size from by rw [XS.out]; rfl)
          have ONE := Lib.hid (show (hashCells x).toArray.all (·.oneCell') = true from by
            rw [Array.all_eq_true_iff_forall_mem]
            intro v hv
            obtain ⟨z, _, rfl⟩ := List.mem_map.1 (List.mem_toArray.1 hv)
            rfl)
          have NEQ := Lib.hid (run_neq_hash x HX.out)
          obtain ⟨w5, hw5⟩ : ∃ w5, w5 = wr.alloc (.cells #[.int .u8 0, .int .u8 0, .int .u8 0, .int .u8 0, .int .u8 0, .int .u8 0, .int .u8 0, .int .u8 0, .int .u8 0, .int .u8 0, .int .u8 0, .int .u8 0, .int .u8 0, .int .u8 0, .int .u8 0, .int .u8 0] 60) := ⟨_, rfl⟩
          have HW5 := Lib.hid hw5
          have BZ := Lib.hid (show Blk w5 wr.heap.size 60 #[.int .u8 0, .int .u8 0, .int .u8 0, .int .u8 0, .int .u8 0, .int .u8 0, .int .u8 0, .int .u8 0, .int .u8 0, .int .u8 0, .int .u8 0, .int .u8 0, .int .u8 0, .int .u8 0, .int .u8 0, .int .u8 0] from by rw [hw5]; exact Blk.new _ _ _)
          obtain ⟨w6, hw6⟩ : ∃ w6, w6 = w5.setRow wr.heap.size (hashCells x).toArray := ⟨_, rfl⟩
          have HW6 := Lib.hid hw6
          have BK := Lib.hid (show Blk w6 wr.heap.size 60 (hashCells x).toArray from by rw [hw6]; exact BZ.out.setRow _)
          have FR := Lib.hid (show Fr [wr.heap.size] w5 w6 from by rw [hw6]; exact (Fr.refl _ _).setRow (by simp) _)
          have B5 := Lib.hid (show Below w4.heap.size w4 w6 from by
            have h1 : Below w4.heap.size w4 w5 := by rw [hw5]; exact HB.out.alloc zb _
            exact h1.trans ⟨FR.out.os, FR.out.tape, FR.out.output, FR.out.size, fun k hk => FR.out.block k (by have := h1.size; omega) (by simp; omega)⟩)
          have D5 := Lib.hid (D4.out.here B5.out)
          have i3 : (k : Int) < 60 := by omega
          have i4 : (0 : Int) ≤ (k : Int) := by omega
          have wk : IntKind.u32.wrap (k : Int) = (k : Int) := by rw [IntKind.wrap_u32]; omega
          have WK := Lib.hid wk
          clear hb hc hw5 hw6 hx16 wk FR
          go_upto_region 15 with (first | (refine wpList_load_part rfl 60 (.tmp 37) rfl bb (oo + k * 16) rfl (hashCells x) _ HC.out Tryd.underlying60 rfl I16y.out ?_) | (refine Go.Great.wpList_allocTo rfl (some 7) (by rfl) (.pointer (some ⟨wr.heap.size, 0, none⟩)) (.cells #[.int .u8 0, .int .u8 0, .int .u8 0, .int .u8 0, .int .u8 0, .int .u8 0, .int .u8 0, .int .u8 0, .int .u8 0, .int .u8 0, .int .u8 0, .int .u8 0, .int .u8 0, .int .u8 0, .int .u8 0, .int .u8 0] 60) (by as_aux_lemma => kernel_rfl) ?_; rw [← HW5.out]) | (refine wpList_store_row rfl 60 (.tmp 7) (.tmp 38) rfl wr.heap.size (hashCells x).toArray (by rfl) (by rfl) 60 #[.int .u8 0, .int .u8 0, .int .u8 0, .int .u8 0, .int .u8 0, .int .u8 0, .int .u8 0, .int .u8 0, .int .u8 0, .int .u8 0, .int .u8 0, .int .u8 0, .int .u8 0, .int .u8 0, .int .u8 0, .int .u8 0] BZ.out I16x.out HOLD.out ONE.out ?_; rw [← HW6.out]))
          go_frame
          refine region_pw (by kernel_rfl) [.is (fun v => v = .slice (some ⟨d, o, none⟩) n c3), .is (fun v => v = .int .i64 k), .is (fun v => v = .int .u32 k), .is (fun v => v = .agg (hashCells x).toArray), .is (fun v => v = .agg (hashCells x).toArray), .is (fun v => v = .bool false)] [39, 40, 41, 42, 43, 44] (by kernel_rfl) ?_ ?_
          · refine Steps.cons ?_ (Steps.cons ?_ (Steps.cons ?_ (Steps.cons ?_ (Steps.cons ?_ (Steps.cons ?_ (Steps.nil))))))
            all_goals (intro f_ W hW hd K hK; rw [if_pos (by rfl)]; simp only [over, List.foldl_cons, List.foldl_nil, List.setIfInBounds_toArray, List.set_cons_zero, List.set_cons_succ, Act.put] at hK ⊢; simp only [Deps, List.filter, Region.binds, pws, Pw.is, List.getD_cons_zero, List.getD_cons_succ, List.getElem?_cons_zero, List.getElem?_cons_succ, Option.getD_some] at hd)
            · clear hd
              go_simp
              exact hK _ _ rfl (later_refl _)
            · clear hd
              go_simp
              exact hK _ _ rfl (later_refl _)
            · have h0 := hd.1
              clear hd
              rw [h0] at hK ⊢
              have wk := WK.out
              go_simp
              exact hK _ _ rfl (later_refl _)
            · have h0 := hd.1
              have h1 := hd.2.1
              clear hd
              rw [h0, h1] at hK ⊢
              go_simp
              go_at_call 27
              refine (CON.out W (D5.out.drew.here hW)).mono ?_
              rintro e_ w6 ⟨rfl, h3⟩
              exact hK _ _ rfl h3
            · clear hd
              refine wp_load_row 60 (.tmp 7) rfl wr.heap.size rfl 60 _ (0, 0) _ (BK.out.drew.here hW) Tryd.underlying60 rfl I16x.out ?_
              exact hK _ _ rfl (later_refl _)
            · have h0 := hd.1
              have h1 := hd.2.1
              clear hd
              rw [h0, h1] at hK ⊢
              have hn := NEQ.out
              go_simp
              exact hK _ _ rfl (later_refl _)
          · intro f_ W hW hd
            have hf : f_ 44 = .bool false := hd 5 (by decide)
            clear hd
            have H7 := Lib.hid hW
            simp only [over, List.foldl_cons, List.foldl_nil, List.setIfInBounds_toArray, List.set_cons_zero, List.set_cons_succ, hf]
            clear hf hW
            go_wp2_with fail
            go_roundw
            case rel => exact ⟨k + 1, by omega, by go_num, B5.out.drew.trans (H7.out.mono (show w4.heap.size ≤ w6.drew.heap.size from B5.out.size))⟩
            case measure => simp [intOf]; omega
        · obtain rfl : k = f.hs.l.length := by omega
          go_wp2_with fail
          go_returns
          exact ⟨by simp; omega, B4.out.trans (HB.out.mono B4.out.size)⟩
theorem fnFileHashes_any {H : Type} {enc : TypeId × Value → H} (x0 x1 x2 x3 x4 x5 x6 x7 x8 : Int) (x9 x10 x11 x12 x13 x14 x15 x16 x17 x18 x19 x20 : Value) (w : World) (b0 : 0 ≤ x0 ∧ x0 < 256) (b1 : 0 ≤ x1 ∧ x1 < 256) (b2 : 0 ≤ x2 ∧ x2 < 256) (b3 : 0 ≤ x3 ∧ x3 < 256) (b4 : 0 ≤ x4 ∧ x4 < 256) (b5 : 0 ≤ x5 ∧ x5 < 256) (b6 : 0 ≤ x6 ∧ x6 < 256) (b7 : 0 ≤ x7 ∧ x7 < 256) (b8 : 0 ≤ x8 ∧ x8 < 4294967296) (b9 : Rd enc Tryd.prog w 24 [x9]) (b10 : Rd enc Tryd.prog w 25 [x10]) (b11 : Rd enc Tryd.prog w 25 [x11]) (b12 : Rd enc Tryd.prog w 26 [x12]) (b13 : Rd enc Tryd.prog w 26 [x13]) (b14 : Rd enc Tryd.prog w 26 [x14]) (b15 : Rd enc Tryd.prog w 26 [x15]) (b16 : Rd enc Tryd.prog w 27 [x16]) (b17 : Rd enc Tryd.prog w 28 [x17]) (b18 : Rd enc Tryd.prog w 29 [x18]) (b19 : Rd enc Tryd.prog w 30 [x19]) (b20 : Rd enc Tryd.prog w 31 [x20]) : Calls Tryd.prog 9 #[.agg #[.int .u8 x0, .int .u8 x1, .int .u8 x2, .int .u8 x3, .int .u8 x4, .int .u8 x5, .int .u8 x6, .int .u8 x7, .int .u32 x8, x9, x10, x11, x12, x13, x14, x15, x16, x17, x18, x19, x20]] w (LawEnd w) := by
  obtain ⟨f, hI, e⟩ := Rd.file b0 b1 b2 b3 b4 b5 b6 b7 b8 b9 b10 b11 b12 b13 b14 b15 b16 b17 b18 b19 b20
  rw [← e]
  exact fnFileHashes_walk f w hI
end Go.Proofs.YtimdaolbdgafcaaDoor
