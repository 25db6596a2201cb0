/- Laws on an object file: names of packages and files read again. (printed by gen_fl9.py) -/
import Derived.Test.YtimdaolbdgafcaaDoorSmall
import Derived.Test.YtimdaolbdgafcaaDoorBuild
import Derived.Test.YtimdaolbdgafcaaDoorImplI
import Derived.Test.YtimdaolbdgafcaaDoorPws
namespace Go.Proofs.YtimdaolbdgafcaaDoor
open Go.RowKit

/-- A list of texts. -/
def Pw.strs (xs : List ByteArray) : Pw := ⟨fun v w => ∃ A c, v = .slice A xs.length c ∧ SlR 1 w A (xs.map strCells), fun _ _ _ hb ⟨A, c, h1, h2⟩ => ⟨A, c, h1, h2.here hb⟩⟩
theorem Dat.drew1 {f : FM} {d o n c : Nat} {w : World} (D : Dat f d o n c w) : Dat f d o n c w.drew := D.drewN 1
theorem SlR.drew60 {w w' : World} {A : Option Addr} {css : List (List Value)} (h : SlR 1 w A css) (hb : Below w.drew.heap.size w.drew w') : SlR 1 w' A css := SlR.here (w := w.drew) (show SlR 1 w.drew A css from h) hb
set_option maxRecDepth 100000 in
set_option maxHeartbeats 1000000 in
theorem fnFilePackages_walk (f : FM) (w : World) (hI : f.In w) : Calls Tryd.prog 16 #[f.val] w (LawEnd w) := by
  obtain ⟨p0, p1, p2, p3, p4, p5, p6, p7, a0, a1, a2, a3, a4, a5, a6, a7, a8, a9, a10, a11, efp, hA, e⟩ := FM.val_eq hI.fp.1
  have HE := Lib.hid e
  have EFP := Lib.hid efp
  rw [e]
  clear e efp
  have HI := Lib.hid hI
  have HA := Lib.hid hA
  obtain ⟨w0, hw0⟩ : ∃ w0, w0 = w.alloc (.cells (fileArr p0 p1 p2 p3 p4 p5 p6 p7 a0 a1 a2 a3 a4 a5 a6 a7 a8 a9 a10 a11 f) 33) := ⟨_, rfl⟩
  have BX0 := Lib.hid (show Blk w0 w.heap.size 33 (fileArr p0 p1 p2 p3 p4 p5 p6 p7 a0 a1 a2 a3 a4 a5 a6 a7 a8 a9 a10 a11 f) from by rw [hw0]; exact Blk.new _ _ _)
  have B0 := Lib.hid (show Below w.heap.size w w0 from by rw [hw0]; exact later_alloc _ _)
  have HW := Lib.hid hw0
  have Z6 := Lib.hid (show Calls Tryd.prog 17 #[.agg (fileArr p0 p1 p2 p3 p4 p5 p6 p7 a0 a1 a2 a3 a4 a5 a6 a7 a8 a9 a10 a11 f)] w0 (RetIf (∀ L ∈ f.lists, L.l.length ≤ 2147483647) w0) from by have h := zz6_any f w0 (HI.out.here B0.out); rw [HE.out] at h; exact h)
  have SMA := Lib.hid (fun (W : World) (hb : Below w.heap.size w W) (hL : ∀ L ∈ f.lists, L.l.length ≤ 2147483647) => show Calls Tryd.prog 18 #[.agg (fileArr p0 p1 p2 p3 p4 p5 p6 p7 a0 a1 a2 a3 a4 a5 a6 a7 a8 a9 a10 a11 f)] W (RetIf f.Small W) from by have h := small_any f W (HI.out.here hb) hL; rw [HE.out] at h; exact h)
  have BFA := Lib.hid (fun (W : World) (hb : Below w.heap.size w W) (S : f.Small) => show Calls Tryd.prog 19 #[.agg (fileArr p0 p1 p2 p3 p4 p5 p6 p7 a0 a1 a2 a3 a4 a5 a6 a7 a8 a9 a10 a11 f)] W (RetB f.bytes W) from by have h := buildFile_any f W (HI.out.here hb) S; rw [HE.out] at h; exact h)
  clear hI hA hw0
  go_enter Tryd.func16, Tryd.ntmps16
  go_upto_region 1 with fail
  rw [← HW.out]
  go_wp2_with (refine wpList_load_row rfl 33 (.tmp 1) rfl w.heap.size rfl 33 _ (0, 0) _ BX0.out Tryd.underlying33 rfl Tryd.fileInfo ?_)
  refine Z6.out.mono ?_
  rintro e w1 ⟨b1, rfl, hp1, hb1⟩
  have BX1 := Lib.hid (BX0.out.here hb1)
  have B1 := Lib.hid (below_from B0.out hb1)
  clear hb1
  rcases b1 with _ | _
  · go_wp2_with fail
    go_returns
    exact ⟨rfl, B1.out⟩
  have FL := Lib.hid (hp1 rfl)
  clear hp1 BX0 B0 Z6 HW
  go_wp2_with (refine wpList_load_row rfl 33 (.tmp 1) rfl w.heap.size rfl 33 _ (0, 0) _ BX1.out Tryd.underlying33 rfl Tryd.fileInfo ?_)
  refine (SMA.out w1 B1.out FL.out).mono ?_
  rintro e w2 ⟨b2, rfl, hp2, hb2⟩
  have BX2 := Lib.hid (BX1.out.here hb2)
  have B2 := Lib.hid (below_from B1.out hb2)
  clear hb2
  rcases b2 with _ | _
  · go_wp2_with fail
    go_returns
    exact ⟨rfl, B2.out⟩
  have SM := Lib.hid (hp2 rfl)
  clear hp2 BX1 B1 SMA
  go_wp2_with (refine wpList_load_row rfl 33 (.tmp 1) rfl w.heap.size rfl 33 _ (0, 0) _ BX2.out Tryd.underlying33 rfl Tryd.fileInfo ?_)
  refine (BFA.out w2 B2.out SM.out).mono ?_
  rintro e w3 ⟨A3, c3, rfl, s3, k3, hb3⟩
  have len0 := FM.bytes_len SM.out
  have len1 := f.at_mono 0 18 (by omega)
  obtain ⟨d, o, rfl, at3⟩ := s3.at_ (by omega)
  have BX3 := Lib.hid (BX2.out.here hb3)
  have B3 := Lib.hid (below_from B2.out hb3)
  obtain ⟨n, hn⟩ : ∃ n, n = f.bytes.length := ⟨_, rfl⟩
  rw [← hn] at k3 len0 ⊢
  have D3 := Lib.hid (show Dat f d o n c3 w3 from ⟨hn, SM.out, HI.out.flags, k3, at3, at3.lt (by rw [← hn]; omega)⟩)
  have n0 : (96 : Int) ≤ n := by omega
  have n1 : (n : Int) ≤ 110000 := by omega
  have n2 : (n : Int) ≤ c3 := by omega
  clear len0 len1 hn s3 k3 at3 hb3 BX2 B2
  go_wp2_with fail
  refine (filePackages_any D3.out).mono ?_
  rintro e w4 ⟨A4, c4, A5, c5, rfl, hs4, hs5, hb4⟩
  have S4 := Lib.hid hs4
  have S5 := Lib.hid hs5
  have BX4 := Lib.hid (BX3.out.here hb4)
  have B4 := Lib.hid (below_from B3.out hb4)
  have D4 := Lib.hid (D3.out.here hb4)
  have SPK := Lib.hid (show SlR 1 w4 a1 (f.pk.l.map strCells) from by have h := HI.out.pk.here B4.out; rwa [HA.out.pk] at h)
  have SFI := Lib.hid (show SlR 1 w4 a2 (f.fi.l.map strCells) from by have h := HI.out.fi.here B4.out; rwa [HA.out.fi] at h)
  have LEP := Lib.hid (show f.pk.l.length ≤ 60 from SM.out.pk)
  have LEF := Lib.hid (show f.fi.l.length ≤ 60 from SM.out.fi)
  clear hs4 hs5 hb4 BX3 B3 D3
  go_upto_region 7 with fail
  refine region_pw (by kernel_rfl) [.is (fun v => v = .slice A4 f.pk.l.length c4), .is (fun v => v = .pointer (some ⟨w.heap.size, 10, none⟩)), .is (fun v => v = .slice a1 f.pk.l.length f.pk.c), .is (fun v => v = .bool true), .is (fun v => v = .bool true), .is (fun v => v = .slice A5 f.pk.l.length c5), .is (fun v => v = .pointer (some ⟨w.heap.size, 10, none⟩)), .is (fun v => v = .slice a1 f.pk.l.length f.pk.c), .is (fun v => v = .bool true), .is (fun v => v = .bool true), .is (fun v => v = .bool true), .is (fun v => v = .slice (some ⟨d, o, none⟩) n c3), .strs f.fi.l, .is (fun v => v = .pointer (some ⟨w.heap.size, 11, none⟩)), .is (fun v => v = .slice a2 f.fi.l.length f.fi.c), .is (fun v => v = .bool true), .is (fun v => v = .bool true), .is (fun v => v = .bool true)] [19, 20, 21, 22, 23, 24, 25, 26, 27, 28, 29, 30, 31, 32, 33, 34, 35, 2] (by kernel_rfl) ?_ ?_
  · refine Steps.cons ?_ (Steps.cons ?_ (Steps.cons ?_ (Steps.cons ?_ (Steps.cons ?_ (Steps.cons ?_ (Steps.cons ?_ (Steps.cons ?_ (Steps.cons ?_ (Steps.cons ?_ (Steps.cons ?_ (Steps.cons ?_ (Steps.cons ?_ (Steps.cons ?_ (Steps.cons ?_ (Steps.cons ?_ (Steps.cons ?_ (Steps.cons ?_ (Steps.nil))))))))))))))))))
    all_goals (intro f_ W hW hd K hK; simp only [Deps, List.filter, Region.binds, pws, Pw.is, Pw.strs, List.getD_cons_zero, List.getD_cons_succ, List.getElem?_cons_zero, List.getElem?_cons_succ, Option.getD_some] at hd)
    · rw [if_pos (by rfl)]
      simp only [over, List.foldl_cons, List.foldl_nil, List.setIfInBounds_toArray, List.set_cons_zero, List.set_cons_succ, Act.put] at hK ⊢
      clear hd
      go_simp
      exact hK _ _ rfl (later_refl _)
    · rw [if_pos (by rfl)]
      simp only [over, List.foldl_cons, List.foldl_nil, List.setIfInBounds_toArray, List.set_cons_zero, List.set_cons_succ, Act.put] at hK ⊢
      clear hd
      go_simp
      exact hK _ _ rfl (later_refl _)
    · rw [if_pos (by rfl)]
      simp only [over, List.foldl_cons, List.foldl_nil, List.setIfInBounds_toArray, List.set_cons_zero, List.set_cons_succ, Act.put] at hK ⊢
      have h0 := hd.1
      clear hd
      rw [h0] at hK ⊢
      have hcc := (BX4.out.drew.here hW).cell 10
      go_simp
      exact hK _ _ rfl (later_refl _)
    · rw [if_pos (by rfl)]
      simp only [over, List.foldl_cons, List.foldl_nil, List.setIfInBounds_toArray, List.set_cons_zero, List.set_cons_succ, Act.put] at hK ⊢
      have h0 := hd.1
      have h1 := hd.2.1
      clear hd
      rw [h0, h1] at hK ⊢
      go_simp
      go_at_call 40
      refine (sameTexts_any _ _ _ _ f.pk.l W (S4.out.drew60 hW) (SPK.out.drew60 hW) LEP.out).mono ?_
      rintro e_ w6 ⟨rfl, n6, rfl⟩
      exact hK _ _ rfl (below_drewN (Below.refl _ _) n6)
    · rw [if_pos (by rfl)]
      simp only [over, List.foldl_cons, List.foldl_nil, List.setIfInBounds_toArray, List.set_cons_zero, List.set_cons_succ, Act.put] at hK ⊢
      have h0 := hd.1
      clear hd
      rw [h0] at hK ⊢
      go_simp
      exact hK _ _ rfl (later_refl _)
    · have hg : f_ 23 = .bool true := by first | exact hd.1 | exact hd.2.1 | exact hd.2.2.1 | exact hd.2.2.2.1 | exact hd
      rw [if_pos (by simp [Region.wanted, yielded, over, hg])]
      simp only [over, List.foldl_cons, List.foldl_nil, List.setIfInBounds_toArray, List.set_cons_zero, List.set_cons_succ, Act.put] at hK ⊢
      rw [hg] at hK ⊢
      clear hg
      clear hd
      go_simp
      exact hK _ _ rfl (later_refl _)
    · have hg : f_ 23 = .bool true := by first | exact hd.1 | exact hd.2.1 | exact hd.2.2.1 | exact hd.2.2.2.1 | exact hd
      rw [if_pos (by simp [Region.wanted, yielded, over, hg])]
      simp only [over, List.foldl_cons, List.foldl_nil, List.setIfInBounds_toArray, List.set_cons_zero, List.set_cons_succ, Act.put] at hK ⊢
      rw [hg] at hK ⊢
      clear hg
      clear hd
      go_simp
      exact hK _ _ rfl (later_refl _)
    · have hg : f_ 23 = .bool true := by first | exact hd.1 | exact hd.2.1 | exact hd.2.2.1 | exact hd.2.2.2.1 | exact hd
      rw [if_pos (by simp [Region.wanted, yielded, over, hg])]
      simp only [over, List.foldl_cons, List.foldl_nil, List.setIfInBounds_toArray, List.set_cons_zero, List.set_cons_succ, Act.put] at hK ⊢
      rw [hg] at hK ⊢
      clear hg
      have h0 := hd.1
      clear hd
      rw [h0] at hK ⊢
      have hcc := (BX4.out.drew.here hW).cell 10
      go_simp
      exact hK _ _ rfl (later_refl _)
    · have hg : f_ 23 = .bool true := by first | exact hd.1 | exact hd.2.1 | exact hd.2.2.1 | exact hd.2.2.2.1 | exact hd
      rw [if_pos (by simp [Region.wanted, yielded, over, hg])]
      simp only [over, List.foldl_cons, List.foldl_nil, List.setIfInBounds_toArray, List.set_cons_zero, List.set_cons_succ, Act.put] at hK ⊢
      rw [hg] at hK ⊢
      clear hg
      have h0 := hd.1
      have h1 := hd.2.1
      clear hd
      rw [h0, h1] at hK ⊢
      go_simp
      go_at_call 40
      refine (sameTexts_any _ _ _ _ f.pk.l W (S5.out.drew60 hW) (SPK.out.drew60 hW) LEP.out).mono ?_
      rintro e_ w6 ⟨rfl, n6, rfl⟩
      exact hK _ _ rfl (below_drewN (Below.refl _ _) n6)
    · rw [if_pos (by rfl)]
      simp only [over, List.foldl_cons, List.foldl_nil, List.setIfInBounds_toArray, List.set_cons_zero, List.set_cons_succ, Act.put] at hK ⊢
      have h0 := hd.1
      have h1 := hd.2.1
      clear hd
      rw [h0, h1] at hK ⊢
      go_simp
      exact hK _ _ rfl (later_refl _)
    · rw [if_pos (by rfl)]
      simp only [over, List.foldl_cons, List.foldl_nil, List.setIfInBounds_toArray, List.set_cons_zero, List.set_cons_succ, Act.put] at hK ⊢
      have h0 := hd.1
      clear hd
      rw [h0] at hK ⊢
      go_simp
      exact hK _ _ rfl (later_refl _)
    · have hg : f_ 29 = .bool true := by first | exact hd.1 | exact hd.2.1 | exact hd.2.2.1 | exact hd.2.2.2.1 | exact hd
      rw [if_pos (by simp [Region.wanted, yielded, over, hg])]
      simp only [over, List.foldl_cons, List.foldl_nil, List.setIfInBounds_toArray, List.set_cons_zero, List.set_cons_succ, Act.put] at hK ⊢
      rw [hg] at hK ⊢
      clear hg
      clear hd
      go_simp
      exact hK _ _ rfl (later_refl _)
    · have hg : f_ 29 = .bool true := by first | exact hd.1 | exact hd.2.1 | exact hd.2.2.1 | exact hd.2.2.2.1 | exact hd
      rw [if_pos (by simp [Region.wanted, yielded, over, hg])]
      simp only [over, List.foldl_cons, List.foldl_nil, List.setIfInBounds_toArray, List.set_cons_zero, List.set_cons_succ, Act.put] at hK ⊢
      rw [hg] at hK ⊢
      clear hg
      have h0 := hd.1
      clear hd
      rw [h0] at hK ⊢
      go_simp
      go_at_call 41
      refine (fileFiles_any (D4.out.drew1.here hW)).mono ?_
      rintro e_ w6 ⟨A6, c6, rfl, hs6, hb6⟩
      exact hK _ _ ⟨A6, c6, rfl, hs6⟩ hb6
    · have hg : f_ 29 = .bool true := by first | exact hd.1 | exact hd.2.1 | exact hd.2.2.1 | exact hd.2.2.2.1 | exact hd
      rw [if_pos (by simp [Region.wanted, yielded, over, hg])]
      simp only [over, List.foldl_cons, List.foldl_nil, List.setIfInBounds_toArray, List.set_cons_zero, List.set_cons_succ, Act.put] at hK ⊢
      rw [hg] at hK ⊢
      clear hg
      clear hd
      go_simp
      exact hK _ _ rfl (later_refl _)
    · have hg : f_ 29 = .bool true := by first | exact hd.1 | exact hd.2.1 | exact hd.2.2.1 | exact hd.2.2.2.1 | exact hd
      rw [if_pos (by simp [Region.wanted, yielded, over, hg])]
      simp only [over, List.foldl_cons, List.foldl_nil, List.setIfInBounds_toArray, List.set_cons_zero, List.set_cons_succ, Act.put] at hK ⊢
      rw [hg] at hK ⊢
      clear hg
      have h0 := hd.1
      clear hd
      rw [h0] at hK ⊢
      have hcc := (BX4.out.drew.here hW).cell 11
      go_simp
      exact hK _ _ rfl (later_refl _)
    · have hg : f_ 29 = .bool true := by first | exact hd.1 | exact hd.2.1 | exact hd.2.2.1 | exact hd.2.2.2.1 | exact hd
      rw [if_pos (by simp [Region.wanted, yielded, over, hg])]
      simp only [over, List.foldl_cons, List.foldl_nil, List.setIfInBounds_toArray, List.set_cons_zero, List.set_cons_succ, Act.put] at hK ⊢
      rw [hg] at hK ⊢
      clear hg
      obtain ⟨A6, c6, h0, hs6⟩ := hd.1
      have h1 := hd.2.1
      clear hd
      rw [h0, h1] at hK ⊢
      go_simp
      go_at_call 40
      refine (sameTexts_any _ _ _ _ f.fi.l W hs6 (SFI.out.drew60 hW) LEF.out).mono ?_
      rintro e_ w6 ⟨rfl, n6, rfl⟩
      exact hK _ _ rfl (below_drewN (Below.refl _ _) n6)
    · rw [if_pos (by rfl)]
      simp only [over, List.foldl_cons, List.foldl_nil, List.setIfInBounds_toArray, List.set_cons_zero, List.set_cons_succ, Act.put] at hK ⊢
      have h0 := hd.1
      have h1 := hd.2.1
      clear hd
      rw [h0, h1] at hK ⊢
      go_simp
      exact hK _ _ rfl (later_refl _)
    · rw [if_pos (by rfl)]
      simp only [over, List.foldl_cons, List.foldl_nil, List.setIfInBounds_toArray, List.set_cons_zero, List.set_cons_succ, Act.put] at hK ⊢
      have h0 := hd.1
      clear hd
      rw [h0] at hK ⊢
      go_simp
      exact hK _ _ rfl (later_refl _)
  · intro f_ W hW hd
    have hf : f_ 2 = .bool true := hd 17 (by decide)
    clear hd
    have H7 := Lib.hid hW
    simp only [over, List.foldl_cons, List.foldl_nil, List.setIfInBounds_toArray, List.set_cons_zero, List.set_cons_succ, hf]
    clear hf hW
    go_wp2_with fail
    go_returns
    exact ⟨rfl, B4.out.drew.trans (H7.out.mono B4.out.size)⟩
theorem fnFilePackages_any {H : Type} {enc : TypeId × Value → H} (x0 x1 x2 x3 x4 x5 x6 x7 x8 : Int) (x9 x10 x11 x12 x13 x14 x15 x16 x17 x18 x19 x20 : Value) (w : World) (b0 : 0 ≤ x0 ∧ x0 < 256) (b1 : 0 ≤ x1 ∧ x1 < 256) (b2 : 0 ≤ x2 ∧ x2 < 256) (b3 : 0 ≤ x3 ∧ x3 < 256) (b4 : 0 ≤ x4 ∧ x4 < 256) (b5 : 0 ≤ x5 ∧ x5 < 256) (b6 : 0 ≤ x6 ∧ x6 < 256) (b7 : 0 ≤ x7 ∧ x7 < 256) (b8 : 0 ≤ x8 ∧ x8 < 4294967296) (b9 : Rd enc Tryd.prog w 24 [x9]) (b10 : Rd enc Tryd.prog w 25 [x10]) (b11 : Rd enc Tryd.prog w 25 [x11]) (b12 : Rd enc Tryd.prog w 26 [x12]) (b13 : Rd enc Tryd.prog w 26 [x13]) (b14 : Rd enc Tryd.prog w 26 [x14]) (b15 : Rd enc Tryd.prog w 26 [x15]) (b16 : Rd enc Tryd.prog w 27 [x16]) (b17 : Rd enc Tryd.prog w 28 [x17]) (b18 : Rd enc Tryd.prog w 29 [x18]) (b19 : Rd enc Tryd.prog w 30 [x19]) (b20 : Rd enc Tryd.prog w 31 [x20]) : Calls Tryd.prog 16 #[.agg #[.int .u8 x0, .int .u8 x1, .int .u8 x2, .int .u8 x3, .int .u8 x4, .int .u8 x5, .int .u8 x6, .int .u8 x7, .int .u32 x8, x9, x10, x11, x12, x13, x14, x15, x16, x17, x18, x19, x20]] w (LawEnd w) := by
  obtain ⟨f, hI, e⟩ := Rd.file b0 b1 b2 b3 b4 b5 b6 b7 b8 b9 b10 b11 b12 b13 b14 b15 b16 b17 b18 b19 b20
  rw [← e]
  exact fnFilePackages_walk f w hI
end Go.Proofs.YtimdaolbdgafcaaDoor
