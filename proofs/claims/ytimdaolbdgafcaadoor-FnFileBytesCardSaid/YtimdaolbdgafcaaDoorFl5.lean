/- Laws on an object file: bytes as they stand. (printed by gen_fl5.py) -/
import Derived.Test.YtimdaolbdgafcaaDoorSmall
import Derived.Test.YtimdaolbdgafcaaDoorBuild
import Derived.Test.YtimdaolbdgafcaaDoorImplD
namespace Go.Proofs.YtimdaolbdgafcaaDoor
open Go.RowKit

set_option maxRecDepth 100000 in
set_option maxHeartbeats 1000000 in
theorem fnFileBytes_walk (f : FM) (p m : Int) (w : World) (hI : f.In w) (hp : 0 ≤ p ∧ p < 4294967296) (hm : 0 ≤ m ∧ m < 4294967296) : Calls Tryd.prog 6 #[f.val, .int .u32 p, .int .u32 m] w (LawEnd w) := by
  obtain ⟨p0, p1, p2, p3, p4, p5, p6, p7, a0, a1, a2, a3, a4, a5, a6, a7, a8, a9, a10, a11, efp, hA, e⟩ := FM.val_eq hI.fp.1
  have HE := Lib.hid e
  have EFP := Lib.hid efp
  rw [e]
  clear e efp
  have HI := Lib.hid hI
  have HA := Lib.hid hA
  obtain ⟨w0, hw0⟩ : ∃ w0, w0 = w.alloc (.cells (fileArr p0 p1 p2 p3 p4 p5 p6 p7 a0 a1 a2 a3 a4 a5 a6 a7 a8 a9 a10 a11 f) 33) := ⟨_, rfl⟩
  have BX0 := Lib.hid (show Blk w0 w.heap.size 33 (fileArr p0 p1 p2 p3 p4 p5 p6 p7 a0 a1 a2 a3 a4 a5 a6 a7 a8 a9 a10 a11 f) from by rw [hw0]; exact Blk.new _ _ _)
  have B0 := Lib.hid (show Below w.heap.size w w0 from by rw [hw0]; exact later_alloc _ _)
  have HW := Lib.hid hw0
  have Z6 := Lib.hid (show Calls Tryd.prog 17 #[.agg (fileArr p0 p1 p2 p3 p4 p5 p6 p7 a0 a1 a2 a3 a4 a5 a6 a7 a8 a9 a10 a11 f)] w0 (RetIf (∀ L ∈ f.lists, L.l.length ≤ 2147483647) w0) from by have h := zz6_any f w0 (HI.out.here B0.out); rw [HE.out] at h; exact h)
  have SMA := Lib.hid (fun (W : World) (hb : Below w.heap.size w W) (hL : ∀ L ∈ f.lists, L.l.length ≤ 2147483647) => show Calls Tryd.prog 18 #[.agg (fileArr p0 p1 p2 p3 p4 p5 p6 p7 a0 a1 a2 a3 a4 a5 a6 a7 a8 a9 a10 a11 f)] W (RetIf f.Small W) from by have h := small_any f W (HI.out.here hb) hL; rw [HE.out] at h; exact h)
  have BFA := Lib.hid (fun (W : World) (hb : Below w.heap.size w W) (S : f.Small) => show Calls Tryd.prog 19 #[.agg (fileArr p0 p1 p2 p3 p4 p5 p6 p7 a0 a1 a2 a3 a4 a5 a6 a7 a8 a9 a10 a11 f)] W (RetB f.bytes W) from by have h := buildFile_any f W (HI.out.here hb) S; rw [HE.out] at h; exact h)
  have hp0 := hp.1
  have hp1 := hp.2
  have hm0 := hm.1
  have hm1 := hm.2
  clear hp hm
  clear hI hA hw0
  go_enter Tryd.func6, Tryd.ntmps6
  go_upto_region 1 with fail
  rw [← HW.out]
  go_wp2_with (refine wpList_load_row rfl 33 (.tmp 3) rfl w.heap.size rfl 33 _ (0, 0) _ BX0.out Tryd.underlying33 rfl Tryd.fileInfo ?_)
  refine Z6.out.mono ?_
  rintro e w1 ⟨b1, rfl, hp1, hb1⟩
  have BX1 := Lib.hid (BX0.out.here hb1)
  have B1 := Lib.hid (below_from B0.out hb1)
  clear hb1
  rcases b1 with _ | _
  · go_wp2_with fail
    go_returns
    exact ⟨rfl, B1.out⟩
  have FL := Lib.hid (hp1 rfl)
  clear hp1 BX0 B0 Z6 HW
  go_wp2_with (refine wpList_load_row rfl 33 (.tmp 3) rfl w.heap.size rfl 33 _ (0, 0) _ BX1.out Tryd.underlying33 rfl Tryd.fileInfo ?_)
  refine (SMA.out w1 B1.out FL.out).mono ?_
  rintro e w2 ⟨b2, rfl, hp2, hb2⟩
  have BX2 := Lib.hid (BX1.out.here hb2)
  have B2 := Lib.hid (below_from B1.out hb2)
  clear hb2
  rcases b2 with _ | _
  · go_wp2_with fail
    go_returns
    exact ⟨rfl, B2.out⟩
  have SM := Lib.hid (hp2 rfl)
  clear hp2 BX1 B1 SMA
  go_wp2_with (refine wpList_load_row rfl 33 (.tmp 3) rfl w.heap.size rfl 33 _ (0, 0) _ BX2.out Tryd.underlying33 rfl Tryd.fileInfo ?_)
  refine (BFA.out w2 B2.out SM.out).mono ?_
  rintro e w3 ⟨A3, c3, rfl, s3, k3, hb3⟩
  have len0 := FM.bytes_len SM.out
  have len1 := f.at_mono 0 18 (by omega)
  obtain ⟨d, o, rfl, at3⟩ := s3.at_ (by omega)
  have BX3 := Lib.hid (BX2.out.here hb3)
  have B3 := Lib.hid (below_from B2.out hb3)
  obtain ⟨n, hn⟩ : ∃ n, n = f.bytes.length := ⟨_, rfl⟩
  rw [← hn] at k3 len0 ⊢
  have D3 := Lib.hid (show Dat f d o n c3 w3 from ⟨hn, SM.out, HI.out.flags, k3, at3, at3.lt (by rw [← hn]; omega)⟩)
  have n0 : (96 : Int) ≤ n := by omega
  have n1 : (n : Int) ≤ 110000 := by omega
  have n2 : (n : Int) ≤ c3 := by omega
  clear len0 len1 hn s3 k3 at3 hb3 BX2 B2
  by_cases t1 : p ≤ n
  · by_cases t2 : 1 ≤ m
    · by_cases t3 : m ≤ n - p
      · obtain ⟨a, rfl⟩ : ∃ a : Nat, p = a := ⟨p.toNat, by omega⟩
        obtain ⟨b, rfl⟩ : ∃ b : Nat, m = b := ⟨m.toNat, by omega⟩
        have hab : a + b ≤ n := by omega
        have DL := Lib.hid D3.out.len
        have hcl : (cut f.bytes a b).length = b := cut_len (by have := DL.out; omega)
        have hle := SM.out.len_le.1
        have CON := Lib.hid (fileBytes_any D3.out a b (by omega) hab)
        have SB := Lib.hid (fun (W : World) (A : Option Addr) (c' c2 : Nat) (hA : SlI .u8 W A (cut f.bytes a b)) (hD : Dat f d o n c3 W) => show Calls Tryd.prog 20 #[.slice A b c', .slice (some ⟨d, o + a, none⟩) b c2] W (RetQ (.bool true) W) from by
          have h := sameBytes_any A (some ⟨d, o + a, none⟩) c' c2 (cut f.bytes a b) W hA (fun _ => ⟨d, o + a, rfl, hD.at_.has (cut_has f.bytes a b)⟩) (by rw [hcl]; unfold maxLen; omega)
          rw [hcl] at h
          exact h)
        have hst : ∀ (W : World) (c' : Nat) (k : Nat), Dat f d o n c3 W → (convert 35 9 (.slice (some ⟨d, o + a, none⟩) b c')).run Tryd.prog (W.drewN k) = .ok (.string (strOfNums (cut f.bytes a b))) (W.drewN k) := fun W c' k hD => run_strG ((hD.drewN k).at_.has (cut_has f.bytes a b)) hcl
        have HST := Lib.hid hst
        have i0 : (0 : Int) ≤ a := by omega
        have i1 : (1 : Int) ≤ b := by omega
        have i2 : (a : Int) + b ≤ n := by omega
        have i3 : (b : Int) ≤ n - a := by omega
        have i4 : c3 ≠ a := by omega
        have HCL := Lib.hid hcl
        clear hp0 hp1 hm0 hm1 t1 t2 t3 hab hcl hle hst
        go_wp2_with fail
        refine CON.out.mono ?_
        rintro e w4 ⟨A4, c4, rfl, hs4, hb4⟩
        rw [HCL.out]
        generalize strOfNums (cut f.bytes a b) = s at *
        have B4 := Lib.hid (below_from B3.out hb4)
        have D4 := Lib.hid (D3.out.here hb4)
        have S4 := Lib.hid hs4
        have hst4 : ∀ c' k, _ := fun c' k => HST.out w4 c' k D4.out
        clear hb4 hs4
        go_wp2_with fail
        refine (SB.out _ _ _ _ S4.out D4.out).mono ?_
        rintro e w5 ⟨rfl, m5, rfl⟩
        go_wp2_with fail
        go_returns
        exact ⟨by simp, below_drewN B4.out m5⟩
      · have t3' : (n : Int) - p < m := by omega
        go_wp2_with fail
        go_returns
        exact ⟨by simp; omega, B3.out⟩
    · have t2' : m < 1 := by omega
      go_wp2_with fail
      go_returns
      exact ⟨by simp; omega, B3.out⟩
  · have t1' : (n : Int) < p := by omega
    go_wp2_with fail
    go_returns
    exact ⟨by simp; omega, B3.out⟩
theorem fnFileBytes_any {H : Type} {enc : TypeId × Value → H} (x0 x1 x2 x3 x4 x5 x6 x7 x8 : Int) (x9 x10 x11 x12 x13 x14 x15 x16 x17 x18 x19 x20 : Value) (p m : Int) (w : World) (b0 : 0 ≤ x0 ∧ x0 < 256) (b1 : 0 ≤ x1 ∧ x1 < 256) (b2 : 0 ≤ x2 ∧ x2 < 256) (b3 : 0 ≤ x3 ∧ x3 < 256) (b4 : 0 ≤ x4 ∧ x4 < 256) (b5 : 0 ≤ x5 ∧ x5 < 256) (b6 : 0 ≤ x6 ∧ x6 < 256) (b7 : 0 ≤ x7 ∧ x7 < 256) (b8 : 0 ≤ x8 ∧ x8 < 4294967296) (b9 : Rd enc Tryd.prog w 24 [x9]) (b10 : Rd enc Tryd.prog w 25 [x10]) (b11 : Rd enc Tryd.prog w 25 [x11]) (b12 : Rd enc Tryd.prog w 26 [x12]) (b13 : Rd enc Tryd.prog w 26 [x13]) (b14 : Rd enc Tryd.prog w 26 [x14]) (b15 : Rd enc Tryd.prog w 26 [x15]) (b16 : Rd enc Tryd.prog w 27 [x16]) (b17 : Rd enc Tryd.prog w 28 [x17]) (b18 : Rd enc Tryd.prog w 29 [x18]) (b19 : Rd enc Tryd.prog w 30 [x19]) (b20 : Rd enc Tryd.prog w 31 [x20]) (hp : 0 ≤ p ∧ p < 4294967296) (hm : 0 ≤ m ∧ m < 4294967296) : Calls Tryd.prog 6 #[.agg #[.int .u8 x0, .int .u8 x1, .int .u8 x2, .int .u8 x3, .int .u8 x4, .int .u8 x5, .int .u8 x6, .int .u8 x7, .int .u32 x8, x9, x10, x11, x12, x13, x14, x15, x16, x17, x18, x19, x20], .int .u32 p, .int .u32 m] w (LawEnd w) := by
  obtain ⟨f, hI, e⟩ := Rd.file b0 b1 b2 b3 b4 b5 b6 b7 b8 b9 b10 b11 b12 b13 b14 b15 b16 b17 b18 b19 b20
  rw [← e]
  exact fnFileBytes_walk f p m w hI hp hm
end Go.Proofs.YtimdaolbdgafcaaDoor
