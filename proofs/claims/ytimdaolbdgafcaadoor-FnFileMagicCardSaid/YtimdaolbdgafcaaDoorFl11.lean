/- Laws on an object file: another magic: no object file. (printed by gen_fl11.py) -/
import Derived.Test.YtimdaolbdgafcaaDoorSmall
import Derived.Test.YtimdaolbdgafcaaDoorBuild
import Derived.Test.YtimdaolbdgafcaaDoorImplM
namespace Go.Proofs.YtimdaolbdgafcaaDoor
open Go.RowKit

theorem magic_off (rest : List Int) (p : Nat) (hp : p < 8) (m y : Int) (hm : magicB[p]? = some m) (y0 : 1 ≤ y) (y1 : y ≤ 255) : strOfNums (cut ((magicB ++ rest).set p ((m + y) % 256)) 0 8) ≠ magicS := by
  intro h
  have h2 : ((strOfNums (cut ((magicB ++ rest).set p ((m + y) % 256)) 0 8)).data.toList)[p]? = magicS.data.toList[p]? := by rw [h]
  rw [strOfNums_data] at h2
  obtain rfl | rfl | rfl | rfl | rfl | rfl | rfl | rfl : p = 0 ∨ p = 1 ∨ p = 2 ∨ p = 3 ∨ p = 4 ∨ p = 5 ∨ p = 6 ∨ p = 7 := by omega
  all_goals
    simp only [magicB, List.getElem?_cons_zero, List.getElem?_cons_succ, Option.some.injEq] at hm
    subst hm
    simp [cut, magicB] at h2
    have h3 := congrArg UInt8.toNat h2
    simp at h3
    omega
theorem At.set1 {w : World} {g : Nat} {xs : List Int} {t : TypeId} {cur : Array Value} (hb : Blk w g t cur) (h : At w g 0 xs) (p : Nat) (hp : p < xs.length) (v : Int) : At (w.setCell ⟨g, p, none⟩ (.int .u8 v)) g 0 (xs.set p v) := fun j z hz => by
  have hb2 := hb.set_ p (.int .u8 v)
  rw [Nat.zero_add, hb2.cell, Array.getElem?_setIfInBounds]
  rw [List.getElem?_set] at hz
  have hc := h p (xs[p]) (by simp [hp])
  rw [Nat.zero_add, hb.cell] at hc
  have hps : p < cur.size := (Array.getElem?_eq_some_iff.1 hc).1
  by_cases hpj : p = j
  · subst hpj
    rw [if_pos rfl, if_pos hps]
    rw [if_pos rfl, if_pos hp] at hz
    injection hz with hz
    rw [hz]
  · rw [if_neg hpj]
    rw [if_neg hpj] at hz
    have h1 := h j z hz
    rwa [Nat.zero_add, hb.cell] at h1
set_option maxRecDepth 100000 in
set_option maxHeartbeats 1000000 in
theorem fnFileMagic_walk (f : FM) (x y : Int) (w : World) (hI : f.In w) (_hx : -9223372036854775808 ≤ x ∧ x < 9223372036854775808) (_hy : -9223372036854775808 ≤ y ∧ y < 9223372036854775808) : Calls Tryd.prog 8 #[f.val, .int .i64 x, .int .i64 y] w (LawEnd w) := by
  obtain ⟨p0, p1, p2, p3, p4, p5, p6, p7, a0, a1, a2, a3, a4, a5, a6, a7, a8, a9, a10, a11, efp, hA, e⟩ := FM.val_eq hI.fp.1
  have HE := Lib.hid e
  have EFP := Lib.hid efp
  rw [e]
  clear e efp
  have HI := Lib.hid hI
  have HA := Lib.hid hA
  obtain ⟨w0, hw0⟩ : ∃ w0, w0 = w.alloc (.cells (fileArr p0 p1 p2 p3 p4 p5 p6 p7 a0 a1 a2 a3 a4 a5 a6 a7 a8 a9 a10 a11 f) 33) := ⟨_, rfl⟩
  have BX0 := Lib.hid (show Blk w0 w.heap.size 33 (fileArr p0 p1 p2 p3 p4 p5 p6 p7 a0 a1 a2 a3 a4 a5 a6 a7 a8 a9 a10 a11 f) from by rw [hw0]; exact Blk.new _ _ _)
  have B0 := Lib.hid (show Below w.heap.size w w0 from by rw [hw0]; exact later_alloc _ _)
  have HW := Lib.hid hw0
  have Z6 := Lib.hid (show Calls Tryd.prog 17 #[.agg (fileArr p0 p1 p2 p3 p4 p5 p6 p7 a0 a1 a2 a3 a4 a5 a6 a7 a8 a9 a10 a11 f)] w0 (RetIf (∀ L ∈ f.lists, L.l.length ≤ 2147483647) w0) from by have h := zz6_any f w0 (HI.out.here B0.out); rw [HE.out] at h; exact h)
  have SMA := Lib.hid (fun (W : World) (hb : Below w.heap.size w W) (hL : ∀ L ∈ f.lists, L.l.length ≤ 2147483647) => show Calls Tryd.prog 18 #[.agg (fileArr p0 p1 p2 p3 p4 p5 p6 p7 a0 a1 a2 a3 a4 a5 a6 a7 a8 a9 a10 a11 f)] W (RetIf f.Small W) from by have h := small_any f W (HI.out.here hb) hL; rw [HE.out] at h; exact h)
  have BFA := Lib.hid (fun (W : World) (hb : Below w.heap.size w W) (S : f.Small) => show Calls Tryd.prog 19 #[.agg (fileArr p0 p1 p2 p3 p4 p5 p6 p7 a0 a1 a2 a3 a4 a5 a6 a7 a8 a9 a10 a11 f)] W (RetB f.bytes W) from by have h := buildFile_any f W (HI.out.here hb) S; rw [HE.out] at h; exact h)
  obtain ⟨i0, hi0, hz0, hz1, hz2⟩ := info_parts Tryd.infoU8c
  clear hI hA hw0
  go_enter Tryd.func8, Tryd.ntmps8
  go_upto_region 1 with fail
  rw [← HW.out]
  go_wp2_with (refine wpList_load_row rfl 33 (.tmp 3) rfl w.heap.size rfl 33 _ (0, 0) _ BX0.out Tryd.underlying33 rfl Tryd.fileInfo ?_)
  refine Z6.out.mono ?_
  rintro e w1 ⟨b1, rfl, hp1, hb1⟩
  have BX1 := Lib.hid (BX0.out.here hb1)
  have B1 := Lib.hid (below_from B0.out hb1)
  clear hb1
  rcases b1 with _ | _
  · go_wp2_with fail
    go_returns
    exact ⟨rfl, B1.out⟩
  have FL := Lib.hid (hp1 rfl)
  clear hp1 BX0 B0 Z6 HW
  go_wp2_with (refine wpList_load_row rfl 33 (.tmp 3) rfl w.heap.size rfl 33 _ (0, 0) _ BX1.out Tryd.underlying33 rfl Tryd.fileInfo ?_)
  refine (SMA.out w1 B1.out FL.out).mono ?_
  rintro e w2 ⟨b2, rfl, hp2, hb2⟩
  have BX2 := Lib.hid (BX1.out.here hb2)
  have B2 := Lib.hid (below_from B1.out hb2)
  clear hb2
  rcases b2 with _ | _
  · go_wp2_with fail
    go_returns
    exact ⟨rfl, B2.out⟩
  have SM := Lib.hid (hp2 rfl)
  clear hp2 BX1 B1 SMA
  by_cases hr1 : x < 0
  · go_wp2_with fail
    go_returns
    exact ⟨rfl, B2.out⟩
  by_cases hr2 : 7 < x
  · have x0 : (0 : Int) ≤ x := by omega
    go_wp2_with fail
    go_returns
    exact ⟨rfl, B2.out⟩
  by_cases hr3 : y < 1
  · have x0 : (0 : Int) ≤ x := by omega
    have x1 : x ≤ 7 := by omega
    go_wp2_with fail
    go_returns
    exact ⟨rfl, B2.out⟩
  by_cases hr4 : 255 < y
  · have x0 : (0 : Int) ≤ x := by omega
    have x1 : x ≤ 7 := by omega
    have y0 : 1 ≤ y := by omega
    go_wp2_with fail
    go_returns
    exact ⟨rfl, B2.out⟩
  have x0 : (0 : Int) ≤ x := by omega
  have x1 : x ≤ 7 := by omega
  have y0 : 1 ≤ y := by omega
  have y1 : y ≤ 255 := by omega
  obtain ⟨p, rfl⟩ : ∃ p : Nat, x = p := ⟨x.toNat, by omega⟩
  clear hr1 hr2 hr3 hr4 _hx _hy
  obtain ⟨v2, hv2⟩ : ∃ v2, v2 = w2.alloc (.cells #[] 5) := ⟨_, rfl⟩
  have HV2 := Lib.hid hv2
  have BXl := Lib.hid (BX2.out.alloc (.cells #[] 5))
  have BXv := Lib.hid (show Blk v2 w.heap.size 33 (fileArr p0 p1 p2 p3 p4 p5 p6 p7 a0 a1 a2 a3 a4 a5 a6 a7 a8 a9 a10 a11 f) from by rw [hv2]; exact BXl.out)
  have z2 := B2.out.size
  have Bv := Lib.hid (show Below w.heap.size w v2 from by rw [hv2]; exact B2.out.alloc z2 _)
  have OWV := Lib.hid (show v2.ownsRow w2.heap.size 5 1 (.slice (some ⟨w2.heap.size, 0, none⟩) 0 0) 0 [] from by rw [hv2]; exact World.ownsRow_made (base := w2.heap.size) (e := 5) (size := 1) w2 #[] 0 (Nat.le_refl _) (by simp) (by simp))
  have zv : w2.heap.size ≤ v2.heap.size := by rw [hv2]; simp
  clear hv2
  go_wp2_with (refine wpList_load_row rfl 33 (.tmp 3) rfl w.heap.size rfl 33 _ (0, 0) _ BXl.out Tryd.underlying33 rfl Tryd.fileInfo ?_)
  rw [← HV2.out]
  refine (BFA.out v2 Bv.out SM.out).mono ?_
  rintro e w3 ⟨A3, c3, rfl, s3, k3, hb3⟩
  have len0 := FM.bytes_len SM.out
  have len1 := f.at_mono 0 18 (by omega)
  obtain ⟨d, o, rfl, at3⟩ := s3.at_ (by omega)
  have BX3 := Lib.hid (BXv.out.here hb3)
  have B3 := Lib.hid (below_from Bv.out hb3)
  have OW3 := Lib.hid (own_here OWV.out hb3)
  have z3 : w2.heap.size ≤ w3.heap.size := Nat.le_trans zv hb3.size
  obtain ⟨n, hn⟩ : ∃ n, n = f.bytes.length := ⟨_, rfl⟩
  rw [← hn] at k3 len0 ⊢
  have D3 := Lib.hid (show Dat f d o n c3 w3 from ⟨hn, SM.out, HI.out.flags, k3, at3, at3.lt (by rw [← hn]; omega)⟩)
  have n0 : (96 : Int) ≤ n := by omega
  have n1 : (n : Int) ≤ 110000 := by omega
  have n2 : (n : Int) ≤ c3 := by omega
  clear len0 len1 hn s3 k3 at3 hb3 BXv Bv
  have LN := D3.out.len
  have nN : n ≤ 110000 := by omega
  have CT := Lib.hid (show ∀ j u, (bcs f.bytes)[j]? = some u → w3.cell? ((⟨d, o, none⟩ : Addr).add j) = some u from fun j u hu => by
    rw [bcs, List.getElem?_map, Option.map_eq_some_iff] at hu
    obtain ⟨z, hz, rfl⟩ := hu
    rw [Lib.addr_add]
    exact D3.out.at_ j z hz)
  go_upto_region 6 with (at_builtin; refine wpList_append_sl rfl _ _ 35 rfl w2.heap.size 5 i0 _ 1 1 Tryd.underlying35 hi0 hz0 hz1 hz2 rfl (by decide) _ 0 [] rfl OW3.out (some ⟨d, o, none⟩) f.bytes.length c3 (bcs f.bytes) rfl (by rw [bcs_length]; omega) (fun _ => ⟨_, rfl, CT.out⟩) (bcs_one _) (by unfold maxLen; omega) (by omega) (by omega) ?_; intro A4 C4 w4 hown hgrow)
  rw [Nat.zero_add, List.nil_append] at hown
  rw [← LN] at hown ⊢
  have B4 := Lib.hid (B3.out.grown hgrow (by omega) (fun k hk => by have := (OW3.out.lt k hk).1; omega) : Below w.heap.size w w4)
  obtain ⟨_, h | ⟨g4, cap, cur, hv, hbase, hrow, hncap, _, hsize, htake⟩⟩ := hown
  · exact absurd h.2 (by omega)
  obtain ⟨rfl, rfl⟩ : A4 = some ⟨g4, 0, none⟩ ∧ C4 = cap := by injection hv with h1 h2 h3; exact ⟨h1, h3⟩
  have BQ := Lib.hid (show Blk w4 g4 5 cur from hrow)
  have AT4 := Lib.hid (show At w4 g4 0 f.bytes from fun j z hz => by
    have hj := (List.getElem?_eq_some_iff.1 hz).1
    have h1 : (bcs f.bytes)[j]? = some (.int .u8 z) := by rw [bcs, List.getElem?_map, hz]; rfl
    rw [← htake, List.getElem?_take, if_pos (by omega), Array.getElem?_toList] at h1
    rw [Nat.zero_add, BQ.out.cell, h1])
  obtain ⟨m, hm⟩ : ∃ m, magicB[p]? = some m := ⟨_, List.getElem?_eq_getElem (by show p < 8; omega)⟩
  have hmb : 0 ≤ m ∧ m < 256 := (show ∀ z ∈ magicB, 0 ≤ z ∧ z < 256 from by decide) m (List.mem_of_getElem? hm)
  have cp : w4.cell? ⟨g4, p, none⟩ = some (.int .u8 m) := by have h := (AT4.out.has (p := 0) f.has_magic) p m hm; simpa using h
  have fz := BQ.out.frozen p
  obtain ⟨v, hv⟩ : ∃ v, v = (m + y) % 256 := ⟨_, rfl⟩
  have WV := Lib.hid (show IntKind.u8.wrap (m + y) = v from by rw [IntKind.wrap_u8, hv])
  have WY := Lib.hid (show IntKind.u8.wrap y = y from by rw [IntKind.wrap_u8]; omega)
  obtain ⟨w5, hw5⟩ : ∃ w5, w5 = w4.setCell ⟨g4, p, none⟩ (.int .u8 v) := ⟨_, rfl⟩
  have HW5 := Lib.hid hw5
  have pn : p < f.bytes.length := by omega
  have AT5 := Lib.hid (show At w5 g4 0 (f.bytes.set p v) from by rw [hw5]; exact At.set1 BQ.out AT4.out p pn v)
  have B5 := Lib.hid (show Below w.heap.size w w5 from by rw [hw5]; exact B4.out.setCell (by show w.heap.size ≤ g4; omega) _)
  have MO := Lib.hid (show strOfNums (cut (f.bytes.set p v) 0 8) ≠ magicS from by
    have h1 : f.bytes = magicB ++ f.bytes.drop 8 := by have h := f.has_magic.drop; simpa [magicB] using h
    rw [h1, hv]
    exact magic_off _ p (by omega) m y hm y0 y1)
  obtain ⟨z, hz⟩ : ∃ z : Int, z = 0 := ⟨_, rfl⟩
  obtain ⟨bf, hbf⟩ : ∃ b : Bool, b = false := ⟨_, rfl⟩
  have FH0 := (fileHeadNil_any (f.bytes.set p v) g4 0 n C4 w5 (by rw [List.length_set]; exact LN) (by omega) (by omega) (by omega) AT5.out MO.out)
  have FH := Lib.hid (show Calls Tryd.prog 25 #[.slice (some ⟨g4, 0, none⟩) n C4] w5 (RetV (.tuple #[.agg #[.int .u8 z, .int .u8 z, .int .u8 z, .int .u8 z, .int .u8 z, .int .u8 z, .int .u8 z, .int .u8 z], .int .u32 z, .agg #[.bool bf, .bool bf, .bool bf, .bool bf], .bool false]) w5) from by rw [hz, hbf]; exact FH0)
  clear FH0 hz hbf LN
  have q0 : (p : Int) < n := by omega
  have q1 : (0 : Int) ≤ p := by omega
  have wv := WV.out
  have wy := WY.out
  clear hw5 hrow htake hsize hm hv BQ AT4 AT5 MO CT OW3 D3 hgrow
  go_wp2_with fail
  rw [← HW5.out]
  refine FH.out.mono ?_
  rintro e w6 ⟨rfl, hb6⟩
  have B6 := Lib.hid (below_from B5.out hb6)
  have z6 := B6.out.size
  clear hb6 cp fz wv wy WV WY hmb n0 n1 n2 nN pn q0 q1 x0 x1 y0 y1
  obtain ⟨w7, hw7⟩ : ∃ w7, w7 = (w6.alloc (.cells #[.int .u8 z, .int .u8 z, .int .u8 z, .int .u8 z, .int .u8 z, .int .u8 z, .int .u8 z, .int .u8 z] 22)).alloc (.cells #[.bool bf, .bool bf, .bool bf, .bool bf] 53) := ⟨_, rfl⟩
  have HW7 := Lib.hid hw7
  have B7 := Lib.hid (show Below w.heap.size w w7 from by rw [hw7]; have hB := B6.out; (repeat' (first | (with_reducible exact Below.refl _ _) | (with_reducible assumption) | (with_reducible refine below_drewN ?_ _) | (with_reducible refine Below.alloc ?_ ?_ _) | (with_reducible refine Below.drew ?_) | (with_reducible refine Below.setCell ?_ ?_ _) | go_size)))
  clear hw7
  go_upto_region 10 with fail
  rw [← HW7.out]
  go_wp2_with fail
  go_returns
  exact ⟨rfl, B7.out⟩
theorem fnFileMagic_any {H : Type} {enc : TypeId × Value → H} (x0 x1 x2 x3 x4 x5 x6 x7 x8 : Int) (x9 x10 x11 x12 x13 x14 x15 x16 x17 x18 x19 x20 : Value) (x21 x22 : Int) (w : World) (b0 : 0 ≤ x0 ∧ x0 < 256) (b1 : 0 ≤ x1 ∧ x1 < 256) (b2 : 0 ≤ x2 ∧ x2 < 256) (b3 : 0 ≤ x3 ∧ x3 < 256) (b4 : 0 ≤ x4 ∧ x4 < 256) (b5 : 0 ≤ x5 ∧ x5 < 256) (b6 : 0 ≤ x6 ∧ x6 < 256) (b7 : 0 ≤ x7 ∧ x7 < 256) (b8 : 0 ≤ x8 ∧ x8 < 4294967296) (b9 : Rd enc Tryd.prog w 24 [x9]) (b10 : Rd enc Tryd.prog w 25 [x10]) (b11 : Rd enc Tryd.prog w 25 [x11]) (b12 : Rd enc Tryd.prog w 26 [x12]) (b13 : Rd enc Tryd.prog w 26 [x13]) (b14 : Rd enc Tryd.prog w 26 [x14]) (b15 : Rd enc Tryd.prog w 26 [x15]) (b16 : Rd enc Tryd.prog w 27 [x16]) (b17 : Rd enc Tryd.prog w 28 [x17]) (b18 : Rd enc Tryd.prog w 29 [x18]) (b19 : Rd enc Tryd.prog w 30 [x19]) (b20 : Rd enc Tryd.prog w 31 [x20]) (b21 : -9223372036854775808 ≤ x21 ∧ x21 < 9223372036854775808) (b22 : -9223372036854775808 ≤ x22 ∧ x22 < 9223372036854775808) : Calls Tryd.prog 8 #[.agg #[.int .u8 x0, .int .u8 x1, .int .u8 x2, .int .u8 x3, .int .u8 x4, .int .u8 x5, .int .u8 x6, .int .u8 x7, .int .u32 x8, x9, x10, x11, x12, x13, x14, x15, x16, x17, x18, x19, x20], .int .i64 x21, .int .i64 x22] w (LawEnd w) := by
  obtain ⟨f, hI, e⟩ := Rd.file b0 b1 b2 b3 b4 b5 b6 b7 b8 b9 b10 b11 b12 b13 b14 b15 b16 b17 b18 b19 b20
  rw [← e]
  exact fnFileMagic_walk f x21 x22 w hI b21 b22
end Go.Proofs.YtimdaolbdgafcaaDoor
