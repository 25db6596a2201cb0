/- Laws on packages: strings alone. (printed by gen_pl.py) -/
import Derived.BigRegion
import Derived.Test.YtedjadicdodahaaDoorDg
import Derived.Test.YtedjadicdodahaaDoorQDe
namespace Go.Proofs.YtedjadicdodahaaDoor
open Go.RowKit Go.Maps

theorem strS_pos (K : List Int) (l : List ByteArray) : 1 ≤ (strS K l).size := by
  unfold strS
  rw [str_size, List.length_append, fpL_len]
  omega
theorem strT {K : List Int} {l : List ByteArray} (hp : l.length ≤ 20 ∧ ∀ t ∈ l, t.size ≤ 200) (h1 : 1 ≤ (distinct l).length) : PkT (strS K l) 2 false (sp l) (fpL K (q3 2 false (sp l) ((sp l).elems 10))) := by
  have h2 := distinct_len l
  have h3 := szs_le (distinct l) 200 (fun t ht => hp.2 t (distinct_mem ht))
  refine ⟨rfl, fpL_len _ _, by decide, (fun h => by cases h), ?_, ?_, ?_⟩
  · rw [sp_elems]; exact h1
  · rw [sp_elems]; omega
  · rw [sp_elems]; omega
theorem Gl.gv4 {K : List Int} {w : World} (h : Gl K w) : Gv w := ⟨h.i, h.r⟩
set_option maxRecDepth 100000 in
set_option maxHeartbeats 1000000 in
theorem fnStringsRaw_any {H : Type} {enc : TypeId × Value → H} (A : Option Addr) (n c : Nat) (w : World) (f : Rd enc Tryd.prog w 22 [.slice A n c]) (hG : ∃ K, Gl K w) :
    Calls Tryd.prog 3 #[.slice A n c] w (LawEnd w) := by
  obtain ⟨K, hK⟩ := hG
  obtain ⟨⟨_, _, l⟩, hv, hs, hk, hm⟩ := Rd.strs f
  injection hv with e1 e2 e3
  subst e1 e2 e3
  replace hs : SlR 1 w A (l.map strCells) := hs
  replace hm : l.length ≤ maxLen := hm
  show Calls Tryd.prog 3 #[.slice A l.length c] w (LawEnd w)
  have Z1 := Lib.hid (zz5_any A c l w hs hk hm)
  have PO := Lib.hid (fun (W : World) (hb : Below w.heap.size w W) => shortTexts_any A c l W (hs.here hb) hk hm)
  have PA := Lib.hid (fun (W : World) (hb : Below w.heap.size w W) (hp : l.length ≤ 20 ∧ ∀ t ∈ l, t.size ≤ 200) => strings_any A c l W (hK.here hb) (hs.here hb) hp.1 hp.2)
  have DI := Lib.hid (fun (W : World) (hb : Below w.heap.size w W) (hp : l.length ≤ 20) => distinct_any A c l W (hs.here hb) (by omega))
  unfold maxLen at hm
  have n0 : (0 : Int) ≤ l.length := by omega
  have n1 : (l.length : Int) ≤ 9223372036854775807 := by omega
  have HS := Lib.hid hs
  have HK := Lib.hid hK
  clear f hs hK hm hk
  go_enter Tryd.func3, Tryd.ntmps3
  go_wp2_with fail
  refine Z1.out.mono ?_
  rintro e w1 ⟨b1, rfl, _, hb1⟩
  have B1 := Lib.hid hb1
  clear hb1 Z1
  rcases b1 with _ | _
  · go_wp2_with fail
    go_returns
    exact ⟨rfl, B1.out⟩
  go_wp2_with fail
  refine (PO.out w1 B1.out).mono ?_
  rintro e w2 ⟨b2, rfl, hp2, hb2⟩
  have B2 := Lib.hid (below_from B1.out hb2)
  clear hb2 PO B1
  rcases b2 with _ | _
  · go_wp2_with fail
    go_returns
    exact ⟨rfl, B2.out⟩
  have PP := Lib.hid (hp2 rfl)
  clear hp2
  go_wp2_with fail
  refine (PA.out w2 B2.out PP.out).mono ?_
  rintro e w3 ⟨Ai, ci, rfl, hci, si, hb3⟩
  have B3 := Lib.hid (below_from B2.out hb3)
  obtain ⟨D, hD⟩ : ∃ D, D = strS K l := ⟨_, rfl⟩
  have d0 : (0 : Int) < D.size := by
    have h1 := strS_pos K l
    rw [← hD] at h1
    omega
  have dz : ((D.size : Int) == 0) = false := by rw [beq_eq_false_iff_ne]; omega
  rw [← hD]
  have D1 := Lib.hid hD
  clear hb3 si hci hD
  go_wp2_with fail
  refine (DI.out w3 B3.out PP.out.1).mono ?_
  rintro e w4 ⟨A4, c4, rfl, hc4, s4, b4⟩
  have B4 := Lib.hid (below_from B3.out b4)
  have SS := Lib.hid s4
  obtain ⟨ds, hds⟩ : ∃ ds, ds = distinct l := ⟨_, rfl⟩
  have m6 : ds.length ≤ 20 := by have h1 := distinct_len l; have h2 := PP.out.1; rw [hds]; omega
  have HD := Lib.hid hds
  rw [← hds] at SS hc4 ⊢
  have d1 : (ds.length : Int) ≤ 20 := by omega
  have d2 : (0 : Int) ≤ ds.length := by omega
  have d3 : (ds.length : Int) ≤ c4 := by omega
  clear s4 b4 DI hds
  go_wp2_with fail
  go_loopw [2, 5, 6, 24] (fun _ _ _ x wr => ∃ i : Nat, i ≤ ds.length ∧ x = .int .i64 i ∧ Below w4.heap.size w4 wr) (fun _ _ _ x _ => ds.length - (intOf x).toNat)
  case atStart => exact ⟨0, by omega, rfl, Below.refl _ _⟩
  case round =>
    obtain ⟨i, hi, rfl, hb⟩ := hrel
    have HB := Lib.hid hb
    have zb := hb.size
    have BW := Lib.hid (B4.out.trans (hb.mono B4.out.size))
    by_cases hlt : i < ds.length
    · obtain ⟨g, o, rfl, hcl⟩ := SlR.at_ (SS.out.here hb) i hlt
      have r0 := hcl 0 _ rfl
      rw [Nat.add_zero, Nat.mul_one] at r0
      have h0 : i < (sp l 0).length := by show i < (distinct l).length; rw [← HD.out]; exact hlt
      have T1 := Lib.hid (strT (K := K) PP.out (by rw [← HD.out]; omega))
      have RA := Lib.hid (show Calls Tryd.prog 9 #[.string D, .int .i64 0, .int .i64 i] wr (RetV (.string ds[i]) wr) from by
        have h1 := rawAt_any T1.out (HK.out.here BW.out).gv4 0 i (by decide) h0
        rw [← D1.out] at h1
        have h2 : (sp l 0)[i] = ds[i] := by simp only [HD.out]; rfl
        rw [h2] at h1
        exact h1)
      have AB := Lib.hid (fun (W : World) (hb : Below w.heap.size w W) => show Calls Tryd.prog 10 #[.string D, .int .i64 0, .int .i64 i] W (RetV (.int .i64 i) W) from by
        have h1 := absolute_any T1.out (HK.out.here hb).gv4 0 i (by decide) h0
        rw [← D1.out, show ((sp l).elems 0).length + i = i from by simp [Pk.elems, Pk.secs]] at h1
        exact h1)
      have j0 : (0 : Int) ≤ i := by omega
      have j1 : (i : Int) < ds.length := by omega
      clear hb hcl h0
      generalize ds[i] = x at *
      go_wp2_with fail
      refine RA.out.mono ?_
      rintro e w7 ⟨rfl, b7⟩
      have B7 := Lib.hid (HB.out.trans (b7.mono HB.out.size))
      have BW7 := Lib.hid (below_from BW.out b7)
      clear b7
      go_wp2_with fail
      refine (AB.out w7 BW7.out).mono ?_
      rintro e w8 ⟨rfl, b8⟩
      have B8 := Lib.hid (B7.out.trans (b8.mono B7.out.size))
      clear b8
      go_wp2_with fail
      go_roundw
      case rel => exact ⟨i + 1, by omega, by go_num, B8.out⟩
      case measure => simp [intOf]; omega
    · go_wp2_with fail
      go_returns
      exact ⟨rfl, BW.out⟩
end Go.Proofs.YtedjadicdodahaaDoor
