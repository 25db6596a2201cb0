/- Laws on packages: strings, told and read. (printed by gen_pl.py) -/
import Derived.BigRegion
import Derived.Test.YtedjadicdodahaaDoorPl4
import Derived.Test.YtedjadicdodahaaDoorDh
namespace Go.Proofs.YtedjadicdodahaaDoor
open Go.RowKit Go.Maps

theorem idx_put {α : Type} [DecidableEq α] (l : List α) (x : α) : idx (put l x) x = idx l x := by
  by_cases hm : x ∈ l
  · rw [put_of_mem hm]
  · rw [put_of_not hm, idx_of_not hm]
    unfold idx
    rw [List.idxOf_append, if_neg hm, List.idxOf_cons_self]
    omega
theorem idx_pre {α : Type} [DecidableEq α] {l k : List α} {t : α} (h : l <+: k) (hm : t ∈ l) : idx k t = idx l t := by
  obtain ⟨r, rfl⟩ := h
  unfold idx
  rw [List.idxOf_append, if_pos hm]
theorem distinct_pre (l : List ByteArray) (i : Nat) : distinct (l.take i) <+: distinct l := by
  have h : ∀ (m d : List ByteArray), d <+: m.foldl put d := fun m => by
    induction m with
    | nil => intro d; exact List.prefix_refl _
    | cons x m ih => intro d; exact (put_pre d x).trans (ih (put d x))
  have h1 := h (l.drop i) (distinct (l.take i))
  have h2 : (l.drop i).foldl put (distinct (l.take i)) = distinct l := by
    unfold distinct
    rw [← List.foldl_append, List.take_append_drop]
  rw [h2] at h1
  exact h1
/-- A text's index among the distinct ones is the one that was told. -/
theorem idx_told (l : List ByteArray) (i : Nat) (h : i < l.length) : placeI (distinct l) l[i] = (idx (distinct (l.take i)) l[i] : Nat) ∧ (distinct l)[idx (distinct (l.take i)) l[i]]? = some l[i] := by
  have h1 : distinct (l.take (i + 1)) = put (distinct (l.take i)) l[i] := by rw [List.take_succ_eq_append_getElem h, distinct_snoc]
  have h2 := distinct_pre l (i + 1)
  rw [h1] at h2
  have h3 := mem_put (distinct (l.take i)) l[i]
  have h4 := idx_put (distinct (l.take i)) l[i]
  refine ⟨?_, pre_at h2 (put_at _ _)⟩
  unfold placeI
  rw [if_pos (h2.subset h3), idx_pre h2 h3, h4]
theorem b8_of {w w7 w8 : World} (h : Below w7.heap.size w7 w8) (k : Below w.heap.size w w7) : Below w.heap.size w7 w8 := h.mono k.size
theorem ixs_at (l : List ByteArray) (i : Nat) (h : i < l.length) : (ixs l)[i]? = some (idx (distinct (l.take i)) l[i] : Int) := by
  unfold ixs
  rw [List.getElem?_map, List.getElem?_range h, Option.map_some, List.getElem?_eq_getElem h, Option.getD_some]
set_option maxRecDepth 100000 in
set_option maxHeartbeats 1000000 in
theorem fnStrings_any {H : Type} {enc : TypeId × Value → H} (A : Option Addr) (n c : Nat) (w : World) (f : Rd enc Tryd.prog w 22 [.slice A n c]) (hG : ∃ K, Gl K w) :
    Calls Tryd.prog 4 #[.slice A n c] w (LawEnd w) := by
  obtain ⟨K, hK⟩ := hG
  obtain ⟨⟨_, _, l⟩, hv, hs, hk, hm⟩ := Rd.strs f
  injection hv with e1 e2 e3
  subst e1 e2 e3
  replace hs : SlR 1 w A (l.map strCells) := hs
  replace hm : l.length ≤ maxLen := hm
  show Calls Tryd.prog 4 #[.slice A l.length c] w (LawEnd w)
  have Z1 := Lib.hid (zz5_any A c l w hs hk hm)
  have PO := Lib.hid (fun (W : World) (hb : Below w.heap.size w W) => shortTexts_any A c l W (hs.here hb) hk hm)
  have PA := Lib.hid (fun (W : World) (hb : Below w.heap.size w W) (hp : l.length ≤ 20 ∧ ∀ t ∈ l, t.size ≤ 200) => strings_any A c l W (hK.here hb) (hs.here hb) hp.1 hp.2)
  have DI := Lib.hid (fun (W : World) (hb : Below w.heap.size w W) (hp : l.length ≤ 20) => distinct_any A c l W (hs.here hb) (by omega))
  unfold maxLen at hm
  have n0 : (0 : Int) ≤ l.length := by omega
  have n1 : (l.length : Int) ≤ 9223372036854775807 := by omega
  have HS := Lib.hid hs
  have HK := Lib.hid hK
  clear f hs hK hm hk
  go_enter Tryd.func4, Tryd.ntmps4
  go_wp2_with fail
  refine Z1.out.mono ?_
  rintro e w1 ⟨b1, rfl, _, hb1⟩
  have B1 := Lib.hid hb1
  clear hb1 Z1
  rcases b1 with _ | _
  · go_wp2_with fail
    go_returns
    exact ⟨rfl, B1.out⟩
  go_wp2_with fail
  refine (PO.out w1 B1.out).mono ?_
  rintro e w2 ⟨b2, rfl, hp2, hb2⟩
  have B2 := Lib.hid (below_from B1.out hb2)
  clear hb2 PO B1
  rcases b2 with _ | _
  · go_wp2_with fail
    go_returns
    exact ⟨rfl, B2.out⟩
  by_cases hl0 : (l.length : Int) = 0
  · have hz0 : ((l.length : Int) == 0) = true := by rw [hl0]; rfl
    go_wp2_with fail
    go_returns
    exact ⟨rfl, B2.out⟩
  have hz0 : ((l.length : Int) == 0) = false := by rw [beq_eq_false_iff_ne]; exact hl0
  have PP := Lib.hid (hp2 rfl)
  clear hp2
  go_wp2_with fail
  refine (PA.out w2 B2.out PP.out).mono ?_
  rintro e w3 ⟨Ai, ci, rfl, hci, si, hb3⟩
  have B3 := Lib.hid (below_from B2.out hb3)
  obtain ⟨D, hD⟩ : ∃ D, D = strS K l := ⟨_, rfl⟩
  have d0 : (0 : Int) < D.size := by
    have h1 := strS_pos K l
    rw [← hD] at h1
    omega
  have dz : ((D.size : Int) == 0) = false := by rw [beq_eq_false_iff_ne]; omega
  rw [← hD]
  have D1 := Lib.hid hD
  have SI := Lib.hid si
  have hc9 : (l.length : Int) ≤ ci := by omega
  clear hb3 si hci hD
  go_wp2_with fail
  refine (DI.out w3 B3.out PP.out.1).mono ?_
  rintro e w4 ⟨A4, c4, rfl, hc4, s4, b4⟩
  have B4 := Lib.hid (below_from B3.out b4)
  have SS := Lib.hid s4
  have SI4 := Lib.hid (SI.out.here b4)
  obtain ⟨ds, hds⟩ : ∃ ds, ds = distinct l := ⟨_, rfl⟩
  have m6 : ds.length ≤ 20 := by have h1 := distinct_len l; have h2 := PP.out.1; rw [hds]; omega
  have l20 : (l.length : Int) ≤ 20 := by have := PP.out.1; omega
  have HD := Lib.hid hds
  have IT := Lib.hid (idx_told l)
  have IA := Lib.hid (ixs_at l)
  rw [← hds] at SS hc4 IT ⊢
  have d1 : (ds.length : Int) ≤ 20 := by omega
  have d2 : (0 : Int) ≤ ds.length := by omega
  have d3 : (ds.length : Int) ≤ c4 := by omega
  have IXL := Lib.hid (ixs_len l)
  have EL := Lib.hid (fun (W : World) (hb : Below w.heap.size w W) (h1 : 1 ≤ ds.length) => show Calls Tryd.prog 13 #[.string D, .int .i64 0] W (RetV (.int .i64 ds.length) W) from by
    have h2 := elements_any (strT (K := K) PP.out (by rw [← HD.out]; exact h1)) (HK.out.here hb).gv4 0 (by decide)
    rw [← D1.out] at h2
    have h3 : (sp l 0).length = ds.length := by rw [HD.out]; rfl
    rw [h3] at h2
    exact h2)
  clear s4 b4 DI hds SI
  go_wp2_with fail
  go_loopw [2, 6, 7, 38] (fun _ _ _ x wr => ∃ i : Nat, i ≤ l.length ∧ x = .int .i64 i ∧ Below w4.heap.size w4 wr) (fun _ _ _ x _ => l.length - (intOf x).toNat)
  case atStart => exact ⟨0, by omega, rfl, Below.refl _ _⟩
  case round =>
    obtain ⟨i, hi, rfl, hb⟩ := hrel
    have HB := Lib.hid hb
    have zb := hb.size
    have BW := Lib.hid (B4.out.trans (hb.mono B4.out.size))
    by_cases hlt : i < l.length
    · obtain ⟨g, o, rfl, hcl⟩ := SlR.at_ (HS.out.here BW.out) i hlt
      have r0 := hcl 0 _ rfl
      rw [Nat.add_zero, Nat.mul_one] at r0
      obtain ⟨t1, t2⟩ := IT.out i hlt
      have IAI := Lib.hid (IA.out i hlt)
      obtain ⟨y, hy⟩ : ∃ y, y = idx (distinct (l.take i)) l[i] := ⟨_, rfl⟩
      rw [← hy] at t1 t2 IAI
      have hyd : y < ds.length := (List.getElem?_eq_some_iff.1 t2).1
      have h0 : y < (sp l 0).length := by show y < (distinct l).length; rw [← HD.out]; exact hyd
      have STA := Lib.hid (fun (W : World) (hb : Below w.heap.size w W) => show Calls Tryd.prog 12 #[.string D, .int .i64 y] W (RetV (.string l[i]) W) from by
        have h1 := stringAt_any (strT (K := K) PP.out (by rw [← HD.out]; omega)) (HK.out.here hb).gv4 y h0
        rw [← D1.out] at h1
        have h2 : (sp l 0)[y] = l[i] := by
          have h3 : ds[y]? = some ((sp l 0)[y]) := by rw [HD.out]; exact List.getElem?_eq_getElem h0
          rw [h3] at t2
          exact Option.some.inj t2
        rw [h2] at h1
        exact h1)
      have PLC := Lib.hid (fun (W : World) (hb : Below w4.heap.size w4 W) => show Calls Tryd.prog 11 #[.slice A4 ds.length c4, .string l[i]] W (RetV (.int .i64 y) W) from by
        have h1 := placeOf_any A4 c4 ds l[i] W (SS.out.here hb) (by unfold maxLen; omega)
        rw [t1] at h1
        exact h1)
      obtain ⟨g2, o2, rfl, hcl2⟩ := SI4.out (by rw [List.length_map, IXL.out]; omega)
      have q6 := keep_cell hb (hcl2 i _ (by rw [List.getElem?_map, IAI.out]; rfl))
      have s6 : wr.drew.cell? ⟨g2, o2 + i, none⟩ = some (.int .i64 y) := q6
      have j0 : (0 : Int) ≤ i := by omega
      have j1 : (i : Int) < l.length := by omega
      clear hb hcl h0 hcl2 t1 t2 hy hyd q6
      generalize l[i] = x at *
      go_upto_region 12 with fail
      go_region_held3 (fun W => W.cell? ⟨g2, o2 + i, none⟩ = some (.int .i64 y)) (first | exact s6 | exact s7 | exact s8 | go_keep)
        (first | (go_at_call 11; refine (PLC.out _ HB.out.drew).mono ?_; rintro e w7 ⟨rfl, b7⟩; have s7 := keep_cell b7 s6; have B7 := Lib.hid b7; clear b7) | (go_at_call 12; refine (STA.out w7 (below_from BW.out.drew B7.out)).mono ?_; rintro e w8 ⟨rfl, b8⟩; have s8 := keep_cell b8 s7; have B8 := Lib.hid b8; clear b8))
      all_goals
        have B9 := Lib.hid (HB.out.trans ((((Below.drew (Below.refl _ _)).trans B7.out).trans (b8_of B8.out B7.out)).mono HB.out.size))
        clear s7 s8
        go_wp2_with fail
        go_roundw
        case rel => exact ⟨i + 1, by omega, by go_num, B9.out⟩
        case measure => simp [intOf]; omega
    · have hd1 : 1 ≤ ds.length := by
        have h1 : 0 < l.length := by omega
        have h2 := (IT.out 0 h1).2
        have h3 := (List.getElem?_eq_some_iff.1 h2).1
        omega
      have EE := Lib.hid (EL.out wr BW.out hd1)
      clear hb
      go_wp2_with fail
      refine EE.out.mono ?_
      rintro e w9 ⟨rfl, b9⟩
      have B9 := Lib.hid (below_from BW.out b9)
      clear b9
      go_wp2_with fail
      go_returns
      exact ⟨by simp, B9.out⟩
end Go.Proofs.YtedjadicdodahaaDoor
