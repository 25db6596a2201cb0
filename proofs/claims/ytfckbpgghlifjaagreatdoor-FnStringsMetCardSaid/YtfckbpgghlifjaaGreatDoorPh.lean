/- How many elements a section has; an element's index. -/
import Derived.BigQuiet
import Derived.Test.YtfckbpgghlifjaaGreatDoorPg
namespace Go.Proofs.YtfckbpgghlifjaaGreatDoor
open Go.RowKit Go.Maps

def cntI (l : List El) (k : Int) : Int := if k = 0 then ((distinct (texts l)).length : Nat) else (countOf l k : Nat)
theorem countOf_snoc (l : List El) (x : El) (k : Int) : countOf (l ++ [x]) k = countOf l k + (if x.sec = k then 1 else 0) := by
  unfold countOf
  rw [List.filter_append, List.length_append]
  by_cases h : x.sec = k <;> simp [h]
theorem countOf_le (l : List El) (k : Int) : countOf l k ≤ l.length := List.length_filter_le _ _
set_option maxRecDepth 100000 in
set_option maxHeartbeats 2000000 in
theorem countOf_any (L : Sl El) (k : Int) (w : World) (hL : Els.In w L) (hok : ∀ x ∈ L.l, x.Ok) (hl : L.l.length ≤ 60) : Calls Tryz.prog 21 #[.slice L.A L.l.length L.c, .int .i64 k] w (RetV (.int .i64 (cntI L.l k)) w) := by
  by_cases h0 : k = 0
  · have T := Lib.hid (textsOf_any L w hL hok hl)
    have TL := Lib.hid (texts_len L.l hok)
    obtain ⟨A, c, l⟩ := L
    subst h0
    clear hL hok
    go_enter Tryz.func21, Tryz.ntmps21
    go_wp2_with fail
    refine T.out.mono ?_
    rintro e w1 ⟨A1, c1, rfl, hc1, s1, b1⟩
    have B1 := Lib.hid b1
    have D := Lib.hid (distinct_any A1 c1 (texts l) w1 s1 (by have h9 : (texts l).length ≤ 1200 * l.length := TL.out; have h8 : l.length ≤ 60 := hl; omega))
    clear s1 b1
    go_wp2_with fail
    refine D.out.mono ?_
    rintro e w2 ⟨A2, c2, rfl, hc2, _, b2⟩
    go_wp2_with fail
    go_ret
    exact ⟨rfl, below_from B1.out b2⟩
  obtain ⟨A, c, l⟩ := L
  replace hok : ∀ x ∈ l, x.Ok := hok
  replace hl : l.length ≤ 60 := hl
  show Calls Tryz.prog 21 #[.slice A l.length c, .int .i64 k] w (RetV (.int .i64 (cntI l k)) w)
  have n0 : (0 : Int) ≤ l.length := by omega
  have n1 : (l.length : Int) ≤ 60 := by omega
  have HL := Lib.hid hL
  have e0 : (k == 0) = false := by simpa using h0
  have HC := Lib.hid (show cntI l k = (countOf l k : Nat) from if_neg h0)
  clear hL hok h0
  go_enter Tryz.func21, Tryz.ntmps21
  go_wp2_with fail
  go_loopw [5, 16] (fun v i wr => ∃ j : Nat, j ≤ l.length ∧ i = .int .i64 j ∧ v = .int .i64 (countOf (l.take j) k : Nat) ∧ Below w.heap.size w wr) (fun _ i _ => l.length - (intOf i).toNat)
  case atStart => exact ⟨0, by omega, rfl, rfl, Below.refl _ _⟩
  case round =>
    obtain ⟨j, hj, rfl, rfl, hb⟩ := hrel
    have HB := Lib.hid hb
    have zb := hb.size
    by_cases hlt : j < l.length
    · obtain ⟨b, oo, rfl, hc⟩ := SlR.at_ (HL.out.here hb).l j hlt
      have TK := Lib.hid (show countOf (l.take (j + 1)) k = countOf (l.take j) k + (if l[j].sec = k then 1 else 0) from by rw [List.take_succ_eq_append_getElem hlt, countOf_snoc])
      have hcl : countOf (l.take j) k ≤ 60 := Nat.le_trans (countOf_le _ _) (by rw [List.length_take]; omega)
      obtain ⟨m, hm⟩ : ∃ m, m = countOf (l.take j) k := ⟨_, rfl⟩
      rw [← hm] at TK hcl ⊢
      have q0 := hc 0 _ rfl
      have q1 := hc 1 _ rfl
      have q2 := hc 2 _ rfl
      rw [Nat.add_zero] at q0
      clear hb hc hm
      generalize l[j] = x at *
      obtain ⟨sec, mark, ⟨BA, bc, bl⟩⟩ := x
      have B1 := Lib.hid (fun s => HB.out.alloc zb (.cells #[.int .i64 s, .int .i64 mark, .slice BA bl.length bc] 24))
      by_cases hs : sec = k
      · have HT := Lib.hid (show countOf (l.take (j + 1)) k = m + 1 from by rw [TK.out]; show m + (if sec = k then 1 else 0) = _; rw [if_pos hs])
        have e1 : (sec == k) = true := by simpa using hs
        go_wp2_with fail
        go_roundw
        case rel => exact ⟨j + 1, by omega, by go_num, by rw [HT.out]; go_num, B1.out _⟩
        case measure => simp [intOf]; omega
      · have HT := Lib.hid (show countOf (l.take (j + 1)) k = m from by rw [TK.out]; show m + (if sec = k then 1 else 0) = _; rw [if_neg hs]; omega)
        have e1 : (sec == k) = false := by simpa using hs
        go_wp2_with fail
        go_roundw
        case rel => exact ⟨j + 1, by omega, by go_num, by rw [HT.out], B1.out _⟩
        case measure => simp [intOf]; omega
    · have hjn : j = l.length := by omega
      have HA := Lib.hid (List.take_of_length_le (Nat.le_of_eq hjn.symm) : l.take j = l)
      rw [HA.out]
      go_wp2_with fail
      go_ret
      exact ⟨by rw [HC.out]; rfl, HB.out⟩
theorem Els.In.take {w : World} {L : Sl El} (h : Els.In w L) (n : Nat) : Els.In w ⟨L.A, L.c, L.l.take n⟩ := by
  refine ⟨fun h0 => ?_, fun x hx => h.sub x (List.mem_of_mem_take hx), Nat.le_trans (by show (L.l.take n).length ≤ _; rw [List.length_take]; omega) h.len⟩
  simp only [List.length_map, List.length_take] at h0
  obtain ⟨b, o, e, hc⟩ := h.l (by rw [List.length_map]; omega)
  refine ⟨b, o, e, fun j cs hj => hc j cs ?_⟩
  simp only [List.getElem?_map] at hj ⊢
  obtain ⟨x, hx, rfl⟩ := Option.map_eq_some_iff.1 hj
  have h1 : j < n := by
    have h9 := (List.getElem?_eq_some_iff.1 hx).1
    rw [List.length_take] at h9
    omega
  rw [List.getElem?_take_of_lt h1] at hx
  rw [hx]
  rfl
set_option maxRecDepth 100000 in
set_option maxHeartbeats 2000000 in
theorem indexOf_any (L : Sl El) (i : Nat) (w : World) (hL : Els.In w L) (hok : ∀ x ∈ L.l, x.Ok) (hl : L.l.length ≤ 60) (hc : L.l.length ≤ L.c) (hi : i < L.l.length) : Calls Tryz.prog 20 #[.slice L.A L.l.length L.c, .int .i64 i] w (RetV (.int .i64 (cntI (L.l.take i) L.l[i].sec)) w) := by
  have C := Lib.hid (fun (W : World) (hb : Below w.heap.size w W) (k : Int) => countOf_any ⟨L.A, L.c, L.l.take i⟩ k W ((hL.take i).here hb) (fun x hx => hok x (List.mem_of_mem_take hx)) (by show (L.l.take i).length ≤ _; rw [List.length_take]; omega))
  obtain ⟨A, c, l⟩ := L
  replace hl : l.length ≤ 60 := hl
  replace hc : l.length ≤ c := hc
  replace hi : i < l.length := hi
  obtain ⟨b, oo, rfl, hcl⟩ := SlR.at_ hL.l i hi
  have q0 := hcl 0 _ rfl
  rw [Nat.add_zero] at q0
  have q1 : w.cell? ⟨b, oo + i * 3, none⟩ = some (.int .i64 l[i].sec) := q0
  have IL := Lib.hid (show (l.take i).length = i from by rw [List.length_take]; omega)
  have hC := fun (W : World) (hb : Below w.heap.size w W) (k : Int) => (show Calls Tryz.prog 21 #[.slice (some ⟨b, oo, none⟩) i c, .int .i64 k] W (RetV (.int .i64 (cntI (l.take i) k)) W) from by have h9 := C.out W hb k; simp only [IL.out] at h9; exact h9)
  have CC := Lib.hid hC
  show Calls Tryz.prog 20 #[.slice (some ⟨b, oo, none⟩) l.length c, .int .i64 i] w (RetV (.int .i64 (cntI (l.take i) l[i].sec)) w)
  obtain ⟨sec, hsec⟩ : ∃ sec, sec = l[i].sec := ⟨_, rfl⟩
  rw [← hsec] at q1 ⊢
  obtain ⟨n, hn⟩ : ∃ n, n = l.length := ⟨_, rfl⟩
  rw [← hn] at hl hc hi ⊢
  have i0 : (0 : Int) ≤ i := by omega
  have i1 : (i : Int) < n := by omega
  have i2 : (n : Int) ≤ c := by omega
  have i3 : (i : Int) ≤ c := by omega
  clear hL hok hcl q0 hsec hC C hn IL
  go_enter Tryz.func20, Tryz.ntmps20
  go_upto_region 1 with fail
  have q2 : w.drew.cell? ⟨b, oo + i * 3, none⟩ = some (.int .i64 sec) := q1
  go_region_held3 (fun W => W.cell? ⟨b, oo + i * 3, none⟩ = some (.int .i64 sec)) (first | exact q2 | exact q3 | go_keep)
    (first | (go_at_call 21; refine (CC.out w.drew (Below.drew (Below.refl _ _)) _).mono ?_; rintro e w1 ⟨rfl, b1⟩; have q3 := keep_cell b1 q2))
  all_goals
    go_wp2_with fail
    go_ret
    exact ⟨rfl, (Below.drew (Below.refl _ _)).trans b1⟩
end Go.Proofs.YtfckbpgghlifjaaGreatDoor
