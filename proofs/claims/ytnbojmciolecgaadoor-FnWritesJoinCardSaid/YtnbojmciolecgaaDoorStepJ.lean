/- The law on what is written in two goes. -/
import Derived.Test.YtnbojmciolecgaaDoorStepL
namespace Go.Proofs.YtnbojmciolecgaaDoor
open Go.RowKit

section
variable {α : Type} {f : α → List Value} {n : Nat}
theorem flat_len : ∀ (l : List α) (_ : ∀ x ∈ l, (f x).length = n), (l.flatMap f).length = l.length * n
  | [], _ => by simp
  | x :: l, hf => by
    rw [List.flatMap_cons, List.length_append, hf x (by simp), flat_len l (fun y hy => hf y (List.mem_cons_of_mem _ hy)), List.length_cons, Nat.succ_mul]
    omega
theorem flat_get : ∀ (l : List α) (_ : ∀ x ∈ l, (f x).length = n) (k : Nat) (h : k < l.length) (j : Nat) (_ : j < n), (l.flatMap f)[k * n + j]? = (f l[k])[j]?
  | [], _, k, h, _, _ => by simp at h
  | x :: l, hf, 0, _, j, hj => by
    rw [List.flatMap_cons, Nat.zero_mul, Nat.zero_add, List.getElem?_append_left (by rw [hf x (by simp)]; exact hj)]
    rfl
  | x :: l, hf, k + 1, h, j, hj => by
    have hx := hf x (by simp)
    rw [List.flatMap_cons, List.getElem?_append_right (by rw [hx, Nat.succ_mul]; omega), hx, show (k + 1) * n + j - n = k * n + j from by rw [Nat.succ_mul]; omega]
    exact flat_get l (fun y hy => hf y (List.mem_cons_of_mem _ hy)) k (by simpa using h) j hj
/-- A list handed in, as the source of append. -/
theorem SlR.src {w : World} {A : Option Addr} {l : List α} (h : SlR n w A (l.map f)) (hf : ∀ x ∈ l, (f x).length = n) : 0 < l.length → ∃ ad, A = some ad ∧ ∀ j u, (l.flatMap f)[j]? = some u → w.cell? (ad.add j) = some u := fun h0 => by
  obtain ⟨b, o, e, hc⟩ := h (by simpa using h0)
  refine ⟨_, e, fun i u hu => ?_⟩
  have hi := (List.getElem?_eq_some_iff.1 hu).1
  rw [flat_len l hf] at hi
  have hn : 0 < n := by
    rcases Nat.eq_zero_or_pos n with h1 | h1
    · subst h1; simp at hi
    · exact h1
  have hk : i / n < l.length := Nat.div_lt_of_lt_mul (by rw [Nat.mul_comm]; exact hi)
  have hij : i / n * n + i % n = i := by rw [Nat.mul_comm]; exact Nat.div_add_mod i n
  have hg := flat_get l hf (i / n) hk (i % n) (Nat.mod_lt _ hn)
  rw [hij, hu] at hg
  rw [add_at, ← hij, ← Nat.add_assoc]
  exact hc (i / n) (f l[i / n]) (by rw [List.getElem?_map, List.getElem?_eq_getElem hk]; rfl) (i % n) u hg.symm
/-- A row of the call's own, as a list. -/
theorem SlR.of_own {w : World} {base m c : Nat} {e : TypeId} {A : Option Addr} {l : List α} (h : w.ownsRow base e n (.slice A m c) m (l.flatMap f)) (hf : ∀ x ∈ l, (f x).length = n) (hm : m = l.length) : SlR n w A (l.map f) := fun h0 => by
  subst hm
  rcases h.2 with ⟨h1, h2⟩ | ⟨g, cap, cur, hv, _⟩
  · rw [List.length_map] at h0; omega
  · injection hv with h1 _ _
    subst h1
    refine ⟨g, 0, rfl, fun j cs hj i u hu => ?_⟩
    rw [List.getElem?_map, Option.map_eq_some_iff] at hj
    obtain ⟨x, hx, rfl⟩ := hj
    obtain ⟨hj', rfl⟩ := List.getElem?_eq_some_iff.1 hx
    have hi := (List.getElem?_eq_some_iff.1 hu).1
    have hlen := hf l[j] (List.getElem_mem hj')
    have hg := flat_get l hf j hj' i (by omega)
    rw [hu] at hg
    have := h.cells (g := g) rfl (j * n + i) u hg
    rw [add_at] at this
    rwa [show 0 + j * n + i = 0 + (j * n + i) from by omega]
theorem flat_one (l : List α) (h : ∀ x ∈ l, ∀ v ∈ f x, v.oneCell' = true) : ∀ v ∈ l.flatMap f, v.oneCell' = true := fun v hv => by
  obtain ⟨x, hx, hv⟩ := List.mem_flatMap.1 hv
  exact h x hx v hv
end
theorem St.len (s : St) : s.cells.length = 3 := rfl
theorem St.one (s : St) : ∀ v ∈ s.cells, v.oneCell' = true := by simp [St.cells, Value.oneCell']
theorem Tryd.infoSt : (Tryd.prog.info? 64).map (fun i => (i.zero, i.size, i.bytes)) = some (some (stVal 0 0 ⟨#[]⟩), 3, 32) := by kernel_rfl

set_option maxRecDepth 100000 in
set_option maxHeartbeats 2000000 in
theorem fnWritesJoin_walk (A D : Option Addr) (c d : Nat) (xs ys : List St) (w : World) (hs : SlSt w A xs) (hs' : SlSt w D ys) (ok : ∀ s ∈ xs, s.Ok) (ok' : ∀ s ∈ ys, s.Ok) (hm : xs.length ≤ maxLen) (hm' : ys.length ≤ maxLen) :
    Calls Tryd.prog 10 #[.slice A xs.length c, .slice D ys.length d] w (LawEnd w) := by
  obtain ⟨i0, hi, hz0, hz1, hz2⟩ := info_parts Tryd.infoSt
  have HS := Lib.hid hs
  have HT := Lib.hid hs'
  have HM := Lib.hid hm
  have HN := Lib.hid hm'
  clear hs hs' hm hm'
  go_enter Tryd.func10, Tryd.ntmps10
  go_wp2_with fail
  refine (zz16_any A c xs _ HS.out ok HM.out).mono ?_
  rintro e w1 ⟨b1, rfl, _, hb1⟩
  rcases b1 with _ | _
  · go_wp2_with fail
    go_returns
    exact ⟨rfl, hb1⟩
  have S1 := Lib.hid (HS.out.here hb1)
  have T1 := Lib.hid (HT.out.here hb1)
  have B1 := Lib.hid hb1
  clear hb1 HS HT
  go_wp2_with fail
  refine (zz16_any D d ys _ T1.out ok' HN.out).mono ?_
  rintro e w2 ⟨b2, rfl, _, hb2⟩
  rcases b2 with _ | _
  · go_wp2_with fail
    go_returns
    exact ⟨rfl, below_from B1.out hb2⟩
  have S2 := Lib.hid (S1.out.here hb2)
  have T2 := Lib.hid (T1.out.here hb2)
  have B2 := Lib.hid (below_from B1.out hb2)
  clear hb2 S1 T1 B1
  go_wp2_with fail
  refine (stepsOk_any A c xs _ S2.out ok HM.out).mono ?_
  rintro e w3 ⟨b3, rfl, hP, hb3⟩
  rcases b3 with _ | _
  · clear hP
    go_wp2_with fail
    go_returns
    exact ⟨rfl, below_from B2.out hb3⟩
  obtain ⟨ht, hl⟩ := hP rfl
  have HX := Lib.hid ht
  have S3 := Lib.hid (S2.out.here hb3)
  have T3 := Lib.hid (T2.out.here hb3)
  have B3 := Lib.hid (below_from B2.out hb3)
  clear hb3 S2 T2 B2 ht hP
  go_wp2_with fail
  refine (stepsOk_any D d ys _ T3.out ok' HN.out).mono ?_
  rintro e w4 ⟨b4, rfl, hP, hb4⟩
  rcases b4 with _ | _
  · clear hP
    go_wp2_with fail
    go_returns
    exact ⟨rfl, below_from B3.out hb4⟩
  obtain ⟨ht, hl'⟩ := hP rfl
  have HY := Lib.hid ht
  have S4 := Lib.hid (S3.out.here hb4)
  have T4 := Lib.hid (T3.out.here hb4)
  have B4 := Lib.hid (below_from B3.out hb4)
  clear hb4 S3 T3 B3 ht hP
  go_wp2_with fail
  refine (writeSteps_any A c xs _ S4.out ok HX.out (by omega)).mono ?_
  rintro e w5 ⟨A5, c5, A5', c5', rfl, s5, k5, _, hb5⟩
  have h1 := stsBytes_length xs HX.out
  obtain ⟨us, hus⟩ : ∃ us, us = xs.flatMap St.bytes := ⟨_, rfl⟩
  rw [← hus] at s5 k5 h1 ⊢
  have HU := Lib.hid hus
  clear hus
  have D5 := Lib.hid s5
  have K5 := Lib.hid k5
  have S5 := Lib.hid (S4.out.here hb5)
  have T5 := Lib.hid (T4.out.here hb5)
  have B5 := Lib.hid (below_from B4.out hb5)
  clear hb5 S4 T4 B4 s5 k5
  go_wp2_with fail
  refine (writeSteps_any D d ys _ T5.out ok' HY.out (by omega)).mono ?_
  rintro e w6 ⟨A6, c6, A6', c6', rfl, s6, k6, _, hb6⟩
  have h2 := stsBytes_length ys HY.out
  obtain ⟨vs, hvs⟩ : ∃ vs, vs = ys.flatMap St.bytes := ⟨_, rfl⟩
  rw [← hvs] at s6 k6 h2 ⊢
  have HV := Lib.hid hvs
  clear hvs
  have D6 := Lib.hid (D5.out.here hb6)
  have E6 := Lib.hid s6
  have K6 := Lib.hid k6
  have S6 := Lib.hid (S5.out.here hb6)
  have T6 := Lib.hid (T5.out.here hb6)
  have B6 := Lib.hid (below_from B5.out hb6)
  clear hb6 S5 T5 B5 D5 s6 k6
  have oe := World.ownsRow_made (base := w6.heap.size) (e := 64) (size := 3) w6 #[] 0 (Nat.le_refl _) (by simp) (by simp)
  have O6 := Lib.hid oe
  have hba : Below w6.heap.size w6 (w6.alloc (.cells #[] 64)) := by (repeat' (first | (with_reducible exact Below.refl _ _) | (with_reducible assumption) | (with_reducible refine below_drewN ?_ _) | (with_reducible refine Below.alloc ?_ ?_ _) | (with_reducible refine Below.drew ?_) | (with_reducible refine Below.setCell ?_ ?_ _) | go_size))
  have BA := Lib.hid hba
  clear oe hba
  go_wp2_with (first
    | (at_builtin; refine wpList_append_sl rfl (.tmp 38) (.tmp 39) 58 rfl w6.heap.size 64 i0 _ 3 32 Tryd.underlying58 hi hz0 hz1 hz2 rfl (by decide) _ 0 _ rfl O6.out A xs.length c (xs.flatMap St.cells) rfl (flat_len xs (fun s _ => s.len)) (SlR.src (S6.out.here BA.out) (fun s _ => s.len)) (flat_one xs (fun s _ => s.one)) (by unfold maxLen; omega) (by omega) (by simp) ?_; intro A7 c7 w7 hown7 hgrow7; rw [Nat.zero_add, List.nil_append] at hown7; rw [Nat.zero_add]; have O7 := Lib.hid hown7; have B7 := Lib.hid (below_own BA.out O6.out hgrow7 (by simp)))
    | (at_builtin; refine wpList_append_sl rfl (.tmp 40) (.tmp 41) 58 rfl w6.heap.size 64 i0 _ 3 32 Tryd.underlying58 hi hz0 hz1 hz2 rfl (by decide) _ _ _ rfl O7.out D ys.length d (ys.flatMap St.cells) rfl (flat_len ys (fun s _ => s.len)) (SlR.src (T6.out.here B7.out) (fun s _ => s.len)) (flat_one ys (fun s _ => s.one)) (by unfold maxLen; omega) (by omega) B7.out.size ?_; intro A8 c8 w8 hown8 hgrow8; have O8 := Lib.hid hown8; have B8 := Lib.hid (below_own B7.out O7.out hgrow8 B7.out.size)))
  have o8 := O8.out
  rw [← List.flatMap_append] at o8
  have S8 := Lib.hid (SlR.of_own o8 (fun s _ => s.len) List.length_append.symm)
  have F8 := Lib.hid (below_from B6.out (⟨B8.out.os, B8.out.tape, B8.out.output, B8.out.size, B8.out.block⟩ : Below w6.heap.size w6 w8))
  have hws := writeSteps_any A8 c8 (xs ++ ys) w8 S8.out (fun s hs => (List.mem_append.1 hs).elim (ok s) (ok' s)) (fun s hs => (List.mem_append.1 hs).elim (HX.out s) (HY.out s)) (by simp; omega)
  have D8 := Lib.hid (D6.out.here B8.out)
  have E8 := Lib.hid (E6.out.here B8.out)
  unfold RetSteps at hws
  rw [List.length_append, List.flatMap_append, ← HU.out, ← HV.out] at hws
  clear o8 O8 O7 O6 B7 B8 BA D6 E6 S6 T6 B6
  refine hws.mono ?_
  rintro e w9 ⟨A9, c9, A9', c9', rfl, s9, k9, _, hb9⟩
  have D9 := Lib.hid (D8.out.here hb9)
  have E9 := Lib.hid (E8.out.here hb9)
  have B9 := Lib.hid (below_from F8.out hb9)
  obtain ⟨n, hn⟩ : ∃ n, n = (us ++ vs).length := ⟨_, rfl⟩
  rw [← hn] at k9 ⊢
  have hn' : n = us.length + vs.length := by rw [hn, List.length_append]
  have S9 := Lib.hid s9
  have NN := Lib.hid hn
  have hnb : n ≤ 100000 := by omega
  clear s9 k9 hb9 D8 E8 F8 hws hn hn'
  go_wp2_with fail
  refine (joined_B _ _ [us, vs] _ (by have h := slS_new w9 29 [(A5, c5, us), (A6, c6, vs)] (by simp only [List.forall_mem_cons]; exact ⟨⟨D9.out, K5.out⟩, ⟨E9.out, K6.out⟩, by simp⟩); exact h) (by simp) (by simp; omega)).mono ?_
  rintro e w10 ⟨A10, c10, rfl, s10, k10, hb10⟩
  have hb910 := below_from (later_alloc w9 _) hb10
  have S10 := Lib.hid (S9.out.here hb910)
  have hf : [us, vs].flatten = us ++ vs := by simp
  rw [hf] at s10 k10 ⊢
  rw [← NN.out] at k10 ⊢
  have T10 := Lib.hid s10
  have B10 := Lib.hid (below_from B9.out hb910)
  clear s10 k10 hb10 hb910 hf D9 E9 S9 B9
  go_wp2_with fail
  have hsb := sameBytes_any A9 A10 c9 c10 (us ++ vs) w10 S10.out T10.out (by rw [← NN.out]; unfold maxLen; omega)
  rw [← NN.out] at hsb
  refine hsb.mono ?_
  rintro e w11 ⟨rfl, n11, rfl⟩
  clear hsb
  have e1 : ((xs.length : Int) + (ys.length : Int)) ≤ 200 := by omega
  go_wp2_with fail
  go_returns
  exact ⟨by simp, below_drewN B10.out n11⟩

theorem fnWritesJoin_any {H : Type} {enc : TypeId × Value → H} (A : Option Addr) (l c : Nat) (D : Option Addr) (m d : Nat) (w : World) (h : Rd enc Tryd.prog w 58 [.slice A l c]) (h' : Rd enc Tryd.prog w 58 [.slice D m d]) :
    Calls Tryd.prog 10 #[.slice A l c, .slice D m d] w (LawEnd w) := by
  obtain ⟨xs, rfl, _, hm, hs, ok⟩ := Rd.steps h
  obtain ⟨ys, rfl, _, hm', hs', ok'⟩ := Rd.steps h'
  exact fnWritesJoin_walk A D c d xs ys w hs hs' ok ok' hm hm'
end Go.Proofs.YtnbojmciolecgaaDoor
