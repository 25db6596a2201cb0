/- Slices handed in, as lists. -/
import Derived.Test.YtedjadicdodahaaGreatDoorRead
import Derived.Test.YtedjadicdodahaaGreatDoorSl
namespace Go.Proofs.YtedjadicdodahaaGreatDoor
open Go.ChangeShapes Go.WideShapes Go.ChangeAt Go.RowKit

theorem add_spot {w : World} {a : Addr} {v : Value} (h : w.cell? (a.add 0) = some v) : a = ⟨a.block, a.off, none⟩ := by
  have h0 : a.spot = none := by simpa [Addr.add] using World.cell?_spot h
  obtain ⟨b, o, s⟩ := a
  simp only at h0
  subst h0
  rfl
theorem add_at (b o j : Nat) : (⟨b, o, none⟩ : Addr).add j = ⟨b, o + j, none⟩ := by unfold Addr.add; split <;> simp_all

/-- A slice of integers handed in. -/
theorem Rd.ints {H : Type} {enc : TypeId × Value → H} {P : Program} {w : World} {t e : TypeId} {k : IntKind} {A : Option Addr} {l c : Nat} (ht : P.underlying t = some (.slice e)) (he : P.underlying e = some (.int k)) (hc : P.cellsOf e = 1) (h : Rd enc P w t [.slice A l c]) :
    ∃ xs : List Int, l = xs.length ∧ SlI k w A xs ∧ l ≤ c ∧ (∀ z ∈ xs, (Lit.int k z).wf = true) ∧ l ≤ maxLen := by
  rcases Rd.slice ht h with h0 | ⟨a, len, cap, h0, hl, hml, hi⟩
  · simp only [List.cons.injEq, Value.slice.injEq, and_true] at h0
    obtain ⟨rfl, rfl, rfl⟩ := h0
    exact ⟨[], rfl, SlI.nil _ _ _, Nat.le_refl _, by simp, Nat.zero_le _⟩
  · simp only [List.cons.injEq, Value.slice.injEq, and_true] at h0
    obtain ⟨rfl, rfl, rfl⟩ := h0
    have hz : ∀ i, i < l → ∃ z, w.cell? (a.add i) = some (.int k z) ∧ (Lit.int k z).wf = true := fun i hlt => by
      obtain ⟨cs', _, hcell, hr⟩ := hi i hlt
      obtain ⟨z, rfl, hw⟩ := Rd.int he hr
      have h1 := hcell 0 (by omega)
      rw [hc, Nat.mul_one] at h1
      exact ⟨z, by simpa [Addr.add] using h1, hw⟩
    have hf : ∃ f : Nat → Int, ∀ i, i < l → w.cell? (a.add i) = some (.int k (f i)) ∧ (Lit.int k (f i)).wf = true :=
      ⟨fun i => if h : i < l then (hz i h).choose else 0, fun i h => by simp only [h, dif_pos]; exact (hz i h).choose_spec⟩
    obtain ⟨f, hf⟩ := hf
    refine ⟨(List.range l).map f, by simp, fun h0 => ?_, hl, fun z hzm => ?_, Nat.le_trans hl hml⟩
    · have hl0 : 0 < l := by simpa using h0
      have ha := add_spot (hf 0 hl0).1
      refine ⟨a.block, a.off, by rw [← ha], fun j z hj => ?_⟩
      rw [List.getElem?_map, Option.map_eq_some_iff] at hj
      obtain ⟨i, hi', rfl⟩ := hj
      obtain ⟨hlt, he'⟩ := List.getElem?_eq_some_iff.1 hi'
      simp only [List.length_range, List.getElem_range] at hlt he'
      subst he'
      rw [← add_at, ← ha]
      exact (hf j hlt).1
    · obtain ⟨i, hi', rfl⟩ := List.mem_map.1 hzm
      exact (hf i (List.mem_range.1 hi')).2

theorem Rd.sl {H : Type} {enc : TypeId × Value → H} {P : Program} {w : World} {t e : TypeId} {v : Value} (ht : P.underlying t = some (.slice e)) (h : Rd enc P w t [v]) : ∃ A l c, v = .slice A l c := by
  rcases Rd.slice ht h with h0 | ⟨a, len, cap, h0, _⟩
  · simp only [List.cons.injEq, and_true] at h0
    exact ⟨_, _, _, h0⟩
  · simp only [List.cons.injEq, and_true] at h0
    exact ⟨_, _, _, h0⟩

/-- The cells of a slice of whatever elements: each element's cells stand in a row. -/
def SlR (size : Nat) (w : World) (A : Option Addr) (css : List (List Value)) : Prop :=
  0 < css.length → ∃ b o, A = some ⟨b, o, none⟩ ∧ ∀ j cs, css[j]? = some cs → ∀ i u, cs[i]? = some u → w.cell? ⟨b, o + j * size + i, none⟩ = some u
theorem SlR.here {size : Nat} {w w' : World} {A : Option Addr} {css : List (List Value)} (h : SlR size w A css) (hb : Below w.heap.size w w') : SlR size w' A css := fun hn => by
  obtain ⟨b, o, e, hc⟩ := h hn
  exact ⟨b, o, e, fun j cs hj i u hu => keep_cell hb (hc j cs hj i u hu)⟩
theorem SlR.nil (size : Nat) (w : World) (A : Option Addr) : SlR size w A [] := fun h => absurd h (by simp)

/-- A slice of whatever elements handed in, each element read as x. -/
theorem Rd.list {α H : Type} {enc : TypeId × Value → H} {P : Program} {w : World} {t e : TypeId} {size : Nat} {A : Option Addr} {l c : Nat} (R : α → List Value) (Q : α → Prop) (ht : P.underlying t = some (.slice e)) (hc : P.cellsOf e = size) (hs : 0 < size)
    (ho : ∀ cs, Rd enc P w e cs → ∃ x, cs = R x ∧ Q x) (h : Rd enc P w t [.slice A l c]) :
    ∃ xs : List α, l = xs.length ∧ l ≤ c ∧ l ≤ maxLen ∧ SlR size w A (xs.map R) ∧ ∀ x ∈ xs, Q x := by
  rcases Rd.slice ht h with h0 | ⟨a, len, cap, h0, hl, hm, hi⟩
  · simp only [List.cons.injEq, Value.slice.injEq, and_true] at h0
    obtain ⟨rfl, rfl, rfl⟩ := h0
    exact ⟨[], rfl, Nat.le_refl _, Nat.zero_le _, SlR.nil _ _ _, by simp⟩
  · simp only [List.cons.injEq, Value.slice.injEq, and_true] at h0
    obtain ⟨rfl, rfl, rfl⟩ := h0
    rw [hc] at hi
    have hz : ∀ i, i < l → ∃ x, Q x ∧ (R x).length = size ∧ ∀ j, j < size → w.cell? ((a.add (i * size)).add j) = (R x)[j]? := fun i hlt => by
      obtain ⟨cs', hlen, hcell, hr⟩ := hi i hlt
      obtain ⟨x, rfl, hq⟩ := ho _ hr
      exact ⟨x, hq, hlen, hcell⟩
    have hf : ∃ f : Nat → Option α, ∀ i, i < l → ∃ x, f i = some x ∧ Q x ∧ (R x).length = size ∧ ∀ j, j < size → w.cell? ((a.add (i * size)).add j) = (R x)[j]? :=
      ⟨fun i => if h : i < l then some (hz i h).choose else none, fun i h => ⟨(hz i h).choose, by simp only [h, dif_pos], (hz i h).choose_spec⟩⟩
    obtain ⟨f, hf⟩ := hf
    have hlist : ∃ xs : List α, xs.length = l ∧ ∀ i x, xs[i]? = some x → f i = some x := by
      clear h hl hm hi hz
      induction l with
      | zero => exact ⟨[], rfl, by simp⟩
      | succ l ih =>
        obtain ⟨xs, hx1, hx2⟩ := ih (fun i hlt => hf i (by omega))
        obtain ⟨x, hx, _⟩ := hf l (by omega)
        refine ⟨xs ++ [x], by simp [hx1], fun i y hy => ?_⟩
        rcases Nat.lt_or_ge i xs.length with hi | hi
        · rw [List.getElem?_append_left hi] at hy
          exact hx2 i y hy
        · rw [List.getElem?_append_right hi] at hy
          have h0 : i - xs.length = 0 := by
            rcases Nat.eq_zero_or_pos (i - xs.length) with h0 | h0
            · exact h0
            · rw [List.getElem?_eq_none (by simp; omega)] at hy
              cases hy
          rw [h0] at hy
          simp only [List.getElem?_cons_zero, Option.some.injEq] at hy
          subst hy
          rw [show i = l from by omega]
          exact hx
    obtain ⟨xs, hx1, hx2⟩ := hlist
    refine ⟨xs, hx1.symm, hl, Nat.le_trans hl hm, fun h0 => ?_, fun x hx => ?_⟩
    · have hl0 : 0 < l := by simpa [hx1] using h0
      obtain ⟨x0, _, _, hlen0, hc0⟩ := hf 0 hl0
      have hc00 := hc0 0 hs
      have hsome : ∃ v, (R x0)[0]? = some v := ⟨(R x0)[0]'(by omega), by simp [hlen0, hs]⟩
      obtain ⟨v0, hv0⟩ := hsome
      rw [hv0] at hc00
      have hadd : (a.add (0 * size)) = ⟨(a.add (0 * size)).block, (a.add (0 * size)).off, none⟩ := add_spot hc00
      have ha : a = ⟨a.block, a.off, none⟩ := by
        have := congrArg Addr.spot hadd
        obtain ⟨b, o, s⟩ := a
        simp only [Addr.add] at this
        split at this <;> simp_all
      refine ⟨a.block, a.off, by rw [← ha], fun j cs hj i u hu => ?_⟩
      rw [List.getElem?_map, Option.map_eq_some_iff] at hj
      obtain ⟨x, hx, rfl⟩ := hj
      obtain ⟨y, hy, _, hlen, hcell⟩ := hf j (by rw [← hx1]; exact (List.getElem?_eq_some_iff.1 hx).1)
      obtain rfl : x = y := by rw [hx2 j x hx] at hy; exact Option.some.inj hy
      have hi' : i < size := by rw [← hlen]; exact (List.getElem?_eq_some_iff.1 hu).1
      rw [← add_at, ← add_at, ← ha, hcell i hi', hu]
    · obtain ⟨i, hlt, rfl⟩ := List.getElem_of_mem hx
      obtain ⟨y, hy, hq, _⟩ := hf i (by omega)
      rw [hx2 i xs[i] (by simp)] at hy
      rw [Option.some.inj hy]
      exact hq
end Go.Proofs.YtedjadicdodahaaGreatDoor
