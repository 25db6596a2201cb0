/- Slices handed in, as lists. -/
import Derived.Test.YtnbojmciolecgaaDoorRead
import Derived.Test.YtnbojmciolecgaaDoorSl
namespace Go.Proofs.YtnbojmciolecgaaDoor
open Go.ChangeShapes Go.WideShapes Go.ChangeAt Go.RowKit

theorem add_spot {w : World} {a : Addr} {v : Value} (h : w.cell? (a.add 0) = some v) : a = ⟨a.block, a.off, none⟩ := by
  have h0 : a.spot = none := by simpa [Addr.add] using World.cell?_spot h
  obtain ⟨b, o, s⟩ := a
  simp only at h0
  subst h0
  rfl
theorem add_at (b o j : Nat) : (⟨b, o, none⟩ : Addr).add j = ⟨b, o + j, none⟩ := by unfold Addr.add; split <;> simp_all

/-- A slice of integers handed in. -/
theorem Rd.ints {H : Type} {enc : TypeId × Value → H} {P : Program} {w : World} {t e : TypeId} {k : IntKind} {A : Option Addr} {l c : Nat} (ht : P.underlying t = some (.slice e)) (he : P.underlying e = some (.int k)) (hc : P.cellsOf e = 1) (h : Rd enc P w t [.slice A l c]) :
    ∃ xs : List Int, l = xs.length ∧ SlI k w A xs ∧ l ≤ c ∧ ∀ z ∈ xs, (Lit.int k z).wf = true := by
  rcases Rd.slice ht h with h0 | ⟨a, len, cap, h0, hl, _, hi⟩
  · simp only [List.cons.injEq, Value.slice.injEq, and_true] at h0
    obtain ⟨rfl, rfl, rfl⟩ := h0
    exact ⟨[], rfl, SlI.nil _ _ _, Nat.le_refl _, by simp⟩
  · simp only [List.cons.injEq, Value.slice.injEq, and_true] at h0
    obtain ⟨rfl, rfl, rfl⟩ := h0
    have hz : ∀ i, i < l → ∃ z, w.cell? (a.add i) = some (.int k z) ∧ (Lit.int k z).wf = true := fun i hlt => by
      obtain ⟨cs', _, hcell, hr⟩ := hi i hlt
      obtain ⟨z, rfl, hw⟩ := Rd.int he hr
      have h1 := hcell 0 (by omega)
      rw [hc, Nat.mul_one] at h1
      exact ⟨z, by simpa [Addr.add] using h1, hw⟩
    have hf : ∃ f : Nat → Int, ∀ i, i < l → w.cell? (a.add i) = some (.int k (f i)) ∧ (Lit.int k (f i)).wf = true :=
      ⟨fun i => if h : i < l then (hz i h).choose else 0, fun i h => by simp only [h, dif_pos]; exact (hz i h).choose_spec⟩
    obtain ⟨f, hf⟩ := hf
    refine ⟨(List.range l).map f, by simp, fun h0 => ?_, hl, fun z hzm => ?_⟩
    · have hl0 : 0 < l := by simpa using h0
      have ha := add_spot (hf 0 hl0).1
      refine ⟨a.block, a.off, by rw [← ha], fun j z hj => ?_⟩
      rw [List.getElem?_map, Option.map_eq_some_iff] at hj
      obtain ⟨i, hi', rfl⟩ := hj
      obtain ⟨hlt, he'⟩ := List.getElem?_eq_some_iff.1 hi'
      simp only [List.length_range, List.getElem_range] at hlt he'
      subst he'
      rw [← add_at, ← ha]
      exact (hf j hlt).1
    · obtain ⟨i, hi', rfl⟩ := List.mem_map.1 hzm
      exact (hf i (List.mem_range.1 hi')).2
end Go.Proofs.YtnbojmciolecgaaDoor
