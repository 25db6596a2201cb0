/- An element's encoder: references, strings. (printed by gen_penE.py) -/
import Derived.Test.YtedjadicdodahaaDoorPEnD
namespace Go.Proofs.YtedjadicdodahaaDoor
open Go.RowKit Go.Maps

theorem src_texts {w : World} {A : Option Addr} {l : List ByteArray} (h : 0 < l.length → ∃ b o, A = some ⟨b, o, none⟩ ∧ ∀ j t, l[j]? = some t → w.cell? ⟨b, o + j, none⟩ = some (.string t)) (i : Nat) (hi : i < l.length) : ∃ b o, A = some ⟨b, o, none⟩ ∧ w.cell? ⟨b, o + i, none⟩ = some (.string l[i]) := by
  obtain ⟨b, o, e, hc⟩ := h (by omega)
  exact ⟨b, o, e, hc i _ (List.getElem?_eq_getElem hi)⟩
/-- Texts that came in, or that do not turn. -/
def Txt (own : Nat → Prop) (w : World) (A : Option Addr) (l : List ByteArray) : Prop := 0 < l.length → ∃ b o, A = some ⟨b, o, none⟩ ∧ ¬ own b ∧ b < w.heap.size ∧ ∀ j t, l[j]? = some t → w.cell? ⟨b, o + j, none⟩ = some (.string t)
theorem Txt.kp {own : Nat → Prop} {w w' : World} {A : Option Addr} {l : List ByteArray} (h : Txt own w A l) (k : Kp own w w') : Txt (grow own w) w' A l := fun h0 => by
  obtain ⟨b, o, e, h1, h2, h3⟩ := h h0
  refine ⟨b, o, e, fun hm => ?_, Nat.lt_of_lt_of_le h2 k.size, fun j t hj => k.cell (h3 j t hj) h1⟩
  rcases hm with hm | hm
  · exact h1 hm
  · omega
end Go.Proofs.YtedjadicdodahaaDoor
