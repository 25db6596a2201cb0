/- An element's encoder, the references' slice told. (printed by gen_penX.py) -/
import Derived.Test.YtedjadicdodahaaDoorPEnG
namespace Go.Proofs.YtedjadicdodahaaDoor
open Go.RowKit

section
variable {rs : Value} {own own' : Nat → Prop} {pb eb mb : Nat} {ver : Int} {s : Bool} {p : Pk} {e : Es} {k idx : Int} {hd : Bool} {w w' : World}
theorem tag_lt {g : Nat} {t : TypeId} (h : Proofs.YtedjadicdodahaaDoor.tag w g = some t) : g < w.heap.size := by
  unfold Proofs.YtedjadicdodahaaDoor.tag at h
  rcases Nat.lt_or_ge g w.heap.size with h1 | h1
  · exact h1
  · rw [Array.getElem?_eq_none h1] at h
    cases h
end
end Go.Proofs.YtedjadicdodahaaDoor
