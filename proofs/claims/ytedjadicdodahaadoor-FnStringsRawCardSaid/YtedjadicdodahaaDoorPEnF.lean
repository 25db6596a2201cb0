/- An element's encoder: codes; a value written. (printed by gen_penF.py) -/
import Derived.Test.YtedjadicdodahaaDoorPEnE
namespace Go.Proofs.YtedjadicdodahaaDoor
open Go.RowKit Go.Maps

abbrev Bt.arr (b : Bt) : Array Value := #[.int .i64 b.kind, .int .i64 b.num, .int .i64 b.sec, .string b.text, .slice b.texts.A b.texts.l.length b.texts.c]
theorem Txt.here {own : Nat → Prop} {w w' : World} {A : Option Addr} {l : List ByteArray} (h : Txt own w A l) (k : Below w.heap.size w w') : Txt own w' A l := fun h0 => by
  obtain ⟨b, o, e, h1, h2, h3⟩ := h h0
  exact ⟨b, o, e, h1, Nat.lt_of_lt_of_le h2 k.size, fun j t hj => keep_cell k (h3 j t hj)⟩
/-- Seen from where one began. -/
theorem Met.after {own : Nat → Prop} {w w1 w2 : World} {v : Value} {S : (Nat → Prop) → World → Prop} {e : Ending} (h : Met own w1 v S e w2) (k : Below w.heap.size w w1) (mono : ∀ (o o' : Nat → Prop), (∀ j, o j → o' j) → S o w2 → S o' w2) : Met own w v S e w2 :=
  ⟨h.ret, mono _ _ (grow_le k.size) h.st, (Kp.of_below k).trans' h.kp⟩
end Go.Proofs.YtedjadicdodahaaDoor
