/- What is read out of an object file: auxiliary symbols, as lists. (printed by gen_implg.py) -/
import Derived.Great.Walk
import Derived.Test.YtajeinkkfggcbaaGreatDoorImplF
import Derived.Test.YtajeinkkfggcbaaGreatDoorAll
namespace Go.Proofs.YtajeinkkfggcbaaGreatDoor
open Go.RowKit
theorem own_ne_type {w : World} {base size n k : Nat} {e t : TypeId} {v : Value} {xs : List Value} {cs : Array Value} (h : w.ownsRow base e size v n xs) (hb : Blk w k t cs) (ht : t ≠ e) : v.ownBlock ≠ some k := by
  intro hk
  rcases h.2 with ⟨rfl, _⟩ | ⟨g, cap, cur, rfl, _, hg, _⟩
  · simp [Value.ownBlock] at hk
  · simp [Value.ownBlock] at hk
    subst hk
    rw [hb] at hg
    injection hg with hg
    injection hg with h1 h2
    exact ht h2
end Go.Proofs.YtajeinkkfggcbaaGreatDoor
