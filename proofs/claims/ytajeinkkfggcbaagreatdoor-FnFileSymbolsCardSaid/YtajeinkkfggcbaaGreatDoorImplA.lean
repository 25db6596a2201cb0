/- What is read out of an object file: small answers. -/
import Derived.Test.YtajeinkkfggcbaaGreatDoorRdrE
namespace Go.Proofs.YtajeinkkfggcbaaGreatDoor
open Go.RowKit

/-- The bytes of a small object file, in memory. -/
structure Dat (f : FM) (d o n c : Nat) (w : World) : Prop where
  len : n = f.bytes.length
  S : f.Small
  fl : 0 ≤ f.flags ∧ f.flags < 4294967296
  cap : n ≤ c
  at_ : At w d o f.bytes
  lt : d < w.heap.size
section
variable {f : FM} {d o n c : Nat} {w w' : World}
theorem Dat.here (D : Dat f d o n c w) (hb : Below w.heap.size w w') : Dat f d o n c w' := ⟨D.len, D.S, D.fl, D.cap, D.at_.here hb, Nat.lt_of_lt_of_le D.lt hb.size⟩
theorem Dat.drewN (D : Dat f d o n c w) (k : Nat) : Dat f d o n c (w.drewN k) := D.here (below_drewN (Below.refl _ _) k)
theorem Dat.reader (D : Dat f d o n c w) (ro : Bool) : Calls Tryz.prog 22 #[.slice (some ⟨d, o, none⟩) n c, .bool ro] w (NewRdr f ro d o c w) := by
  obtain ⟨rfl, S, fl, cap, at_, lt⟩ := D
  exact newReader_any f S fl d o c ro w cap at_ lt
end

section
variable {f : FM} {d o n c : Nat} {w : World} (D : Dat f d o n c w)
include D
end
end Go.Proofs.YtajeinkkfggcbaaGreatDoor
