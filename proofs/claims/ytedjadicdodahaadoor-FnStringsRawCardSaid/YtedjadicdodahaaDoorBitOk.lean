/- Whether a bit can be written: the walk of spec.BitOk. -/
import Derived.Test.YtedjadicdodahaaDoorMem
namespace Go.Proofs.YtedjadicdodahaaDoor
open Go.RowKit

def within (x l m : Int) : Bool := decide (l ≤ x) && decide (x ≤ m)
def bitOk (k n s : Int) : Bool :=
  if k = 3 then decide (0 ≤ n) else if k = 8 then within s 0 9 && within n 0 2147483647 else if k = 9 ∨ k = 11 then within n 0 5 else if k = 10 then within n 0 11 else if k = 12 then within n 1 60 else within k 0 12


section
variable (k n s : Int) (x y : Value) (w : World)
end

end Go.Proofs.YtedjadicdodahaaDoor
