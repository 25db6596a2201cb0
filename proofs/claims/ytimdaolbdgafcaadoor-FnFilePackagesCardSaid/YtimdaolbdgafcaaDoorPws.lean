/- A region that draws: what each operation's value is, also in memory. -/
import Derived.Test.YtimdaolbdgafcaaDoorImplA
import Derived.Test.YtimdaolbdgafcaaDoorSpecB
namespace Go.Proofs.YtimdaolbdgafcaaDoor
open Go.RowKit

/-- What is said of a value in a world, and stays. -/
structure Pw where
  p : Value → World → Prop
  m : ∀ v w w', Below w.heap.size w w' → p v w → p v w'
def Pw.any : Pw := ⟨fun _ _ => True, fun _ _ _ _ h => h⟩
/-- A value. -/
def Pw.is (P : Value → Prop) : Pw := ⟨fun v _ => P v, fun _ _ _ _ h => h⟩
/-- An object file's bytes. -/
def Pw.dat (f : FM) (n : Nat) : Pw := ⟨fun v w => ∃ d o c, v = .slice (some ⟨d, o, none⟩) n c ∧ Dat f d o n c w, fun _ _ _ hb ⟨d, o, c, h1, h2⟩ => ⟨d, o, c, h1, h2.here hb⟩⟩
def pws (l : List Pw) (i : Nat) (v : Value) (w : World) : Prop := (l[i]?.getD Pw.any).p v w
theorem region_pw {P : Program} {ops : Array Oper} {Q : Exit → Act → World → Prop} {a0 : Act} {w0 : World} {id : Nat} (hm : P.follows .mixedOrders = true) (l : List Pw) (sl : List Nat) (hok : slotsOk ops sl a0.tmps.size = true)
    (hstep : Steps (RStep P ops Q (pws l) Later sl a0 w0.drew) 0 ops.toList)
    (hend : ∀ f w, Later w0.drew w → (∀ i, i < ops.size → pws l i (f (sl.getD i 0)) w) → Q .normal (over a0 sl f) w) : (Code.region id ops true).wp P Q a0 w0 :=
  region_inv hm (pws l) Later sl (fun _ => Below.refl _ _) (fun _ _ _ => below_from) (fun i _ _ _ h hv => (l[i]?.getD Pw.any).m _ _ _ h hv) hok hstep hend
end Go.Proofs.YtimdaolbdgafcaaDoor
