/- Closed facts on the whole program, once for all rows. -/
import Derived.JoinedCond
import Derived.Test.YtedjadicdodahaaDoorLaw
import Derived.Test.YtedjadicdodahaaDoorCards
namespace Go.Proofs.YtedjadicdodahaaDoor
open Go.ChangeShapes Go.WideShapes Go.ChangeAt Go.RowKit

theorem band_true {a b : Bool} (h : a = true) (k : b = true) : (a && b) = true := by rw [h, k]; rfl
theorem Tryd.own : ownKnob Tryd.prog.godebug = none := by kernel_rfl
theorem Tryd.laidOut : laidOutB Tryd.prog = true := by kernel_rfl
set_option maxHeartbeats 8000000
theorem Tryd.mapsRowed_ : mapsRowed Tryd.prog = true := by kernel_rfl
theorem Tryd.stopsHeard_ : Tryd.prog.stopsHeard = true := by kernel_rfl
theorem Tryd.mayEnter_ : Tryd.prog.mayEnter = true := by kernel_rfl
theorem Tryd.lifted_ (b : Bool) (h : b = false) : (b == Tryd.prog.liftsFinal) = true := by
  rw [h]
  exact (show (false == Tryd.prog.liftsFinal) = true by kernel_rfl)
end Go.Proofs.YtedjadicdodahaaDoor
