/- Closed facts on the whole program, once for all rows. -/
import Derived.JoinedCond
import Derived.Test.YtedjadicdodahaaGreatDoorLaw
import Derived.Test.YtedjadicdodahaaGreatDoorCards
namespace Go.Proofs.YtedjadicdodahaaGreatDoor
open Go.ChangeShapes Go.WideShapes Go.ChangeAt Go.RowKit

theorem band_true {a b : Bool} (h : a = true) (k : b = true) : (a && b) = true := by rw [h, k]; rfl
theorem Tryz.own : ownKnob Tryz.prog.godebug = none := by kernel_rfl
theorem Tryz.laidOut : laidOutB Tryz.prog = true := by kernel_rfl
set_option maxHeartbeats 8000000
theorem Tryz.mapsRowed_ : mapsRowed Tryz.prog = true := by kernel_rfl
theorem Tryz.stopsHeard_ : Tryz.prog.stopsHeard = true := by kernel_rfl
theorem Tryz.mayEnter_ : Tryz.prog.mayEnter = true := by kernel_rfl
theorem Tryz.lifted_ (b : Bool) (h : b = false) : (b == Tryz.prog.liftsFinal) = true := by
  rw [h]
  exact (show (false == Tryz.prog.liftsFinal) = true by kernel_rfl)
end Go.Proofs.YtedjadicdodahaaGreatDoor
