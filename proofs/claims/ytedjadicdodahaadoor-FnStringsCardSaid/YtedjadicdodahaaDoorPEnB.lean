/- An element's encoder: its numbers. (printed by gen_pen.py) -/
import Derived.Test.YtedjadicdodahaaDoorPEnA
namespace Go.Proofs.YtedjadicdodahaaDoor
open Go.RowKit

theorem assert_true (w : World) : Calls Tryd.prog 23 #[.bool true] w (RetQ (.tuple #[]) w) := by
  go_enter Tryd.func23, Tryd.ntmps23
  go_wp2
  go_end0
  exact ⟨rfl, 0, rfl⟩
theorem Es.put_len {e : Es} {b : List UInt8} {n m : Nat} (h : e.ds.length ≤ n) (hb : b.length ≤ m) : (e.put b).ds.length ≤ n + m := by
  show (e.ds ++ b).length ≤ _
  rw [List.length_append]
  omega
end Go.Proofs.YtedjadicdodahaaDoor
