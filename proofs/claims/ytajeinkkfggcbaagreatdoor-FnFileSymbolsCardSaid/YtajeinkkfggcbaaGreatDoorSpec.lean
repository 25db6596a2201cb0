/- The references on bytes: two lists compared, numbers in bytes, lists joined. -/
import Derived.Test.YtajeinkkfggcbaaGreatDoorSl
namespace Go.Proofs.YtajeinkkfggcbaaGreatDoor
open Go.RowKit

theorem Tryz.infoU8 : (Tryz.prog.info? 5).map (fun i => (i.zero, i.size, i.bytes)) = some (some (.int .u8 0), 1, 1) := by kernel_rfl


/-- The bytes of a number, m of them, the lowest first. -/
def leN : Nat → Int → List Int
  | 0, _ => []
  | m + 1, v => v % 256 :: leN m (v / 256)
theorem leN_length (m : Nat) : ∀ v, (leN m v).length = m := by
  induction m with
  | zero => intro v; rfl
  | succ m ih => intro v; simp [leN, ih]
theorem leN_snoc (m : Nat) : ∀ v, leN (m + 1) v = leN m v ++ [v / 256 ^ m % 256] := by
  induction m with
  | zero => intro v; simp [leN]
  | succ m ih =>
    intro v
    rw [leN, ih, leN]
    simp only [List.cons_append, List.cons.injEq, true_and]
    rw [Int.ediv_ediv_of_nonneg (by omega), Int.pow_succ, Int.mul_comm]


end Go.Proofs.YtajeinkkfggcbaaGreatDoor
