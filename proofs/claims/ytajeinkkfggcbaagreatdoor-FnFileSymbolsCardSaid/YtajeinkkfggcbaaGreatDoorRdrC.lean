/- What a reader tells: how many there are; where they stand. (printed by gen_rdrc.py) -/
import Derived.Test.YtajeinkkfggcbaaGreatDoorRdrB
namespace Go.Proofs.YtajeinkkfggcbaaGreatDoor
open Go.RowKit

section
variable {f : FM} {ro : Bool} {g d o c : Nat} {w : World} (R : Rdr f ro g d o c w) (S : f.Small)
include R S
set_option maxRecDepth 100000 in
theorem rdSymOff_any (i : Nat) (hi : i ≤ 1000) : Calls Tryz.prog 54 #[.pointer (some ⟨g, 0, none⟩), .int .u32 i] w (RetQ (.int .u32 ((f.at_ 3 + 21 * i : Nat) : Int)) w) := by
  have c1 := R.offs 3 (by omega)
  have b1 := S.at_le 3
  generalize f.at_ 3 = x at *
  have i1 : (0 : Int) ≤ x := by omega
  have i2 : (x : Int) ≤ 110000 := by omega
  have i3 : (0 : Int) ≤ i := by omega
  have i4 : (i : Int) ≤ 1000 := by omega
  clear R S b1 hi
  go_enter Tryz.func54, Tryz.ntmps54
  go_wp2_with fail
  go_ret
  exact ⟨by simp; omega, 0, rfl⟩
end
section
variable {f : FM} {ro : Bool} {g d o c : Nat} {w : World} (R : Rdr f ro g d o c w)
include R
end
end Go.Proofs.YtajeinkkfggcbaaGreatDoor
