/- How structs and arrays of the program read, cell by cell (printed by rdgen.py). -/
import Derived.Test.YtfckbpgghlifjaaDoorRead
namespace Go.Proofs.YtfckbpgghlifjaaDoor
open Go.RowKit

theorem Tryd.cellsN2 : Tryd.prog.cellsOf 2 = 1 := by kernel_rfl
theorem Tryd.cellsN9 : Tryd.prog.cellsOf 9 = 1 := by kernel_rfl
theorem Tryd.cellsN22 : Tryd.prog.cellsOf 22 = 1 := by kernel_rfl
theorem Tryd.cellsN41 : Tryd.prog.cellsOf 41 = 1 := by kernel_rfl
theorem Tryd.cellsN43 : Tryd.prog.cellsOf 43 = 3 := by kernel_rfl
theorem Tryd.cellsN45 : Tryd.prog.cellsOf 45 = 5 := by kernel_rfl

theorem open_impl_Element {H : Type} {enc : TypeId × Value → H} {w : World} {cs : List Value} (h : Rd enc Tryd.prog w 43 cs) :
    ∃ (x0 : Int) (x1 : Int) (x2 : Value), cs = [.int .i64 x0, .int .i64 x1, x2] ∧ (-9223372036854775808 ≤ x0 ∧ x0 < 9223372036854775808) ∧ (-9223372036854775808 ≤ x1 ∧ x1 < 9223372036854775808) ∧ Rd enc Tryd.prog w 41 [x2] := by
  obtain ⟨c0, c1, c2, rfl⟩ := list3 ((Rd.length Tryd.underlying43 h).trans Tryd.cellsN43)
  have f0 : Rd enc Tryd.prog w 2 [c0] := by simpa [Tryd.cellsN2] using Rd.field Tryd.underlying43 h 0 _ rfl
  have f1 : Rd enc Tryd.prog w 2 [c1] := by simpa [Tryd.cellsN2] using Rd.field Tryd.underlying43 h 1 _ rfl
  have f2 : Rd enc Tryd.prog w 41 [c2] := by simpa [Tryd.cellsN41] using Rd.field Tryd.underlying43 h 2 _ rfl
  obtain ⟨x0, e0, w0⟩ := Rd.int Tryd.underlying2 f0
  simp only [List.cons.injEq, and_true] at e0
  subst e0
  obtain ⟨x1, e1, w1⟩ := Rd.int Tryd.underlying2 f1
  simp only [List.cons.injEq, and_true] at e1
  subst e1
  exact ⟨x0, x1, c2, rfl, bd_i64 w0, bd_i64 w1, f2⟩

theorem open_impl_Bit {H : Type} {enc : TypeId × Value → H} {w : World} {cs : List Value} (h : Rd enc Tryd.prog w 45 cs) :
    ∃ (x0 : Int) (x1 : Int) (x2 : Int) (x3 : ByteArray) (x4 : Value), cs = [.int .i64 x0, .int .i64 x1, .int .i64 x2, .string x3, x4] ∧ (-9223372036854775808 ≤ x0 ∧ x0 < 9223372036854775808) ∧ (-9223372036854775808 ≤ x1 ∧ x1 < 9223372036854775808) ∧ (-9223372036854775808 ≤ x2 ∧ x2 < 9223372036854775808) ∧ x3.size ≤ maxLen ∧ Rd enc Tryd.prog w 22 [x4] := by
  obtain ⟨c0, c1, c2, c3, c4, rfl⟩ := list5 ((Rd.length Tryd.underlying45 h).trans Tryd.cellsN45)
  have f0 : Rd enc Tryd.prog w 2 [c0] := by simpa [Tryd.cellsN2] using Rd.field Tryd.underlying45 h 0 _ rfl
  have f1 : Rd enc Tryd.prog w 2 [c1] := by simpa [Tryd.cellsN2] using Rd.field Tryd.underlying45 h 1 _ rfl
  have f2 : Rd enc Tryd.prog w 2 [c2] := by simpa [Tryd.cellsN2] using Rd.field Tryd.underlying45 h 2 _ rfl
  have f3 : Rd enc Tryd.prog w 9 [c3] := by simpa [Tryd.cellsN9] using Rd.field Tryd.underlying45 h 3 _ rfl
  have f4 : Rd enc Tryd.prog w 22 [c4] := by simpa [Tryd.cellsN22] using Rd.field Tryd.underlying45 h 4 _ rfl
  obtain ⟨x0, e0, w0⟩ := Rd.int Tryd.underlying2 f0
  simp only [List.cons.injEq, and_true] at e0
  subst e0
  obtain ⟨x1, e1, w1⟩ := Rd.int Tryd.underlying2 f1
  simp only [List.cons.injEq, and_true] at e1
  subst e1
  obtain ⟨x2, e2, w2⟩ := Rd.int Tryd.underlying2 f2
  simp only [List.cons.injEq, and_true] at e2
  subst e2
  obtain ⟨x3, e3, w3⟩ := Rd.string Tryd.underlying9 f3
  simp only [List.cons.injEq, and_true] at e3
  subst e3
  exact ⟨x0, x1, x2, x3, c4, rfl, bd_i64 w0, bd_i64 w1, bd_i64 w2, w3, f4⟩

end Go.Proofs.YtfckbpgghlifjaaDoor
