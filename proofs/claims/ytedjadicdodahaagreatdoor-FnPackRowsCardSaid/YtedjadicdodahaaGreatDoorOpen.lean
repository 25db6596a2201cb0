/- How structs and arrays of the program read, cell by cell (printed by rdgen.py). -/
import Derived.Test.YtedjadicdodahaaGreatDoorRead
namespace Go.Proofs.YtedjadicdodahaaGreatDoor
open Go.RowKit

theorem Tryz.cellsN2 : Tryz.prog.cellsOf 2 = 1 := by kernel_rfl
theorem Tryz.cellsN9 : Tryz.prog.cellsOf 9 = 1 := by kernel_rfl
theorem Tryz.cellsN22 : Tryz.prog.cellsOf 22 = 1 := by kernel_rfl
theorem Tryz.cellsN24 : Tryz.prog.cellsOf 24 = 3 := by kernel_rfl
theorem Tryz.cellsN39 : Tryz.prog.cellsOf 39 = 1 := by kernel_rfl
theorem Tryz.cellsN41 : Tryz.prog.cellsOf 41 = 5 := by kernel_rfl

theorem open_impl_Element {H : Type} {enc : TypeId × Value → H} {w : World} {cs : List Value} (h : Rd enc Tryz.prog w 24 cs) :
    ∃ (x0 : Int) (x1 : Int) (x2 : Value), cs = [.int .i64 x0, .int .i64 x1, x2] ∧ (-9223372036854775808 ≤ x0 ∧ x0 < 9223372036854775808) ∧ (-9223372036854775808 ≤ x1 ∧ x1 < 9223372036854775808) ∧ Rd enc Tryz.prog w 22 [x2] := by
  obtain ⟨c0, c1, c2, rfl⟩ := list3 ((Rd.length Tryz.underlying24 h).trans Tryz.cellsN24)
  have f0 : Rd enc Tryz.prog w 2 [c0] := by simpa [Tryz.cellsN2] using Rd.field Tryz.underlying24 h 0 _ rfl
  have f1 : Rd enc Tryz.prog w 2 [c1] := by simpa [Tryz.cellsN2] using Rd.field Tryz.underlying24 h 1 _ rfl
  have f2 : Rd enc Tryz.prog w 22 [c2] := by simpa [Tryz.cellsN22] using Rd.field Tryz.underlying24 h 2 _ rfl
  obtain ⟨x0, e0, w0⟩ := Rd.int Tryz.underlying2 f0
  simp only [List.cons.injEq, and_true] at e0
  subst e0
  obtain ⟨x1, e1, w1⟩ := Rd.int Tryz.underlying2 f1
  simp only [List.cons.injEq, and_true] at e1
  subst e1
  exact ⟨x0, x1, c2, rfl, bd_i64 w0, bd_i64 w1, f2⟩

theorem open_impl_Bit {H : Type} {enc : TypeId × Value → H} {w : World} {cs : List Value} (h : Rd enc Tryz.prog w 41 cs) :
    ∃ (x0 : Int) (x1 : Int) (x2 : Int) (x3 : ByteArray) (x4 : Value), cs = [.int .i64 x0, .int .i64 x1, .int .i64 x2, .string x3, x4] ∧ (-9223372036854775808 ≤ x0 ∧ x0 < 9223372036854775808) ∧ (-9223372036854775808 ≤ x1 ∧ x1 < 9223372036854775808) ∧ (-9223372036854775808 ≤ x2 ∧ x2 < 9223372036854775808) ∧ x3.size ≤ maxLen ∧ Rd enc Tryz.prog w 39 [x4] := by
  obtain ⟨c0, c1, c2, c3, c4, rfl⟩ := list5 ((Rd.length Tryz.underlying41 h).trans Tryz.cellsN41)
  have f0 : Rd enc Tryz.prog w 2 [c0] := by simpa [Tryz.cellsN2] using Rd.field Tryz.underlying41 h 0 _ rfl
  have f1 : Rd enc Tryz.prog w 2 [c1] := by simpa [Tryz.cellsN2] using Rd.field Tryz.underlying41 h 1 _ rfl
  have f2 : Rd enc Tryz.prog w 2 [c2] := by simpa [Tryz.cellsN2] using Rd.field Tryz.underlying41 h 2 _ rfl
  have f3 : Rd enc Tryz.prog w 9 [c3] := by simpa [Tryz.cellsN9] using Rd.field Tryz.underlying41 h 3 _ rfl
  have f4 : Rd enc Tryz.prog w 39 [c4] := by simpa [Tryz.cellsN39] using Rd.field Tryz.underlying41 h 4 _ rfl
  obtain ⟨x0, e0, w0⟩ := Rd.int Tryz.underlying2 f0
  simp only [List.cons.injEq, and_true] at e0
  subst e0
  obtain ⟨x1, e1, w1⟩ := Rd.int Tryz.underlying2 f1
  simp only [List.cons.injEq, and_true] at e1
  subst e1
  obtain ⟨x2, e2, w2⟩ := Rd.int Tryz.underlying2 f2
  simp only [List.cons.injEq, and_true] at e2
  subst e2
  obtain ⟨x3, e3, w3⟩ := Rd.string Tryz.underlying9 f3
  simp only [List.cons.injEq, and_true] at e3
  subst e3
  exact ⟨x0, x1, x2, x3, c4, rfl, bd_i64 w0, bd_i64 w1, bd_i64 w2, w3, f4⟩

end Go.Proofs.YtedjadicdodahaaGreatDoor
