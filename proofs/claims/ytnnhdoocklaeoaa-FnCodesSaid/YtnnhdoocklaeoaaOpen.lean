/- How structs and arrays of the program read, cell by cell (printed by rdgen.py). -/
import Derived.Test.YtnnhdoocklaeoaaRead
namespace Go.Proofs.Ytnnhdoocklaeoaa
open Go.RowKit

theorem Try.cellsN2 : Try.prog.cellsOf 2 = 1 := by kernel_rfl
theorem Try.cellsN5 : Try.prog.cellsOf 5 = 1 := by kernel_rfl
theorem Try.cellsN21 : Try.prog.cellsOf 21 = 1 := by kernel_rfl
theorem Try.cellsN22 : Try.prog.cellsOf 22 = 8 := by kernel_rfl
theorem Try.cellsN24 : Try.prog.cellsOf 24 = 1 := by kernel_rfl
theorem Try.cellsN26 : Try.prog.cellsOf 26 = 2 := by kernel_rfl
theorem Try.cellsN34 : Try.prog.cellsOf 34 = 1 := by kernel_rfl
theorem Try.cellsN36 : Try.prog.cellsOf 36 = 6 := by kernel_rfl
theorem Try.cellsN48 : Try.prog.cellsOf 48 = 6 := by kernel_rfl

theorem open_impl_Symbol {H : Type} {enc : TypeId × Value → H} {w : World} {cs : List Value} (h : Rd enc Try.prog w 36 cs) :
    ∃ (x0 : Int) (x1 : Int) (x2 : Int) (x3 : Int) (x4 : Int) (x5 : Int), cs = [.int .u16 x0, .int .u8 x1, .int .u8 x2, .int .u8 x3, .int .u32 x4, .int .u32 x5] ∧ (0 ≤ x0 ∧ x0 < 65536) ∧ (0 ≤ x1 ∧ x1 < 256) ∧ (0 ≤ x2 ∧ x2 < 256) ∧ (0 ≤ x3 ∧ x3 < 256) ∧ (0 ≤ x4 ∧ x4 < 4294967296) ∧ (0 ≤ x5 ∧ x5 < 4294967296) := by
  obtain ⟨c0, c1, c2, c3, c4, c5, rfl⟩ := list6 ((Rd.length Try.underlying36 h).trans Try.cellsN36)
  have f0 : Rd enc Try.prog w 34 [c0] := by simpa [Try.cellsN34] using Rd.field Try.underlying36 h 0 _ rfl
  have f1 : Rd enc Try.prog w 5 [c1] := by simpa [Try.cellsN5] using Rd.field Try.underlying36 h 1 _ rfl
  have f2 : Rd enc Try.prog w 5 [c2] := by simpa [Try.cellsN5] using Rd.field Try.underlying36 h 2 _ rfl
  have f3 : Rd enc Try.prog w 5 [c3] := by simpa [Try.cellsN5] using Rd.field Try.underlying36 h 3 _ rfl
  have f4 : Rd enc Try.prog w 24 [c4] := by simpa [Try.cellsN24] using Rd.field Try.underlying36 h 4 _ rfl
  have f5 : Rd enc Try.prog w 24 [c5] := by simpa [Try.cellsN24] using Rd.field Try.underlying36 h 5 _ rfl
  obtain ⟨x0, e0, w0⟩ := Rd.int Try.underlying34 f0
  simp only [List.cons.injEq, and_true] at e0
  subst e0
  obtain ⟨x1, e1, w1⟩ := Rd.int Try.underlying5 f1
  simp only [List.cons.injEq, and_true] at e1
  subst e1
  obtain ⟨x2, e2, w2⟩ := Rd.int Try.underlying5 f2
  simp only [List.cons.injEq, and_true] at e2
  subst e2
  obtain ⟨x3, e3, w3⟩ := Rd.int Try.underlying5 f3
  simp only [List.cons.injEq, and_true] at e3
  subst e3
  obtain ⟨x4, e4, w4⟩ := Rd.int Try.underlying24 f4
  simp only [List.cons.injEq, and_true] at e4
  subst e4
  obtain ⟨x5, e5, w5⟩ := Rd.int Try.underlying24 f5
  simp only [List.cons.injEq, and_true] at e5
  subst e5
  exact ⟨x0, x1, x2, x3, x4, x5, rfl, bd_u16 w0, bd_u8 w1, bd_u8 w2, bd_u8 w3, bd_u32 w4, bd_u32 w5⟩

theorem open_impl_Ref {H : Type} {enc : TypeId × Value → H} {w : World} {cs : List Value} (h : Rd enc Try.prog w 26 cs) :
    ∃ (x0 : Int) (x1 : Int), cs = [.int .u32 x0, .int .u32 x1] ∧ (0 ≤ x0 ∧ x0 < 4294967296) ∧ (0 ≤ x1 ∧ x1 < 4294967296) := by
  obtain ⟨c0, c1, rfl⟩ := list2 ((Rd.length Try.underlying26 h).trans Try.cellsN26)
  have f0 : Rd enc Try.prog w 24 [c0] := by simpa [Try.cellsN24] using Rd.field Try.underlying26 h 0 _ rfl
  have f1 : Rd enc Try.prog w 24 [c1] := by simpa [Try.cellsN24] using Rd.field Try.underlying26 h 1 _ rfl
  obtain ⟨x0, e0, w0⟩ := Rd.int Try.underlying24 f0
  simp only [List.cons.injEq, and_true] at e0
  subst e0
  obtain ⟨x1, e1, w1⟩ := Rd.int Try.underlying24 f1
  simp only [List.cons.injEq, and_true] at e1
  subst e1
  exact ⟨x0, x1, rfl, bd_u32 w0, bd_u32 w1⟩

theorem open_impl_Relocation {H : Type} {enc : TypeId × Value → H} {w : World} {cs : List Value} (h : Rd enc Try.prog w 48 cs) :
    ∃ (x0 : Int) (x1 : Int) (x2 : Int) (x3 : Int) (x4 : Int) (x5 : Int), cs = [.int .i32 x0, .int .u8 x1, .int .u16 x2, .int .i64 x3, .int .u32 x4, .int .u32 x5] ∧ (-2147483648 ≤ x0 ∧ x0 < 2147483648) ∧ (0 ≤ x1 ∧ x1 < 256) ∧ (0 ≤ x2 ∧ x2 < 65536) ∧ (-9223372036854775808 ≤ x3 ∧ x3 < 9223372036854775808) ∧ (0 ≤ x4 ∧ x4 < 4294967296) ∧ (0 ≤ x5 ∧ x5 < 4294967296) := by
  obtain ⟨c0, c1, c2, c3, c4, c5, rfl⟩ := list6 ((Rd.length Try.underlying48 h).trans Try.cellsN48)
  have f0 : Rd enc Try.prog w 21 [c0] := by simpa [Try.cellsN21] using Rd.field Try.underlying48 h 0 _ rfl
  have f1 : Rd enc Try.prog w 5 [c1] := by simpa [Try.cellsN5] using Rd.field Try.underlying48 h 1 _ rfl
  have f2 : Rd enc Try.prog w 34 [c2] := by simpa [Try.cellsN34] using Rd.field Try.underlying48 h 2 _ rfl
  have f3 : Rd enc Try.prog w 2 [c3] := by simpa [Try.cellsN2] using Rd.field Try.underlying48 h 3 _ rfl
  have f4 : Rd enc Try.prog w 26 [c4, c5] := by simpa [Try.cellsN26] using Rd.field Try.underlying48 h 4 _ rfl
  obtain ⟨x0, e0, w0⟩ := Rd.int Try.underlying21 f0
  simp only [List.cons.injEq, and_true] at e0
  subst e0
  obtain ⟨x1, e1, w1⟩ := Rd.int Try.underlying5 f1
  simp only [List.cons.injEq, and_true] at e1
  subst e1
  obtain ⟨x2, e2, w2⟩ := Rd.int Try.underlying34 f2
  simp only [List.cons.injEq, and_true] at e2
  subst e2
  obtain ⟨x3, e3, w3⟩ := Rd.int Try.underlying2 f3
  simp only [List.cons.injEq, and_true] at e3
  subst e3
  obtain ⟨x4, x5, e4, h4, h5⟩ := open_impl_Ref f4
  simp only [List.cons.injEq, and_true] at e4
  obtain ⟨rfl, rfl⟩ := e4
  exact ⟨x0, x1, x2, x3, x4, x5, rfl, bd_i32 w0, bd_u8 w1, bd_u16 w2, bd_i64 w3, h4, h5⟩

theorem open_8_uint8 {H : Type} {enc : TypeId × Value → H} {w : World} {cs : List Value} (h : Rd enc Try.prog w 22 cs) :
    ∃ (x0 : Int) (x1 : Int) (x2 : Int) (x3 : Int) (x4 : Int) (x5 : Int) (x6 : Int) (x7 : Int), cs = [.int .u8 x0, .int .u8 x1, .int .u8 x2, .int .u8 x3, .int .u8 x4, .int .u8 x5, .int .u8 x6, .int .u8 x7] ∧ (0 ≤ x0 ∧ x0 < 256) ∧ (0 ≤ x1 ∧ x1 < 256) ∧ (0 ≤ x2 ∧ x2 < 256) ∧ (0 ≤ x3 ∧ x3 < 256) ∧ (0 ≤ x4 ∧ x4 < 256) ∧ (0 ≤ x5 ∧ x5 < 256) ∧ (0 ≤ x6 ∧ x6 < 256) ∧ (0 ≤ x7 ∧ x7 < 256) := by
  obtain ⟨c0, c1, c2, c3, c4, c5, c6, c7, rfl⟩ := list8 ((Rd.arrayLength Try.underlying22 h).trans Try.cellsN22)
  have f0 : Rd enc Try.prog w 5 [c0] := by simpa [Try.cellsN5] using Rd.elem Try.underlying22 h 0 (by decide)
  have f1 : Rd enc Try.prog w 5 [c1] := by simpa [Try.cellsN5] using Rd.elem Try.underlying22 h 1 (by decide)
  have f2 : Rd enc Try.prog w 5 [c2] := by simpa [Try.cellsN5] using Rd.elem Try.underlying22 h 2 (by decide)
  have f3 : Rd enc Try.prog w 5 [c3] := by simpa [Try.cellsN5] using Rd.elem Try.underlying22 h 3 (by decide)
  have f4 : Rd enc Try.prog w 5 [c4] := by simpa [Try.cellsN5] using Rd.elem Try.underlying22 h 4 (by decide)
  have f5 : Rd enc Try.prog w 5 [c5] := by simpa [Try.cellsN5] using Rd.elem Try.underlying22 h 5 (by decide)
  have f6 : Rd enc Try.prog w 5 [c6] := by simpa [Try.cellsN5] using Rd.elem Try.underlying22 h 6 (by decide)
  have f7 : Rd enc Try.prog w 5 [c7] := by simpa [Try.cellsN5] using Rd.elem Try.underlying22 h 7 (by decide)
  obtain ⟨x0, e0, w0⟩ := Rd.int Try.underlying5 f0
  simp only [List.cons.injEq, and_true] at e0
  subst e0
  obtain ⟨x1, e1, w1⟩ := Rd.int Try.underlying5 f1
  simp only [List.cons.injEq, and_true] at e1
  subst e1
  obtain ⟨x2, e2, w2⟩ := Rd.int Try.underlying5 f2
  simp only [List.cons.injEq, and_true] at e2
  subst e2
  obtain ⟨x3, e3, w3⟩ := Rd.int Try.underlying5 f3
  simp only [List.cons.injEq, and_true] at e3
  subst e3
  obtain ⟨x4, e4, w4⟩ := Rd.int Try.underlying5 f4
  simp only [List.cons.injEq, and_true] at e4
  subst e4
  obtain ⟨x5, e5, w5⟩ := Rd.int Try.underlying5 f5
  simp only [List.cons.injEq, and_true] at e5
  subst e5
  obtain ⟨x6, e6, w6⟩ := Rd.int Try.underlying5 f6
  simp only [List.cons.injEq, and_true] at e6
  subst e6
  obtain ⟨x7, e7, w7⟩ := Rd.int Try.underlying5 f7
  simp only [List.cons.injEq, and_true] at e7
  subst e7
  exact ⟨x0, x1, x2, x3, x4, x5, x6, x7, rfl, bd_u8 w0, bd_u8 w1, bd_u8 w2, bd_u8 w3, bd_u8 w4, bd_u8 w5, bd_u8 w6, bd_u8 w7⟩

end Go.Proofs.Ytnnhdoocklaeoaa
