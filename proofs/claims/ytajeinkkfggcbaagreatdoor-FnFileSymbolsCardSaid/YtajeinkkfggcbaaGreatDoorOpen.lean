/- How structs and arrays of the program read, cell by cell (printed by rdgen.py). -/
import Derived.Test.YtajeinkkfggcbaaGreatDoorRead
namespace Go.Proofs.YtajeinkkfggcbaaGreatDoor
open Go.RowKit

theorem Tryz.cellsN2 : Tryz.prog.cellsOf 2 = 1 := by kernel_rfl
theorem Tryz.cellsN5 : Tryz.prog.cellsOf 5 = 1 := by kernel_rfl
theorem Tryz.cellsN9 : Tryz.prog.cellsOf 9 = 1 := by kernel_rfl
theorem Tryz.cellsN21 : Tryz.prog.cellsOf 21 = 1 := by kernel_rfl
theorem Tryz.cellsN22 : Tryz.prog.cellsOf 22 = 8 := by kernel_rfl
theorem Tryz.cellsN23 : Tryz.prog.cellsOf 23 = 1 := by kernel_rfl
theorem Tryz.cellsN24 : Tryz.prog.cellsOf 24 = 1 := by kernel_rfl
theorem Tryz.cellsN25 : Tryz.prog.cellsOf 25 = 1 := by kernel_rfl
theorem Tryz.cellsN26 : Tryz.prog.cellsOf 26 = 1 := by kernel_rfl
theorem Tryz.cellsN27 : Tryz.prog.cellsOf 27 = 1 := by kernel_rfl
theorem Tryz.cellsN28 : Tryz.prog.cellsOf 28 = 1 := by kernel_rfl
theorem Tryz.cellsN29 : Tryz.prog.cellsOf 29 = 1 := by kernel_rfl
theorem Tryz.cellsN30 : Tryz.prog.cellsOf 30 = 1 := by kernel_rfl
theorem Tryz.cellsN31 : Tryz.prog.cellsOf 31 = 1 := by kernel_rfl
theorem Tryz.cellsN33 : Tryz.prog.cellsOf 33 = 21 := by kernel_rfl
theorem Tryz.cellsN38 : Tryz.prog.cellsOf 38 = 1 := by kernel_rfl
theorem Tryz.cellsN40 : Tryz.prog.cellsOf 40 = 6 := by kernel_rfl
theorem Tryz.cellsN41 : Tryz.prog.cellsOf 41 = 1 := by kernel_rfl
theorem Tryz.cellsN42 : Tryz.prog.cellsOf 42 = 1 := by kernel_rfl
theorem Tryz.cellsN44 : Tryz.prog.cellsOf 44 = 10 := by kernel_rfl
theorem Tryz.cellsN46 : Tryz.prog.cellsOf 46 = 7 := by kernel_rfl
theorem Tryz.cellsN51 : Tryz.prog.cellsOf 51 = 2 := by kernel_rfl
theorem Tryz.cellsN53 : Tryz.prog.cellsOf 53 = 6 := by kernel_rfl
theorem Tryz.cellsN60 : Tryz.prog.cellsOf 60 = 3 := by kernel_rfl
theorem Tryz.cellsN62 : Tryz.prog.cellsOf 62 = 9 := by kernel_rfl
theorem Tryz.cellsN111 : Tryz.prog.cellsOf 111 = 4 := by kernel_rfl
theorem Tryz.cellsN116 : Tryz.prog.cellsOf 116 = 16 := by kernel_rfl
theorem Tryz.cellsN155 : Tryz.prog.cellsOf 155 = 3 := by kernel_rfl

theorem open_8_uint8 {H : Type} {enc : TypeId × Value → H} {w : World} {cs : List Value} (h : Rd enc Tryz.prog w 22 cs) :
    ∃ (x0 : Int) (x1 : Int) (x2 : Int) (x3 : Int) (x4 : Int) (x5 : Int) (x6 : Int) (x7 : Int), cs = [.int .u8 x0, .int .u8 x1, .int .u8 x2, .int .u8 x3, .int .u8 x4, .int .u8 x5, .int .u8 x6, .int .u8 x7] ∧ (0 ≤ x0 ∧ x0 < 256) ∧ (0 ≤ x1 ∧ x1 < 256) ∧ (0 ≤ x2 ∧ x2 < 256) ∧ (0 ≤ x3 ∧ x3 < 256) ∧ (0 ≤ x4 ∧ x4 < 256) ∧ (0 ≤ x5 ∧ x5 < 256) ∧ (0 ≤ x6 ∧ x6 < 256) ∧ (0 ≤ x7 ∧ x7 < 256) := by
  obtain ⟨c0, c1, c2, c3, c4, c5, c6, c7, rfl⟩ := list8 ((Rd.arrayLength Tryz.underlying22 h).trans Tryz.cellsN22)
  have f0 : Rd enc Tryz.prog w 5 [c0] := by simpa [Tryz.cellsN5] using Rd.elem Tryz.underlying22 h 0 (by decide)
  have f1 : Rd enc Tryz.prog w 5 [c1] := by simpa [Tryz.cellsN5] using Rd.elem Tryz.underlying22 h 1 (by decide)
  have f2 : Rd enc Tryz.prog w 5 [c2] := by simpa [Tryz.cellsN5] using Rd.elem Tryz.underlying22 h 2 (by decide)
  have f3 : Rd enc Tryz.prog w 5 [c3] := by simpa [Tryz.cellsN5] using Rd.elem Tryz.underlying22 h 3 (by decide)
  have f4 : Rd enc Tryz.prog w 5 [c4] := by simpa [Tryz.cellsN5] using Rd.elem Tryz.underlying22 h 4 (by decide)
  have f5 : Rd enc Tryz.prog w 5 [c5] := by simpa [Tryz.cellsN5] using Rd.elem Tryz.underlying22 h 5 (by decide)
  have f6 : Rd enc Tryz.prog w 5 [c6] := by simpa [Tryz.cellsN5] using Rd.elem Tryz.underlying22 h 6 (by decide)
  have f7 : Rd enc Tryz.prog w 5 [c7] := by simpa [Tryz.cellsN5] using Rd.elem Tryz.underlying22 h 7 (by decide)
  obtain ⟨x0, e0, w0⟩ := Rd.int Tryz.underlying5 f0
  simp only [List.cons.injEq, and_true] at e0
  subst e0
  obtain ⟨x1, e1, w1⟩ := Rd.int Tryz.underlying5 f1
  simp only [List.cons.injEq, and_true] at e1
  subst e1
  obtain ⟨x2, e2, w2⟩ := Rd.int Tryz.underlying5 f2
  simp only [List.cons.injEq, and_true] at e2
  subst e2
  obtain ⟨x3, e3, w3⟩ := Rd.int Tryz.underlying5 f3
  simp only [List.cons.injEq, and_true] at e3
  subst e3
  obtain ⟨x4, e4, w4⟩ := Rd.int Tryz.underlying5 f4
  simp only [List.cons.injEq, and_true] at e4
  subst e4
  obtain ⟨x5, e5, w5⟩ := Rd.int Tryz.underlying5 f5
  simp only [List.cons.injEq, and_true] at e5
  subst e5
  obtain ⟨x6, e6, w6⟩ := Rd.int Tryz.underlying5 f6
  simp only [List.cons.injEq, and_true] at e6
  subst e6
  obtain ⟨x7, e7, w7⟩ := Rd.int Tryz.underlying5 f7
  simp only [List.cons.injEq, and_true] at e7
  subst e7
  exact ⟨x0, x1, x2, x3, x4, x5, x6, x7, rfl, bd_u8 w0, bd_u8 w1, bd_u8 w2, bd_u8 w3, bd_u8 w4, bd_u8 w5, bd_u8 w6, bd_u8 w7⟩

theorem open_impl_File {H : Type} {enc : TypeId × Value → H} {w : World} {cs : List Value} (h : Rd enc Tryz.prog w 33 cs) :
    ∃ (x0 : Int) (x1 : Int) (x2 : Int) (x3 : Int) (x4 : Int) (x5 : Int) (x6 : Int) (x7 : Int) (x8 : Int) (x9 : Value) (x10 : Value) (x11 : Value) (x12 : Value) (x13 : Value) (x14 : Value) (x15 : Value) (x16 : Value) (x17 : Value) (x18 : Value) (x19 : Value) (x20 : Value), cs = [.int .u8 x0, .int .u8 x1, .int .u8 x2, .int .u8 x3, .int .u8 x4, .int .u8 x5, .int .u8 x6, .int .u8 x7, .int .u32 x8, x9, x10, x11, x12, x13, x14, x15, x16, x17, x18, x19, x20] ∧ (0 ≤ x0 ∧ x0 < 256) ∧ (0 ≤ x1 ∧ x1 < 256) ∧ (0 ≤ x2 ∧ x2 < 256) ∧ (0 ≤ x3 ∧ x3 < 256) ∧ (0 ≤ x4 ∧ x4 < 256) ∧ (0 ≤ x5 ∧ x5 < 256) ∧ (0 ≤ x6 ∧ x6 < 256) ∧ (0 ≤ x7 ∧ x7 < 256) ∧ (0 ≤ x8 ∧ x8 < 4294967296) ∧ Rd enc Tryz.prog w 24 [x9] ∧ Rd enc Tryz.prog w 25 [x10] ∧ Rd enc Tryz.prog w 25 [x11] ∧ Rd enc Tryz.prog w 26 [x12] ∧ Rd enc Tryz.prog w 26 [x13] ∧ Rd enc Tryz.prog w 26 [x14] ∧ Rd enc Tryz.prog w 26 [x15] ∧ Rd enc Tryz.prog w 27 [x16] ∧ Rd enc Tryz.prog w 28 [x17] ∧ Rd enc Tryz.prog w 29 [x18] ∧ Rd enc Tryz.prog w 30 [x19] ∧ Rd enc Tryz.prog w 31 [x20] := by
  obtain ⟨c0, c1, c2, c3, c4, c5, c6, c7, c8, c9, c10, c11, c12, c13, c14, c15, c16, c17, c18, c19, c20, rfl⟩ := list21 ((Rd.length Tryz.underlying33 h).trans Tryz.cellsN33)
  have f0 : Rd enc Tryz.prog w 22 [c0, c1, c2, c3, c4, c5, c6, c7] := by simpa [Tryz.cellsN22] using Rd.field Tryz.underlying33 h 0 _ rfl
  have f1 : Rd enc Tryz.prog w 23 [c8] := by simpa [Tryz.cellsN23] using Rd.field Tryz.underlying33 h 1 _ rfl
  have f2 : Rd enc Tryz.prog w 24 [c9] := by simpa [Tryz.cellsN24] using Rd.field Tryz.underlying33 h 2 _ rfl
  have f3 : Rd enc Tryz.prog w 25 [c10] := by simpa [Tryz.cellsN25] using Rd.field Tryz.underlying33 h 3 _ rfl
  have f4 : Rd enc Tryz.prog w 25 [c11] := by simpa [Tryz.cellsN25] using Rd.field Tryz.underlying33 h 4 _ rfl
  have f5 : Rd enc Tryz.prog w 26 [c12] := by simpa [Tryz.cellsN26] using Rd.field Tryz.underlying33 h 5 _ rfl
  have f6 : Rd enc Tryz.prog w 26 [c13] := by simpa [Tryz.cellsN26] using Rd.field Tryz.underlying33 h 6 _ rfl
  have f7 : Rd enc Tryz.prog w 26 [c14] := by simpa [Tryz.cellsN26] using Rd.field Tryz.underlying33 h 7 _ rfl
  have f8 : Rd enc Tryz.prog w 26 [c15] := by simpa [Tryz.cellsN26] using Rd.field Tryz.underlying33 h 8 _ rfl
  have f9 : Rd enc Tryz.prog w 27 [c16] := by simpa [Tryz.cellsN27] using Rd.field Tryz.underlying33 h 9 _ rfl
  have f10 : Rd enc Tryz.prog w 28 [c17] := by simpa [Tryz.cellsN28] using Rd.field Tryz.underlying33 h 10 _ rfl
  have f11 : Rd enc Tryz.prog w 29 [c18] := by simpa [Tryz.cellsN29] using Rd.field Tryz.underlying33 h 11 _ rfl
  have f12 : Rd enc Tryz.prog w 30 [c19] := by simpa [Tryz.cellsN30] using Rd.field Tryz.underlying33 h 12 _ rfl
  have f13 : Rd enc Tryz.prog w 31 [c20] := by simpa [Tryz.cellsN31] using Rd.field Tryz.underlying33 h 13 _ rfl
  obtain ⟨x0, x1, x2, x3, x4, x5, x6, x7, e0, h0, h1, h2, h3, h4, h5, h6, h7⟩ := open_8_uint8 f0
  simp only [List.cons.injEq, and_true] at e0
  obtain ⟨rfl, rfl, rfl, rfl, rfl, rfl, rfl, rfl⟩ := e0
  obtain ⟨x8, e1, w8⟩ := Rd.int Tryz.underlying23 f1
  simp only [List.cons.injEq, and_true] at e1
  subst e1
  exact ⟨x0, x1, x2, x3, x4, x5, x6, x7, x8, c9, c10, c11, c12, c13, c14, c15, c16, c17, c18, c19, c20, rfl, h0, h1, h2, h3, h4, h5, h6, h7, bd_u32 w8, f2, f3, f4, f5, f6, f7, f8, f9, f10, f11, f12, f13⟩

theorem open_impl_Symbol {H : Type} {enc : TypeId × Value → H} {w : World} {cs : List Value} (h : Rd enc Tryz.prog w 40 cs) :
    ∃ (x0 : Int) (x1 : Int) (x2 : Int) (x3 : Int) (x4 : Int) (x5 : Int), cs = [.int .u16 x0, .int .u8 x1, .int .u8 x2, .int .u8 x3, .int .u32 x4, .int .u32 x5] ∧ (0 ≤ x0 ∧ x0 < 65536) ∧ (0 ≤ x1 ∧ x1 < 256) ∧ (0 ≤ x2 ∧ x2 < 256) ∧ (0 ≤ x3 ∧ x3 < 256) ∧ (0 ≤ x4 ∧ x4 < 4294967296) ∧ (0 ≤ x5 ∧ x5 < 4294967296) := by
  obtain ⟨c0, c1, c2, c3, c4, c5, rfl⟩ := list6 ((Rd.length Tryz.underlying40 h).trans Tryz.cellsN40)
  have f0 : Rd enc Tryz.prog w 38 [c0] := by simpa [Tryz.cellsN38] using Rd.field Tryz.underlying40 h 0 _ rfl
  have f1 : Rd enc Tryz.prog w 5 [c1] := by simpa [Tryz.cellsN5] using Rd.field Tryz.underlying40 h 1 _ rfl
  have f2 : Rd enc Tryz.prog w 5 [c2] := by simpa [Tryz.cellsN5] using Rd.field Tryz.underlying40 h 2 _ rfl
  have f3 : Rd enc Tryz.prog w 5 [c3] := by simpa [Tryz.cellsN5] using Rd.field Tryz.underlying40 h 3 _ rfl
  have f4 : Rd enc Tryz.prog w 23 [c4] := by simpa [Tryz.cellsN23] using Rd.field Tryz.underlying40 h 4 _ rfl
  have f5 : Rd enc Tryz.prog w 23 [c5] := by simpa [Tryz.cellsN23] using Rd.field Tryz.underlying40 h 5 _ rfl
  obtain ⟨x0, e0, w0⟩ := Rd.int Tryz.underlying38 f0
  simp only [List.cons.injEq, and_true] at e0
  subst e0
  obtain ⟨x1, e1, w1⟩ := Rd.int Tryz.underlying5 f1
  simp only [List.cons.injEq, and_true] at e1
  subst e1
  obtain ⟨x2, e2, w2⟩ := Rd.int Tryz.underlying5 f2
  simp only [List.cons.injEq, and_true] at e2
  subst e2
  obtain ⟨x3, e3, w3⟩ := Rd.int Tryz.underlying5 f3
  simp only [List.cons.injEq, and_true] at e3
  subst e3
  obtain ⟨x4, e4, w4⟩ := Rd.int Tryz.underlying23 f4
  simp only [List.cons.injEq, and_true] at e4
  subst e4
  obtain ⟨x5, e5, w5⟩ := Rd.int Tryz.underlying23 f5
  simp only [List.cons.injEq, and_true] at e5
  subst e5
  exact ⟨x0, x1, x2, x3, x4, x5, rfl, bd_u16 w0, bd_u8 w1, bd_u8 w2, bd_u8 w3, bd_u32 w4, bd_u32 w5⟩

theorem open_impl_Defined {H : Type} {enc : TypeId × Value → H} {w : World} {cs : List Value} (h : Rd enc Tryz.prog w 44 cs) :
    ∃ (x0 : ByteArray) (x1 : Int) (x2 : Int) (x3 : Int) (x4 : Int) (x5 : Int) (x6 : Int) (x7 : Value) (x8 : Value) (x9 : ByteArray), cs = [.string x0, .int .u16 x1, .int .u8 x2, .int .u8 x3, .int .u8 x4, .int .u32 x5, .int .u32 x6, x7, x8, .string x9] ∧ x0.size ≤ maxLen ∧ (0 ≤ x1 ∧ x1 < 65536) ∧ (0 ≤ x2 ∧ x2 < 256) ∧ (0 ≤ x3 ∧ x3 < 256) ∧ (0 ≤ x4 ∧ x4 < 256) ∧ (0 ≤ x5 ∧ x5 < 4294967296) ∧ (0 ≤ x6 ∧ x6 < 4294967296) ∧ Rd enc Tryz.prog w 41 [x7] ∧ Rd enc Tryz.prog w 42 [x8] ∧ x9.size ≤ maxLen := by
  obtain ⟨c0, c1, c2, c3, c4, c5, c6, c7, c8, c9, rfl⟩ := list10 ((Rd.length Tryz.underlying44 h).trans Tryz.cellsN44)
  have f0 : Rd enc Tryz.prog w 9 [c0] := by simpa [Tryz.cellsN9] using Rd.field Tryz.underlying44 h 0 _ rfl
  have f1 : Rd enc Tryz.prog w 40 [c1, c2, c3, c4, c5, c6] := by simpa [Tryz.cellsN40] using Rd.field Tryz.underlying44 h 1 _ rfl
  have f2 : Rd enc Tryz.prog w 41 [c7] := by simpa [Tryz.cellsN41] using Rd.field Tryz.underlying44 h 2 _ rfl
  have f3 : Rd enc Tryz.prog w 42 [c8] := by simpa [Tryz.cellsN42] using Rd.field Tryz.underlying44 h 3 _ rfl
  have f4 : Rd enc Tryz.prog w 9 [c9] := by simpa [Tryz.cellsN9] using Rd.field Tryz.underlying44 h 4 _ rfl
  obtain ⟨x0, e0, w0⟩ := Rd.string Tryz.underlying9 f0
  simp only [List.cons.injEq, and_true] at e0
  subst e0
  obtain ⟨x1, x2, x3, x4, x5, x6, e1, h1, h2, h3, h4, h5, h6⟩ := open_impl_Symbol f1
  simp only [List.cons.injEq, and_true] at e1
  obtain ⟨rfl, rfl, rfl, rfl, rfl, rfl⟩ := e1
  obtain ⟨x9, e4, w9⟩ := Rd.string Tryz.underlying9 f4
  simp only [List.cons.injEq, and_true] at e4
  subst e4
  exact ⟨x0, x1, x2, x3, x4, x5, x6, c7, c8, x9, rfl, w0, h1, h2, h3, h4, h5, h6, f2, f3, w9⟩

theorem open_impl_Ref {H : Type} {enc : TypeId × Value → H} {w : World} {cs : List Value} (h : Rd enc Tryz.prog w 51 cs) :
    ∃ (x0 : Int) (x1 : Int), cs = [.int .u32 x0, .int .u32 x1] ∧ (0 ≤ x0 ∧ x0 < 4294967296) ∧ (0 ≤ x1 ∧ x1 < 4294967296) := by
  obtain ⟨c0, c1, rfl⟩ := list2 ((Rd.length Tryz.underlying51 h).trans Tryz.cellsN51)
  have f0 : Rd enc Tryz.prog w 23 [c0] := by simpa [Tryz.cellsN23] using Rd.field Tryz.underlying51 h 0 _ rfl
  have f1 : Rd enc Tryz.prog w 23 [c1] := by simpa [Tryz.cellsN23] using Rd.field Tryz.underlying51 h 1 _ rfl
  obtain ⟨x0, e0, w0⟩ := Rd.int Tryz.underlying23 f0
  simp only [List.cons.injEq, and_true] at e0
  subst e0
  obtain ⟨x1, e1, w1⟩ := Rd.int Tryz.underlying23 f1
  simp only [List.cons.injEq, and_true] at e1
  subst e1
  exact ⟨x0, x1, rfl, bd_u32 w0, bd_u32 w1⟩

theorem open_impl_Relocation {H : Type} {enc : TypeId × Value → H} {w : World} {cs : List Value} (h : Rd enc Tryz.prog w 53 cs) :
    ∃ (x0 : Int) (x1 : Int) (x2 : Int) (x3 : Int) (x4 : Int) (x5 : Int), cs = [.int .i32 x0, .int .u8 x1, .int .u16 x2, .int .i64 x3, .int .u32 x4, .int .u32 x5] ∧ (-2147483648 ≤ x0 ∧ x0 < 2147483648) ∧ (0 ≤ x1 ∧ x1 < 256) ∧ (0 ≤ x2 ∧ x2 < 65536) ∧ (-9223372036854775808 ≤ x3 ∧ x3 < 9223372036854775808) ∧ (0 ≤ x4 ∧ x4 < 4294967296) ∧ (0 ≤ x5 ∧ x5 < 4294967296) := by
  obtain ⟨c0, c1, c2, c3, c4, c5, rfl⟩ := list6 ((Rd.length Tryz.underlying53 h).trans Tryz.cellsN53)
  have f0 : Rd enc Tryz.prog w 21 [c0] := by simpa [Tryz.cellsN21] using Rd.field Tryz.underlying53 h 0 _ rfl
  have f1 : Rd enc Tryz.prog w 5 [c1] := by simpa [Tryz.cellsN5] using Rd.field Tryz.underlying53 h 1 _ rfl
  have f2 : Rd enc Tryz.prog w 38 [c2] := by simpa [Tryz.cellsN38] using Rd.field Tryz.underlying53 h 2 _ rfl
  have f3 : Rd enc Tryz.prog w 2 [c3] := by simpa [Tryz.cellsN2] using Rd.field Tryz.underlying53 h 3 _ rfl
  have f4 : Rd enc Tryz.prog w 51 [c4, c5] := by simpa [Tryz.cellsN51] using Rd.field Tryz.underlying53 h 4 _ rfl
  obtain ⟨x0, e0, w0⟩ := Rd.int Tryz.underlying21 f0
  simp only [List.cons.injEq, and_true] at e0
  subst e0
  obtain ⟨x1, e1, w1⟩ := Rd.int Tryz.underlying5 f1
  simp only [List.cons.injEq, and_true] at e1
  subst e1
  obtain ⟨x2, e2, w2⟩ := Rd.int Tryz.underlying38 f2
  simp only [List.cons.injEq, and_true] at e2
  subst e2
  obtain ⟨x3, e3, w3⟩ := Rd.int Tryz.underlying2 f3
  simp only [List.cons.injEq, and_true] at e3
  subst e3
  obtain ⟨x4, x5, e4, h4, h5⟩ := open_impl_Ref f4
  simp only [List.cons.injEq, and_true] at e4
  obtain ⟨rfl, rfl⟩ := e4
  exact ⟨x0, x1, x2, x3, x4, x5, rfl, bd_i32 w0, bd_u8 w1, bd_u16 w2, bd_i64 w3, h4, h5⟩

theorem open_impl_Auxiliary {H : Type} {enc : TypeId × Value → H} {w : World} {cs : List Value} (h : Rd enc Tryz.prog w 155 cs) :
    ∃ (x0 : Int) (x1 : Int) (x2 : Int), cs = [.int .u8 x0, .int .u32 x1, .int .u32 x2] ∧ (0 ≤ x0 ∧ x0 < 256) ∧ (0 ≤ x1 ∧ x1 < 4294967296) ∧ (0 ≤ x2 ∧ x2 < 4294967296) := by
  obtain ⟨c0, c1, c2, rfl⟩ := list3 ((Rd.length Tryz.underlying155 h).trans Tryz.cellsN155)
  have f0 : Rd enc Tryz.prog w 5 [c0] := by simpa [Tryz.cellsN5] using Rd.field Tryz.underlying155 h 0 _ rfl
  have f1 : Rd enc Tryz.prog w 51 [c1, c2] := by simpa [Tryz.cellsN51] using Rd.field Tryz.underlying155 h 1 _ rfl
  obtain ⟨x0, e0, w0⟩ := Rd.int Tryz.underlying5 f0
  simp only [List.cons.injEq, and_true] at e0
  subst e0
  obtain ⟨x1, x2, e1, h1, h2⟩ := open_impl_Ref f1
  simp only [List.cons.injEq, and_true] at e1
  obtain ⟨rfl, rfl⟩ := e1
  exact ⟨x0, x1, x2, rfl, bd_u8 w0, h1, h2⟩

theorem open_impl_Flagged {H : Type} {enc : TypeId × Value → H} {w : World} {cs : List Value} (h : Rd enc Tryz.prog w 111 cs) :
    ∃ (x0 : Int) (x1 : Int) (x2 : Int) (x3 : Int), cs = [.int .u32 x0, .int .u32 x1, .int .u8 x2, .int .u8 x3] ∧ (0 ≤ x0 ∧ x0 < 4294967296) ∧ (0 ≤ x1 ∧ x1 < 4294967296) ∧ (0 ≤ x2 ∧ x2 < 256) ∧ (0 ≤ x3 ∧ x3 < 256) := by
  obtain ⟨c0, c1, c2, c3, rfl⟩ := list4 ((Rd.length Tryz.underlying111 h).trans Tryz.cellsN111)
  have f0 : Rd enc Tryz.prog w 51 [c0, c1] := by simpa [Tryz.cellsN51] using Rd.field Tryz.underlying111 h 0 _ rfl
  have f1 : Rd enc Tryz.prog w 5 [c2] := by simpa [Tryz.cellsN5] using Rd.field Tryz.underlying111 h 1 _ rfl
  have f2 : Rd enc Tryz.prog w 5 [c3] := by simpa [Tryz.cellsN5] using Rd.field Tryz.underlying111 h 2 _ rfl
  obtain ⟨x0, x1, e0, h0, h1⟩ := open_impl_Ref f0
  simp only [List.cons.injEq, and_true] at e0
  obtain ⟨rfl, rfl⟩ := e0
  obtain ⟨x2, e1, w2⟩ := Rd.int Tryz.underlying5 f1
  simp only [List.cons.injEq, and_true] at e1
  subst e1
  obtain ⟨x3, e2, w3⟩ := Rd.int Tryz.underlying5 f2
  simp only [List.cons.injEq, and_true] at e2
  subst e2
  exact ⟨x0, x1, x2, x3, rfl, h0, h1, bd_u8 w2, bd_u8 w3⟩

theorem open_impl_Import {H : Type} {enc : TypeId × Value → H} {w : World} {cs : List Value} (h : Rd enc Tryz.prog w 62 cs) :
    ∃ (x0 : ByteArray) (x1 : Int) (x2 : Int) (x3 : Int) (x4 : Int) (x5 : Int) (x6 : Int) (x7 : Int) (x8 : Int), cs = [.string x0, .int .u8 x1, .int .u8 x2, .int .u8 x3, .int .u8 x4, .int .u8 x5, .int .u8 x6, .int .u8 x7, .int .u8 x8] ∧ x0.size ≤ maxLen ∧ (0 ≤ x1 ∧ x1 < 256) ∧ (0 ≤ x2 ∧ x2 < 256) ∧ (0 ≤ x3 ∧ x3 < 256) ∧ (0 ≤ x4 ∧ x4 < 256) ∧ (0 ≤ x5 ∧ x5 < 256) ∧ (0 ≤ x6 ∧ x6 < 256) ∧ (0 ≤ x7 ∧ x7 < 256) ∧ (0 ≤ x8 ∧ x8 < 256) := by
  obtain ⟨c0, c1, c2, c3, c4, c5, c6, c7, c8, rfl⟩ := list9 ((Rd.length Tryz.underlying62 h).trans Tryz.cellsN62)
  have f0 : Rd enc Tryz.prog w 9 [c0] := by simpa [Tryz.cellsN9] using Rd.field Tryz.underlying62 h 0 _ rfl
  have f1 : Rd enc Tryz.prog w 22 [c1, c2, c3, c4, c5, c6, c7, c8] := by simpa [Tryz.cellsN22] using Rd.field Tryz.underlying62 h 1 _ rfl
  obtain ⟨x0, e0, w0⟩ := Rd.string Tryz.underlying9 f0
  simp only [List.cons.injEq, and_true] at e0
  subst e0
  obtain ⟨x1, x2, x3, x4, x5, x6, x7, x8, e1, h1, h2, h3, h4, h5, h6, h7, h8⟩ := open_8_uint8 f1
  simp only [List.cons.injEq, and_true] at e1
  obtain ⟨rfl, rfl, rfl, rfl, rfl, rfl, rfl, rfl⟩ := e1
  exact ⟨x0, x1, x2, x3, x4, x5, x6, x7, x8, rfl, w0, h1, h2, h3, h4, h5, h6, h7, h8⟩

theorem open_impl_Referred {H : Type} {enc : TypeId × Value → H} {w : World} {cs : List Value} (h : Rd enc Tryz.prog w 46 cs) :
    ∃ (x0 : ByteArray) (x1 : Int) (x2 : Int) (x3 : Int) (x4 : Int) (x5 : Int) (x6 : Int), cs = [.string x0, .int .u16 x1, .int .u8 x2, .int .u8 x3, .int .u8 x4, .int .u32 x5, .int .u32 x6] ∧ x0.size ≤ maxLen ∧ (0 ≤ x1 ∧ x1 < 65536) ∧ (0 ≤ x2 ∧ x2 < 256) ∧ (0 ≤ x3 ∧ x3 < 256) ∧ (0 ≤ x4 ∧ x4 < 256) ∧ (0 ≤ x5 ∧ x5 < 4294967296) ∧ (0 ≤ x6 ∧ x6 < 4294967296) := by
  obtain ⟨c0, c1, c2, c3, c4, c5, c6, rfl⟩ := list7 ((Rd.length Tryz.underlying46 h).trans Tryz.cellsN46)
  have f0 : Rd enc Tryz.prog w 9 [c0] := by simpa [Tryz.cellsN9] using Rd.field Tryz.underlying46 h 0 _ rfl
  have f1 : Rd enc Tryz.prog w 40 [c1, c2, c3, c4, c5, c6] := by simpa [Tryz.cellsN40] using Rd.field Tryz.underlying46 h 1 _ rfl
  obtain ⟨x0, e0, w0⟩ := Rd.string Tryz.underlying9 f0
  simp only [List.cons.injEq, and_true] at e0
  subst e0
  obtain ⟨x1, x2, x3, x4, x5, x6, e1, h1, h2, h3, h4, h5, h6⟩ := open_impl_Symbol f1
  simp only [List.cons.injEq, and_true] at e1
  obtain ⟨rfl, rfl, rfl, rfl, rfl, rfl⟩ := e1
  exact ⟨x0, x1, x2, x3, x4, x5, x6, rfl, w0, h1, h2, h3, h4, h5, h6⟩

theorem open_impl_Named {H : Type} {enc : TypeId × Value → H} {w : World} {cs : List Value} (h : Rd enc Tryz.prog w 60 cs) :
    ∃ (x0 : Int) (x1 : Int) (x2 : ByteArray), cs = [.int .u32 x0, .int .u32 x1, .string x2] ∧ (0 ≤ x0 ∧ x0 < 4294967296) ∧ (0 ≤ x1 ∧ x1 < 4294967296) ∧ x2.size ≤ maxLen := by
  obtain ⟨c0, c1, c2, rfl⟩ := list3 ((Rd.length Tryz.underlying60 h).trans Tryz.cellsN60)
  have f0 : Rd enc Tryz.prog w 51 [c0, c1] := by simpa [Tryz.cellsN51] using Rd.field Tryz.underlying60 h 0 _ rfl
  have f1 : Rd enc Tryz.prog w 9 [c2] := by simpa [Tryz.cellsN9] using Rd.field Tryz.underlying60 h 1 _ rfl
  obtain ⟨x0, x1, e0, h0, h1⟩ := open_impl_Ref f0
  simp only [List.cons.injEq, and_true] at e0
  obtain ⟨rfl, rfl⟩ := e0
  obtain ⟨x2, e1, w2⟩ := Rd.string Tryz.underlying9 f1
  simp only [List.cons.injEq, and_true] at e1
  subst e1
  exact ⟨x0, x1, x2, rfl, h0, h1, w2⟩

theorem open_16_uint8 {H : Type} {enc : TypeId × Value → H} {w : World} {cs : List Value} (h : Rd enc Tryz.prog w 116 cs) :
    ∃ (x0 : Int) (x1 : Int) (x2 : Int) (x3 : Int) (x4 : Int) (x5 : Int) (x6 : Int) (x7 : Int) (x8 : Int) (x9 : Int) (x10 : Int) (x11 : Int) (x12 : Int) (x13 : Int) (x14 : Int) (x15 : Int), cs = [.int .u8 x0, .int .u8 x1, .int .u8 x2, .int .u8 x3, .int .u8 x4, .int .u8 x5, .int .u8 x6, .int .u8 x7, .int .u8 x8, .int .u8 x9, .int .u8 x10, .int .u8 x11, .int .u8 x12, .int .u8 x13, .int .u8 x14, .int .u8 x15] ∧ (0 ≤ x0 ∧ x0 < 256) ∧ (0 ≤ x1 ∧ x1 < 256) ∧ (0 ≤ x2 ∧ x2 < 256) ∧ (0 ≤ x3 ∧ x3 < 256) ∧ (0 ≤ x4 ∧ x4 < 256) ∧ (0 ≤ x5 ∧ x5 < 256) ∧ (0 ≤ x6 ∧ x6 < 256) ∧ (0 ≤ x7 ∧ x7 < 256) ∧ (0 ≤ x8 ∧ x8 < 256) ∧ (0 ≤ x9 ∧ x9 < 256) ∧ (0 ≤ x10 ∧ x10 < 256) ∧ (0 ≤ x11 ∧ x11 < 256) ∧ (0 ≤ x12 ∧ x12 < 256) ∧ (0 ≤ x13 ∧ x13 < 256) ∧ (0 ≤ x14 ∧ x14 < 256) ∧ (0 ≤ x15 ∧ x15 < 256) := by
  obtain ⟨c0, c1, c2, c3, c4, c5, c6, c7, c8, c9, c10, c11, c12, c13, c14, c15, rfl⟩ := list16 ((Rd.arrayLength Tryz.underlying116 h).trans Tryz.cellsN116)
  have f0 : Rd enc Tryz.prog w 5 [c0] := by simpa [Tryz.cellsN5] using Rd.elem Tryz.underlying116 h 0 (by decide)
  have f1 : Rd enc Tryz.prog w 5 [c1] := by simpa [Tryz.cellsN5] using Rd.elem Tryz.underlying116 h 1 (by decide)
  have f2 : Rd enc Tryz.prog w 5 [c2] := by simpa [Tryz.cellsN5] using Rd.elem Tryz.underlying116 h 2 (by decide)
  have f3 : Rd enc Tryz.prog w 5 [c3] := by simpa [Tryz.cellsN5] using Rd.elem Tryz.underlying116 h 3 (by decide)
  have f4 : Rd enc Tryz.prog w 5 [c4] := by simpa [Tryz.cellsN5] using Rd.elem Tryz.underlying116 h 4 (by decide)
  have f5 : Rd enc Tryz.prog w 5 [c5] := by simpa [Tryz.cellsN5] using Rd.elem Tryz.underlying116 h 5 (by decide)
  have f6 : Rd enc Tryz.prog w 5 [c6] := by simpa [Tryz.cellsN5] using Rd.elem Tryz.underlying116 h 6 (by decide)
  have f7 : Rd enc Tryz.prog w 5 [c7] := by simpa [Tryz.cellsN5] using Rd.elem Tryz.underlying116 h 7 (by decide)
  have f8 : Rd enc Tryz.prog w 5 [c8] := by simpa [Tryz.cellsN5] using Rd.elem Tryz.underlying116 h 8 (by decide)
  have f9 : Rd enc Tryz.prog w 5 [c9] := by simpa [Tryz.cellsN5] using Rd.elem Tryz.underlying116 h 9 (by decide)
  have f10 : Rd enc Tryz.prog w 5 [c10] := by simpa [Tryz.cellsN5] using Rd.elem Tryz.underlying116 h 10 (by decide)
  have f11 : Rd enc Tryz.prog w 5 [c11] := by simpa [Tryz.cellsN5] using Rd.elem Tryz.underlying116 h 11 (by decide)
  have f12 : Rd enc Tryz.prog w 5 [c12] := by simpa [Tryz.cellsN5] using Rd.elem Tryz.underlying116 h 12 (by decide)
  have f13 : Rd enc Tryz.prog w 5 [c13] := by simpa [Tryz.cellsN5] using Rd.elem Tryz.underlying116 h 13 (by decide)
  have f14 : Rd enc Tryz.prog w 5 [c14] := by simpa [Tryz.cellsN5] using Rd.elem Tryz.underlying116 h 14 (by decide)
  have f15 : Rd enc Tryz.prog w 5 [c15] := by simpa [Tryz.cellsN5] using Rd.elem Tryz.underlying116 h 15 (by decide)
  obtain ⟨x0, e0, w0⟩ := Rd.int Tryz.underlying5 f0
  simp only [List.cons.injEq, and_true] at e0
  subst e0
  obtain ⟨x1, e1, w1⟩ := Rd.int Tryz.underlying5 f1
  simp only [List.cons.injEq, and_true] at e1
  subst e1
  obtain ⟨x2, e2, w2⟩ := Rd.int Tryz.underlying5 f2
  simp only [List.cons.injEq, and_true] at e2
  subst e2
  obtain ⟨x3, e3, w3⟩ := Rd.int Tryz.underlying5 f3
  simp only [List.cons.injEq, and_true] at e3
  subst e3
  obtain ⟨x4, e4, w4⟩ := Rd.int Tryz.underlying5 f4
  simp only [List.cons.injEq, and_true] at e4
  subst e4
  obtain ⟨x5, e5, w5⟩ := Rd.int Tryz.underlying5 f5
  simp only [List.cons.injEq, and_true] at e5
  subst e5
  obtain ⟨x6, e6, w6⟩ := Rd.int Tryz.underlying5 f6
  simp only [List.cons.injEq, and_true] at e6
  subst e6
  obtain ⟨x7, e7, w7⟩ := Rd.int Tryz.underlying5 f7
  simp only [List.cons.injEq, and_true] at e7
  subst e7
  obtain ⟨x8, e8, w8⟩ := Rd.int Tryz.underlying5 f8
  simp only [List.cons.injEq, and_true] at e8
  subst e8
  obtain ⟨x9, e9, w9⟩ := Rd.int Tryz.underlying5 f9
  simp only [List.cons.injEq, and_true] at e9
  subst e9
  obtain ⟨x10, e10, w10⟩ := Rd.int Tryz.underlying5 f10
  simp only [List.cons.injEq, and_true] at e10
  subst e10
  obtain ⟨x11, e11, w11⟩ := Rd.int Tryz.underlying5 f11
  simp only [List.cons.injEq, and_true] at e11
  subst e11
  obtain ⟨x12, e12, w12⟩ := Rd.int Tryz.underlying5 f12
  simp only [List.cons.injEq, and_true] at e12
  subst e12
  obtain ⟨x13, e13, w13⟩ := Rd.int Tryz.underlying5 f13
  simp only [List.cons.injEq, and_true] at e13
  subst e13
  obtain ⟨x14, e14, w14⟩ := Rd.int Tryz.underlying5 f14
  simp only [List.cons.injEq, and_true] at e14
  subst e14
  obtain ⟨x15, e15, w15⟩ := Rd.int Tryz.underlying5 f15
  simp only [List.cons.injEq, and_true] at e15
  subst e15
  exact ⟨x0, x1, x2, x3, x4, x5, x6, x7, x8, x9, x10, x11, x12, x13, x14, x15, rfl, bd_u8 w0, bd_u8 w1, bd_u8 w2, bd_u8 w3, bd_u8 w4, bd_u8 w5, bd_u8 w6, bd_u8 w7, bd_u8 w8, bd_u8 w9, bd_u8 w10, bd_u8 w11, bd_u8 w12, bd_u8 w13, bd_u8 w14, bd_u8 w15⟩

end Go.Proofs.YtajeinkkfggcbaaGreatDoor
