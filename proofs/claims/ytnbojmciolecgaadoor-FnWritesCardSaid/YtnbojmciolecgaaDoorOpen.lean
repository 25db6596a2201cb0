/- How structs and arrays of the program read, cell by cell (printed by rdgen.py). -/
import Derived.Test.YtnbojmciolecgaaDoorRead
namespace Go.Proofs.YtnbojmciolecgaaDoor
open Go.RowKit

theorem Tryd.cellsN2 : Tryd.prog.cellsOf 2 = 1 := by kernel_rfl
theorem Tryd.cellsN5 : Tryd.prog.cellsOf 5 = 1 := by kernel_rfl
theorem Tryd.cellsN9 : Tryd.prog.cellsOf 9 = 1 := by kernel_rfl
theorem Tryd.cellsN21 : Tryd.prog.cellsOf 21 = 1 := by kernel_rfl
theorem Tryd.cellsN22 : Tryd.prog.cellsOf 22 = 1 := by kernel_rfl
theorem Tryd.cellsN24 : Tryd.prog.cellsOf 24 = 2 := by kernel_rfl
theorem Tryd.cellsN26 : Tryd.prog.cellsOf 26 = 3 := by kernel_rfl
theorem Tryd.cellsN32 : Tryd.prog.cellsOf 32 = 1 := by kernel_rfl
theorem Tryd.cellsN34 : Tryd.prog.cellsOf 34 = 6 := by kernel_rfl
theorem Tryd.cellsN38 : Tryd.prog.cellsOf 38 = 4 := by kernel_rfl
theorem Tryd.cellsN43 : Tryd.prog.cellsOf 43 = 6 := by kernel_rfl
theorem Tryd.cellsN49 : Tryd.prog.cellsOf 49 = 1 := by kernel_rfl
theorem Tryd.cellsN50 : Tryd.prog.cellsOf 50 = 1 := by kernel_rfl
theorem Tryd.cellsN52 : Tryd.prog.cellsOf 52 = 7 := by kernel_rfl
theorem Tryd.cellsN62 : Tryd.prog.cellsOf 62 = 1 := by kernel_rfl
theorem Tryd.cellsN64 : Tryd.prog.cellsOf 64 = 3 := by kernel_rfl

theorem open_impl_Ref {H : Type} {enc : TypeId × Value → H} {w : World} {cs : List Value} (h : Rd enc Tryd.prog w 24 cs) :
    ∃ (x0 : Int) (x1 : Int), cs = [.int .u32 x0, .int .u32 x1] ∧ (0 ≤ x0 ∧ x0 < 4294967296) ∧ (0 ≤ x1 ∧ x1 < 4294967296) := by
  obtain ⟨c0, c1, rfl⟩ := list2 ((Rd.length Tryd.underlying24 h).trans Tryd.cellsN24)
  have f0 : Rd enc Tryd.prog w 22 [c0] := by simpa [Tryd.cellsN22] using Rd.field Tryd.underlying24 h 0 _ rfl
  have f1 : Rd enc Tryd.prog w 22 [c1] := by simpa [Tryd.cellsN22] using Rd.field Tryd.underlying24 h 1 _ rfl
  obtain ⟨x0, e0, w0⟩ := Rd.int Tryd.underlying22 f0
  simp only [List.cons.injEq, and_true] at e0
  subst e0
  obtain ⟨x1, e1, w1⟩ := Rd.int Tryd.underlying22 f1
  simp only [List.cons.injEq, and_true] at e1
  subst e1
  exact ⟨x0, x1, rfl, bd_u32 w0, bd_u32 w1⟩

theorem open_impl_Auxiliary {H : Type} {enc : TypeId × Value → H} {w : World} {cs : List Value} (h : Rd enc Tryd.prog w 26 cs) :
    ∃ (x0 : Int) (x1 : Int) (x2 : Int), cs = [.int .u8 x0, .int .u32 x1, .int .u32 x2] ∧ (0 ≤ x0 ∧ x0 < 256) ∧ (0 ≤ x1 ∧ x1 < 4294967296) ∧ (0 ≤ x2 ∧ x2 < 4294967296) := by
  obtain ⟨c0, c1, c2, rfl⟩ := list3 ((Rd.length Tryd.underlying26 h).trans Tryd.cellsN26)
  have f0 : Rd enc Tryd.prog w 5 [c0] := by simpa [Tryd.cellsN5] using Rd.field Tryd.underlying26 h 0 _ rfl
  have f1 : Rd enc Tryd.prog w 24 [c1, c2] := by simpa [Tryd.cellsN24] using Rd.field Tryd.underlying26 h 1 _ rfl
  obtain ⟨x0, e0, w0⟩ := Rd.int Tryd.underlying5 f0
  simp only [List.cons.injEq, and_true] at e0
  subst e0
  obtain ⟨x1, x2, e1, h1, h2⟩ := open_impl_Ref f1
  simp only [List.cons.injEq, and_true] at e1
  obtain ⟨rfl, rfl⟩ := e1
  exact ⟨x0, x1, x2, rfl, bd_u8 w0, h1, h2⟩

theorem open_impl_Relocation {H : Type} {enc : TypeId × Value → H} {w : World} {cs : List Value} (h : Rd enc Tryd.prog w 34 cs) :
    ∃ (x0 : Int) (x1 : Int) (x2 : Int) (x3 : Int) (x4 : Int) (x5 : Int), cs = [.int .i32 x0, .int .u8 x1, .int .u16 x2, .int .i64 x3, .int .u32 x4, .int .u32 x5] ∧ (-2147483648 ≤ x0 ∧ x0 < 2147483648) ∧ (0 ≤ x1 ∧ x1 < 256) ∧ (0 ≤ x2 ∧ x2 < 65536) ∧ (-9223372036854775808 ≤ x3 ∧ x3 < 9223372036854775808) ∧ (0 ≤ x4 ∧ x4 < 4294967296) ∧ (0 ≤ x5 ∧ x5 < 4294967296) := by
  obtain ⟨c0, c1, c2, c3, c4, c5, rfl⟩ := list6 ((Rd.length Tryd.underlying34 h).trans Tryd.cellsN34)
  have f0 : Rd enc Tryd.prog w 21 [c0] := by simpa [Tryd.cellsN21] using Rd.field Tryd.underlying34 h 0 _ rfl
  have f1 : Rd enc Tryd.prog w 5 [c1] := by simpa [Tryd.cellsN5] using Rd.field Tryd.underlying34 h 1 _ rfl
  have f2 : Rd enc Tryd.prog w 32 [c2] := by simpa [Tryd.cellsN32] using Rd.field Tryd.underlying34 h 2 _ rfl
  have f3 : Rd enc Tryd.prog w 2 [c3] := by simpa [Tryd.cellsN2] using Rd.field Tryd.underlying34 h 3 _ rfl
  have f4 : Rd enc Tryd.prog w 24 [c4, c5] := by simpa [Tryd.cellsN24] using Rd.field Tryd.underlying34 h 4 _ rfl
  obtain ⟨x0, e0, w0⟩ := Rd.int Tryd.underlying21 f0
  simp only [List.cons.injEq, and_true] at e0
  subst e0
  obtain ⟨x1, e1, w1⟩ := Rd.int Tryd.underlying5 f1
  simp only [List.cons.injEq, and_true] at e1
  subst e1
  obtain ⟨x2, e2, w2⟩ := Rd.int Tryd.underlying32 f2
  simp only [List.cons.injEq, and_true] at e2
  subst e2
  obtain ⟨x3, e3, w3⟩ := Rd.int Tryd.underlying2 f3
  simp only [List.cons.injEq, and_true] at e3
  subst e3
  obtain ⟨x4, x5, e4, h4, h5⟩ := open_impl_Ref f4
  simp only [List.cons.injEq, and_true] at e4
  obtain ⟨rfl, rfl⟩ := e4
  exact ⟨x0, x1, x2, x3, x4, x5, rfl, bd_i32 w0, bd_u8 w1, bd_u16 w2, bd_i64 w3, h4, h5⟩

theorem open_impl_Flagged {H : Type} {enc : TypeId × Value → H} {w : World} {cs : List Value} (h : Rd enc Tryd.prog w 38 cs) :
    ∃ (x0 : Int) (x1 : Int) (x2 : Int) (x3 : Int), cs = [.int .u32 x0, .int .u32 x1, .int .u8 x2, .int .u8 x3] ∧ (0 ≤ x0 ∧ x0 < 4294967296) ∧ (0 ≤ x1 ∧ x1 < 4294967296) ∧ (0 ≤ x2 ∧ x2 < 256) ∧ (0 ≤ x3 ∧ x3 < 256) := by
  obtain ⟨c0, c1, c2, c3, rfl⟩ := list4 ((Rd.length Tryd.underlying38 h).trans Tryd.cellsN38)
  have f0 : Rd enc Tryd.prog w 24 [c0, c1] := by simpa [Tryd.cellsN24] using Rd.field Tryd.underlying38 h 0 _ rfl
  have f1 : Rd enc Tryd.prog w 5 [c2] := by simpa [Tryd.cellsN5] using Rd.field Tryd.underlying38 h 1 _ rfl
  have f2 : Rd enc Tryd.prog w 5 [c3] := by simpa [Tryd.cellsN5] using Rd.field Tryd.underlying38 h 2 _ rfl
  obtain ⟨x0, x1, e0, h0, h1⟩ := open_impl_Ref f0
  simp only [List.cons.injEq, and_true] at e0
  obtain ⟨rfl, rfl⟩ := e0
  obtain ⟨x2, e1, w2⟩ := Rd.int Tryd.underlying5 f1
  simp only [List.cons.injEq, and_true] at e1
  subst e1
  obtain ⟨x3, e2, w3⟩ := Rd.int Tryd.underlying5 f2
  simp only [List.cons.injEq, and_true] at e2
  subst e2
  exact ⟨x0, x1, x2, x3, rfl, h0, h1, bd_u8 w2, bd_u8 w3⟩

theorem open_impl_Inlined {H : Type} {enc : TypeId × Value → H} {w : World} {cs : List Value} (h : Rd enc Tryd.prog w 43 cs) :
    ∃ (x0 : Int) (x1 : Int) (x2 : Int) (x3 : Int) (x4 : Int) (x5 : Int), cs = [.int .i32 x0, .int .u32 x1, .int .i32 x2, .int .u32 x3, .int .u32 x4, .int .i32 x5] ∧ (-2147483648 ≤ x0 ∧ x0 < 2147483648) ∧ (0 ≤ x1 ∧ x1 < 4294967296) ∧ (-2147483648 ≤ x2 ∧ x2 < 2147483648) ∧ (0 ≤ x3 ∧ x3 < 4294967296) ∧ (0 ≤ x4 ∧ x4 < 4294967296) ∧ (-2147483648 ≤ x5 ∧ x5 < 2147483648) := by
  obtain ⟨c0, c1, c2, c3, c4, c5, rfl⟩ := list6 ((Rd.length Tryd.underlying43 h).trans Tryd.cellsN43)
  have f0 : Rd enc Tryd.prog w 21 [c0] := by simpa [Tryd.cellsN21] using Rd.field Tryd.underlying43 h 0 _ rfl
  have f1 : Rd enc Tryd.prog w 22 [c1] := by simpa [Tryd.cellsN22] using Rd.field Tryd.underlying43 h 1 _ rfl
  have f2 : Rd enc Tryd.prog w 21 [c2] := by simpa [Tryd.cellsN21] using Rd.field Tryd.underlying43 h 2 _ rfl
  have f3 : Rd enc Tryd.prog w 24 [c3, c4] := by simpa [Tryd.cellsN24] using Rd.field Tryd.underlying43 h 3 _ rfl
  have f4 : Rd enc Tryd.prog w 21 [c5] := by simpa [Tryd.cellsN21] using Rd.field Tryd.underlying43 h 4 _ rfl
  obtain ⟨x0, e0, w0⟩ := Rd.int Tryd.underlying21 f0
  simp only [List.cons.injEq, and_true] at e0
  subst e0
  obtain ⟨x1, e1, w1⟩ := Rd.int Tryd.underlying22 f1
  simp only [List.cons.injEq, and_true] at e1
  subst e1
  obtain ⟨x2, e2, w2⟩ := Rd.int Tryd.underlying21 f2
  simp only [List.cons.injEq, and_true] at e2
  subst e2
  obtain ⟨x3, x4, e3, h3, h4⟩ := open_impl_Ref f3
  simp only [List.cons.injEq, and_true] at e3
  obtain ⟨rfl, rfl⟩ := e3
  obtain ⟨x5, e4, w5⟩ := Rd.int Tryd.underlying21 f4
  simp only [List.cons.injEq, and_true] at e4
  subst e4
  exact ⟨x0, x1, x2, x3, x4, x5, rfl, bd_i32 w0, bd_u32 w1, bd_i32 w2, h3, h4, bd_i32 w5⟩

theorem open_impl_Function {H : Type} {enc : TypeId × Value → H} {w : World} {cs : List Value} (h : Rd enc Tryd.prog w 52 cs) :
    ∃ (x0 : Int) (x1 : Int) (x2 : Int) (x3 : Int) (x4 : Int) (x5 : Value) (x6 : Value), cs = [.int .u32 x0, .int .u32 x1, .int .u8 x2, .int .u8 x3, .int .i32 x4, x5, x6] ∧ (0 ≤ x0 ∧ x0 < 4294967296) ∧ (0 ≤ x1 ∧ x1 < 4294967296) ∧ (0 ≤ x2 ∧ x2 < 256) ∧ (0 ≤ x3 ∧ x3 < 256) ∧ (-2147483648 ≤ x4 ∧ x4 < 2147483648) ∧ Rd enc Tryd.prog w 49 [x5] ∧ Rd enc Tryd.prog w 50 [x6] := by
  obtain ⟨c0, c1, c2, c3, c4, c5, c6, rfl⟩ := list7 ((Rd.length Tryd.underlying52 h).trans Tryd.cellsN52)
  have f0 : Rd enc Tryd.prog w 22 [c0] := by simpa [Tryd.cellsN22] using Rd.field Tryd.underlying52 h 0 _ rfl
  have f1 : Rd enc Tryd.prog w 22 [c1] := by simpa [Tryd.cellsN22] using Rd.field Tryd.underlying52 h 1 _ rfl
  have f2 : Rd enc Tryd.prog w 5 [c2] := by simpa [Tryd.cellsN5] using Rd.field Tryd.underlying52 h 2 _ rfl
  have f3 : Rd enc Tryd.prog w 5 [c3] := by simpa [Tryd.cellsN5] using Rd.field Tryd.underlying52 h 3 _ rfl
  have f4 : Rd enc Tryd.prog w 21 [c4] := by simpa [Tryd.cellsN21] using Rd.field Tryd.underlying52 h 4 _ rfl
  have f5 : Rd enc Tryd.prog w 49 [c5] := by simpa [Tryd.cellsN49] using Rd.field Tryd.underlying52 h 5 _ rfl
  have f6 : Rd enc Tryd.prog w 50 [c6] := by simpa [Tryd.cellsN50] using Rd.field Tryd.underlying52 h 6 _ rfl
  obtain ⟨x0, e0, w0⟩ := Rd.int Tryd.underlying22 f0
  simp only [List.cons.injEq, and_true] at e0
  subst e0
  obtain ⟨x1, e1, w1⟩ := Rd.int Tryd.underlying22 f1
  simp only [List.cons.injEq, and_true] at e1
  subst e1
  obtain ⟨x2, e2, w2⟩ := Rd.int Tryd.underlying5 f2
  simp only [List.cons.injEq, and_true] at e2
  subst e2
  obtain ⟨x3, e3, w3⟩ := Rd.int Tryd.underlying5 f3
  simp only [List.cons.injEq, and_true] at e3
  subst e3
  obtain ⟨x4, e4, w4⟩ := Rd.int Tryd.underlying21 f4
  simp only [List.cons.injEq, and_true] at e4
  subst e4
  exact ⟨x0, x1, x2, x3, x4, c5, c6, rfl, bd_u32 w0, bd_u32 w1, bd_u8 w2, bd_u8 w3, bd_i32 w4, f5, f6⟩

theorem open_impl_Written {H : Type} {enc : TypeId × Value → H} {w : World} {cs : List Value} (h : Rd enc Tryd.prog w 64 cs) :
    ∃ (x0 : Int) (x1 : Int) (x2 : ByteArray), cs = [.int .i64 x0, .int .u64 x1, .string x2] ∧ (-9223372036854775808 ≤ x0 ∧ x0 < 9223372036854775808) ∧ (0 ≤ x1 ∧ x1 < 18446744073709551616) ∧ x2.size ≤ maxLen := by
  obtain ⟨c0, c1, c2, rfl⟩ := list3 ((Rd.length Tryd.underlying64 h).trans Tryd.cellsN64)
  have f0 : Rd enc Tryd.prog w 2 [c0] := by simpa [Tryd.cellsN2] using Rd.field Tryd.underlying64 h 0 _ rfl
  have f1 : Rd enc Tryd.prog w 62 [c1] := by simpa [Tryd.cellsN62] using Rd.field Tryd.underlying64 h 1 _ rfl
  have f2 : Rd enc Tryd.prog w 9 [c2] := by simpa [Tryd.cellsN9] using Rd.field Tryd.underlying64 h 2 _ rfl
  obtain ⟨x0, e0, w0⟩ := Rd.int Tryd.underlying2 f0
  simp only [List.cons.injEq, and_true] at e0
  subst e0
  obtain ⟨x1, e1, w1⟩ := Rd.int Tryd.underlying62 f1
  simp only [List.cons.injEq, and_true] at e1
  subst e1
  obtain ⟨x2, e2, w2⟩ := Rd.string Tryd.underlying9 f2
  simp only [List.cons.injEq, and_true] at e2
  subst e2
  exact ⟨x0, x1, x2, rfl, bd_i64 w0, bd_u64 w1, w2⟩

end Go.Proofs.YtnbojmciolecgaaDoor
