/-
  DERIVED: THE SHELF's CONTRACTS AT THIS DUMP, IN PLAIN WORDS (tools/lay-plain.mjs out of 'TryzShelf.lean', which tools/lay-shelf.mjs wrote): THE SAME DECLARATIONS UNDER THE SAME NAMES: 'import', 'namespace', 'open', 'def', 'theorem' AND NOTHING ELSE: no command of the shelf's: FOR A HAND-IN. Each laying: the table of numbers ('.._ren') and one theorem, a field a fact of the dump's own or the kernel's comparison; each contract: ONE APPLICATION.
-/
import Derived.Test.YtedjadicdodahaaGreatDoorShelf
import Derived.Ground.MnProg
import Derived.Shelf.Bin.PutUvarint
import Derived.Test.YtedjadicdodahaaGreatDoorProg
namespace Go.Proofs
open Go.Shelf
open Go.RowKit in
def Tryz.laysBin46_ren : Go.Shelf.Ren := ⟨fun | 46 => 105 | n => n, fun | 22 => 70 | 33 => 107 | 3 => 3 | 4 => 4 | 5 => 5 | 0 => 0 | 45 => 110 | n => n, fun | n => n⟩
theorem Tryz.laysBin46 : Go.Proofs.LaysBin.n46 Tryz.prog Tryz.laysBin46_ren := {
  mixed := by kernel_rfl
  f46 := Tryz.func105.trans (congrArg some (by kernel_rfl))
  t0 := Tryz.underlying0
  a0 := Tryz.isAgg0
  z0 := Tryz.sizeOf0
  v0 := Tryz.zeroValue0
  i0 := by kernel_rfl
  t3 := Tryz.underlying3
  a3 := Tryz.isAgg3
  z3 := Tryz.sizeOf3
  v3 := Tryz.zeroValue3
  i3 := by kernel_rfl
  t4 := Tryz.underlying4
  a4 := Tryz.isAgg4
  z4 := Tryz.sizeOf4
  v4 := Tryz.zeroValue4
  i4 := by kernel_rfl
  t5 := Tryz.underlying5
  a5 := Tryz.isAgg5
  z5 := Tryz.sizeOf5
  v5 := Tryz.zeroValue5
  i5 := by kernel_rfl
  t22 := Tryz.underlying70
  a22 := Tryz.isAgg70
  z22 := Tryz.sizeOf70
  v22 := Tryz.zeroValue70
  i22 := by kernel_rfl
  t33 := Tryz.underlying107
  a33 := Tryz.isAgg107
  z33 := Tryz.sizeOf107
  v33 := Tryz.zeroValue107
  i33 := by kernel_rfl
  t45 := Tryz.underlying110
  a45 := Tryz.isAgg110
  z45 := Tryz.sizeOf110
  v45 := Tryz.zeroValue110
  i45 := by kernel_rfl }
open Go.RowKit in
/-- binary.PutUvarint: "PutUvarint encodes a uint64 into buf and returns the number of bytes written. If the buffer is too small, PutUvarint will panic.": WHERE buf HAS ROOM: x's VARINT ('Lib.uvarint x') IS LAID IN buf's FIRST CELLS ('World.setCells'); its length comes back; nothing else turns. (LAID: no walk: one application.) -/
theorem Tryz.binary_PutUvarint (g o n c x : Nat) (hx : x < 18446744073709551616) (w : World) (hn : (Lib.uvarint x).length ≤ n) (hcell : ∀ j, j < (Lib.uvarint x).length → (w.cell? ⟨g, o + j, none⟩).isSome = true ∧ w.frozen? ⟨g, o + j, none⟩ = false) :
    Calls Tryz.prog 105 #[.slice (some ⟨g, o, none⟩) n c, .int .u64 x] w fun e w' => e = .returned (.int .i64 (Lib.uvarint x).length) ∧ w' = w.setCells g o (Lib.byteCells (Lib.uvarint x)) := Any.binary_PutUvarint Tryz.laysBin46 g o n c x hx w hn hcell
end Go.Proofs
