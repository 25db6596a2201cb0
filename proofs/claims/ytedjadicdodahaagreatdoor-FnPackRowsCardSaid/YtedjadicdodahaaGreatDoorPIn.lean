/- Elements handed in, as lists. -/
import Derived.Test.YtedjadicdodahaaGreatDoorArgs
import Derived.Test.YtedjadicdodahaaGreatDoorOpen
import Derived.Test.YtedjadicdodahaaGreatDoorQPk
namespace Go.Proofs.YtedjadicdodahaaGreatDoor
open Go.ChangeShapes Go.WideShapes Go.ChangeAt Go.RowKit

abbrev strCells (s : ByteArray) : List Value := [.string s]
def I64 (x : Int) : Prop := -9223372036854775808 ≤ x ∧ x < 9223372036854775808
/-- A value stands in w. -/
structure Bt.In (w : World) (b : Bt) : Prop where
  tx : SlR 1 w b.texts.A (b.texts.l.map strCells)
  txl : b.texts.l.length ≤ maxLen
  txk : ∀ s ∈ b.texts.l, s.size ≤ maxLen
  kind : I64 b.kind
  num : I64 b.num
  sec : I64 b.sec
  text : b.text.size ≤ maxLen
structure Bts.In (w : World) (L : Sl Bt) : Prop where
  l : SlR 5 w L.A (L.l.map Bt.cells)
  sub : ∀ b ∈ L.l, b.In w
  len : L.l.length ≤ maxLen
/-- An element stands in w. -/
structure El.In (w : World) (e : El) : Prop where
  bits : Bts.In w e.bits
  sec : I64 e.sec
  mark : I64 e.mark
structure Els.In (w : World) (L : Sl El) : Prop where
  l : SlR 3 w L.A (L.l.map El.cells)
  sub : ∀ x ∈ L.l, x.In w
  len : L.l.length ≤ maxLen
section
variable {w w' : World}
theorem Bt.In.here {b : Bt} (h : b.In w) (hb : Below w.heap.size w w') : b.In w' := { h with tx := h.tx.here hb }
theorem Bts.In.here {L : Sl Bt} (h : Bts.In w L) (hb : Below w.heap.size w w') : Bts.In w' L := ⟨h.l.here hb, fun b hm => (h.sub b hm).here hb, h.len⟩
theorem El.In.here {e : El} (h : e.In w) (hb : Below w.heap.size w w') : e.In w' := { h with bits := h.bits.here hb }
theorem Els.In.here {L : Sl El} (h : Els.In w L) (hb : Below w.heap.size w w') : Els.In w' L := ⟨h.l.here hb, fun x hm => (h.sub x hm).here hb, h.len⟩
end
section
variable {H : Type} {enc : TypeId × Value → H} {w : World}
theorem Rd.strs {v : Value} (h : Rd enc Tryz.prog w 39 [v]) : ∃ L : Sl ByteArray, v = L.val ∧ SlR 1 w L.A (L.l.map strCells) ∧ (∀ s ∈ L.l, s.size ≤ maxLen) ∧ L.l.length ≤ maxLen := by
  obtain ⟨A, l, c, rfl⟩ := Rd.sl Tryz.underlying39 h
  obtain ⟨xs, rfl, _, h3, h4, h5⟩ := Rd.list strCells (fun s => s.size ≤ maxLen) Tryz.underlying39 (show Tryz.prog.cellsOf 9 = 1 by kernel_rfl) (by omega) (fun cs hr => by
    obtain ⟨s, rfl, b⟩ := Rd.string Tryz.underlying9 hr
    exact ⟨s, rfl, b⟩) h
  exact ⟨⟨A, c, xs⟩, rfl, h4, h5, h3⟩
theorem Rd.bit {cs : List Value} (h : Rd enc Tryz.prog w 41 cs) : ∃ b : Bt, cs = b.cells ∧ b.In w := by
  obtain ⟨k, n, s, t, v, rfl, b0, b1, b2, b3, b4⟩ := open_impl_Bit h
  obtain ⟨X, rfl, x1, x2, x3⟩ := Rd.strs b4
  exact ⟨⟨k, n, s, t, X⟩, rfl, x1, x3, x2, b0, b1, b2, b3⟩
theorem Rd.bits {v : Value} (h : Rd enc Tryz.prog w 22 [v]) : ∃ L : Sl Bt, v = L.val ∧ Bts.In w L := by
  obtain ⟨A, l, c, rfl⟩ := Rd.sl Tryz.underlying22 h
  obtain ⟨xs, rfl, _, h3, h4, h5⟩ := Rd.list Bt.cells (fun b => b.In w) Tryz.underlying22 (show Tryz.prog.cellsOf 41 = 5 by kernel_rfl) (by omega) (fun cs hr => Rd.bit hr) h
  exact ⟨⟨A, c, xs⟩, rfl, h4, h5, h3⟩
theorem Rd.elem_ {cs : List Value} (h : Rd enc Tryz.prog w 24 cs) : ∃ e : El, cs = e.cells ∧ e.In w := by
  obtain ⟨s, m, v, rfl, b0, b1, b2⟩ := open_impl_Element h
  obtain ⟨X, rfl, x1⟩ := Rd.bits b2
  exact ⟨⟨s, m, X⟩, rfl, x1, b0, b1⟩
theorem Rd.els {v : Value} (h : Rd enc Tryz.prog w 27 [v]) : ∃ L : Sl El, v = L.val ∧ Els.In w L := by
  obtain ⟨A, l, c, rfl⟩ := Rd.sl Tryz.underlying27 h
  obtain ⟨xs, rfl, _, h3, h4, h5⟩ := Rd.list El.cells (fun e => e.In w) Tryz.underlying27 (show Tryz.prog.cellsOf 24 = 3 by kernel_rfl) (by omega) (fun cs hr => Rd.elem_ hr) h
  exact ⟨⟨A, c, xs⟩, rfl, h4, h5, h3⟩
end
end Go.Proofs.YtedjadicdodahaaGreatDoor
