/- How an argument reads, without its datum: what a walk asks of a value that came in. For every program. -/
import Derived.ProofKit
import Derived.OpenShut
import Derived.Deep.Slices
import Derived.Test.YtedjadicdodahaaGreatDoorLaw
namespace Go.Proofs.YtedjadicdodahaaGreatDoor
open Go.ChangeShapes Go.WideShapes Go.ChangeAt Go.RowKit Go.WideElems Go.Deep

/-- The cells cs read as a value of type t. -/
def Rd {H : Type} (enc : TypeId × Value → H) (P : Program) (w : World) (t : TypeId) (cs : List Value) : Prop := ∃ fuel x, DataW.trod enc P w 0 (fun _ => true) true fuel t cs = some x

section
variable {H : Type} {enc : TypeId × Value → H} {P : Program} {w : World} {t : TypeId} {cs : List Value}

theorem Rd.of_trod {v : Value} {d : DataW H} {ps : List MemPlace} (h : DataW.Trod enc P w 0 (fun _ => true) true t v d ps) : Rd enc P w t v.cells.toList :=
  let ⟨n, hn⟩ := h
  ⟨n, _, hn⟩

theorem Rd.int {k : IntKind} (ht : P.underlying t = some (.int k)) (h : Rd enc P w t cs) : ∃ n, cs = [.int k n] ∧ (Lit.int k n).wf = true := by
  obtain ⟨fuel, x, h⟩ := h
  obtain ⟨n, hc, _, hw⟩ := DataW.trod_int ht h
  exact ⟨n, hc, hw⟩
theorem Rd.bool (ht : P.underlying t = some .bool) (h : Rd enc P w t cs) : ∃ b, cs = [.bool b] := by
  obtain ⟨fuel, x, h⟩ := h
  obtain ⟨n, hc, _⟩ := DataW.trod_bool ht h
  exact ⟨n, hc⟩
theorem Rd.string (ht : P.underlying t = some .string) (h : Rd enc P w t cs) : ∃ s : ByteArray, cs = [.string s] ∧ s.size ≤ maxLen := by
  obtain ⟨fuel, x, h⟩ := h
  obtain ⟨n, hc, _, hw⟩ := DataW.trod_string ht h
  exact ⟨n, hc, hw⟩
theorem Rd.length {fs : Array Field} (ht : P.underlying t = some (.struct fs)) (h : Rd enc P w t cs) : cs.length = P.cellsOf t := by
  obtain ⟨fuel, x, h⟩ := h
  obtain ⟨_, _, _, _, hl, _⟩ := DataW.trod_struct ht h
  exact hl
theorem Rd.field {fs : Array Field} (ht : P.underlying t = some (.struct fs)) (h : Rd enc P w t cs) (i : Nat) (f : Field) (hf : fs[i]? = some f) : Rd enc P w f.type ((cs.drop f.offset).take (P.cellsOf f.type)) := by
  obtain ⟨fuel, x, h⟩ := h
  obtain ⟨xs, n, _, _, _, hx, hg⟩ := DataW.trod_struct ht h
  have hi : i < fs.size := (Array.getElem?_eq_some_iff.1 hf).1
  exact ⟨n, xs[i]'(by omega), (hg i f hf).trans (List.getElem?_eq_getElem (by omega))⟩
theorem Rd.arrayLength {n : Nat} {e : TypeId} (ht : P.underlying t = some (.array n e)) (h : Rd enc P w t cs) : cs.length = P.cellsOf t := by
  obtain ⟨fuel, x, h⟩ := h
  obtain ⟨_, _, _, _, hl, _⟩ := DataW.trod_array ht h
  exact hl
theorem Rd.elem {n : Nat} {e : TypeId} (ht : P.underlying t = some (.array n e)) (h : Rd enc P w t cs) (i : Nat) (hi : i < n) : Rd enc P w e ((cs.drop (i * P.cellsOf e)).take (P.cellsOf e)) := by
  obtain ⟨fuel, x, h⟩ := h
  obtain ⟨xs, m, _, _, _, hx, hg⟩ := DataW.trod_array ht h
  exact ⟨m, xs[i]'(by omega), (hg i hi).trans (List.getElem?_eq_getElem (by omega))⟩
/-- A slice: nil, or an address whose elements' cells read. -/
theorem Rd.slice {e : TypeId} (ht : P.underlying t = some (.slice e)) (h : Rd enc P w t cs) :
    cs = [.slice none 0 0] ∨ ∃ (a : Addr) (len cap : Nat), cs = [.slice (some a) len cap] ∧ len ≤ cap ∧ cap ≤ maxLen ∧
      ∀ i, i < len → ∃ cs', cs'.length = P.cellsOf e ∧ (∀ j, j < P.cellsOf e → w.cell? ((a.add (i * P.cellsOf e)).add j) = cs'[j]?) ∧ Rd enc P w e cs' := by
  obtain ⟨fuel, x, h⟩ := h
  rcases open_slice ht h with ⟨h0, _⟩ | ⟨a, len, cap, m, n, D, Pl, hcs, _, hl, hm, hmm, _, hi⟩
  · exact .inl h0
  · refine .inr ⟨a, len, cap, hcs, hl, hm, fun i hlt => ?_⟩
    simp only [if_true] at hmm
    obtain ⟨cs', hc, hx⟩ := hi i (by omega)
    obtain ⟨_, h2, h3⟩ := World.cells?_some hc
    exact ⟨cs', h2, h3, n, _, hx⟩
end

theorem okWide_arr {P : Program} {w : World} {t e : TypeId} {n base : Nat} {r : Reach} {v : Value} (ht : P.underlying t = some (.array n e)) (h : Value.okWide P w r base t v) : ∃ cs, v = .agg cs ∧ cs.size = P.cellsOf t := by
  simp only [Value.okWide, ht] at h
  obtain ⟨cs, h1, h2, _⟩ := h
  exact ⟨cs, h1, h2⟩

theorem vars_two {H : Type} {enc : TypeId × Value → H} {P : Program} {w : World} {sp : Nat → Bool} {a b : String} {gs : List (DataW H)} {q : List MemPlace} (h : DataW.TrodVars enc P w sp [a, b] gs q) : ∃ g0 g1, gs = [g0, g1] := by
  match gs, h with
  | [g0, g1], _ => exact ⟨g0, g1, rfl⟩

theorem list1 {α : Type} {l : List α} (h : l.length = 1) : ∃ a, l = [a] := by
  match l, h with | [a], _ => exact ⟨a, rfl⟩
theorem list2 {α : Type} {l : List α} (h : l.length = 2) : ∃ a b, l = [a, b] := by
  match l, h with | [a, b], _ => exact ⟨a, b, rfl⟩
theorem list3 {α : Type} {l : List α} (h : l.length = 3) : ∃ a b c, l = [a, b, c] := by
  match l, h with | [a, b, c], _ => exact ⟨a, b, c, rfl⟩
theorem list4 {α : Type} {l : List α} (h : l.length = 4) : ∃ a b c d, l = [a, b, c, d] := by
  match l, h with | [a, b, c, d], _ => exact ⟨a, b, c, d, rfl⟩
theorem list5 {α : Type} {l : List α} (h : l.length = 5) : ∃ a b c d e, l = [a, b, c, d, e] := by
  match l, h with | [a, b, c, d, e], _ => exact ⟨a, b, c, d, e, rfl⟩
theorem list6 {α : Type} {l : List α} (h : l.length = 6) : ∃ a b c d e f, l = [a, b, c, d, e, f] := by
  match l, h with | [a, b, c, d, e, f], _ => exact ⟨a, b, c, d, e, f, rfl⟩
theorem list7 {α : Type} {l : List α} (h : l.length = 7) : ∃ a b c d e f g, l = [a, b, c, d, e, f, g] := by
  match l, h with | [a, b, c, d, e, f, g], _ => exact ⟨a, b, c, d, e, f, g, rfl⟩
theorem list8 {α : Type} {l : List α} (h : l.length = 8) : ∃ a b c d e f g i, l = [a, b, c, d, e, f, g, i] := by
  match l, h with | [a, b, c, d, e, f, g, i], _ => exact ⟨a, b, c, d, e, f, g, i, rfl⟩

theorem list9 {α : Type} {l : List α} (h : l.length = 9) : ∃ a0 a1 a2 a3 a4 a5 a6 a7 a8, l = [a0, a1, a2, a3, a4, a5, a6, a7, a8] := by
  match l, h with | [a0, a1, a2, a3, a4, a5, a6, a7, a8], _ => exact ⟨a0, a1, a2, a3, a4, a5, a6, a7, a8, rfl⟩
theorem list10 {α : Type} {l : List α} (h : l.length = 10) : ∃ a0 a1 a2 a3 a4 a5 a6 a7 a8 a9, l = [a0, a1, a2, a3, a4, a5, a6, a7, a8, a9] := by
  match l, h with | [a0, a1, a2, a3, a4, a5, a6, a7, a8, a9], _ => exact ⟨a0, a1, a2, a3, a4, a5, a6, a7, a8, a9, rfl⟩
theorem list16 {α : Type} {l : List α} (h : l.length = 16) : ∃ a0 a1 a2 a3 a4 a5 a6 a7 a8 a9 a10 a11 a12 a13 a14 a15, l = [a0, a1, a2, a3, a4, a5, a6, a7, a8, a9, a10, a11, a12, a13, a14, a15] := by
  match l, h with | [a0, a1, a2, a3, a4, a5, a6, a7, a8, a9, a10, a11, a12, a13, a14, a15], _ => exact ⟨a0, a1, a2, a3, a4, a5, a6, a7, a8, a9, a10, a11, a12, a13, a14, a15, rfl⟩
theorem list21 {α : Type} {l : List α} (h : l.length = 21) : ∃ a0 a1 a2 a3 a4 a5 a6 a7 a8 a9 a10 a11 a12 a13 a14 a15 a16 a17 a18 a19 a20, l = [a0, a1, a2, a3, a4, a5, a6, a7, a8, a9, a10, a11, a12, a13, a14, a15, a16, a17, a18, a19, a20] := by
  match l, h with | [a0, a1, a2, a3, a4, a5, a6, a7, a8, a9, a10, a11, a12, a13, a14, a15, a16, a17, a18, a19, a20], _ => exact ⟨a0, a1, a2, a3, a4, a5, a6, a7, a8, a9, a10, a11, a12, a13, a14, a15, a16, a17, a18, a19, a20, rfl⟩

/-- A value of a type of one cell is its own cell. -/
theorem cells_agg (cs : Array Value) : (Value.agg cs).cells.toList = cs.toList := rfl

theorem bd_u8 {n : Int} (h : (Lit.int .u8 n).wf = true) : 0 ≤ n ∧ n < 256 := by simp [Lit.wf, IntKind.bits, IntKind.signed, IntKind.min, IntKind.max] at h; omega
theorem bd_u16 {n : Int} (h : (Lit.int .u16 n).wf = true) : 0 ≤ n ∧ n < 65536 := by simp [Lit.wf, IntKind.bits, IntKind.signed, IntKind.min, IntKind.max] at h; omega
theorem bd_u32 {n : Int} (h : (Lit.int .u32 n).wf = true) : 0 ≤ n ∧ n < 4294967296 := by simp [Lit.wf, IntKind.bits, IntKind.signed, IntKind.min, IntKind.max] at h; omega
theorem bd_u64 {n : Int} (h : (Lit.int .u64 n).wf = true) : 0 ≤ n ∧ n < 18446744073709551616 := by simp [Lit.wf, IntKind.bits, IntKind.signed, IntKind.min, IntKind.max] at h; omega
theorem bd_i32 {n : Int} (h : (Lit.int .i32 n).wf = true) : -2147483648 ≤ n ∧ n < 2147483648 := by simp [Lit.wf, IntKind.bits, IntKind.signed, IntKind.min, IntKind.max] at h; omega
theorem bd_i64 {n : Int} (h : (Lit.int .i64 n).wf = true) : -9223372036854775808 ≤ n ∧ n < 9223372036854775808 := by simp [Lit.wf, IntKind.bits, IntKind.signed, IntKind.min, IntKind.max] at h; omega
end Go.Proofs.YtedjadicdodahaaGreatDoor
