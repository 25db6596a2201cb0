/- sha256: the digest's state as a function of what is written. (printed by gen_pdig.py) -/
import Derived.Laws.CopyRow
import Derived.Test.YtedjadicdodahaaGreatDoorPShaF
namespace Go.Proofs.YtedjadicdodahaaGreatDoor
open Go.RowKit

structure Dg where
  v : V8
  x : List Int
  nx : Nat
  len : Nat
abbrev Dg.rest (D : Dg) : List Value := D.x.map (Value.int .u8) ++ [.int .i64 D.nx, .int .u64 D.len, .bool false]
abbrev Dg.arr (D : Dg) : Array Value := (D.v.cells ++ D.rest).toArray
structure Dg.Ok (D : Dg) : Prop where
  x : D.x.length = 64
  nx : D.nx < 64
  len : D.len ≤ 4611686018427387904
  mod : D.nx = D.len % 64
/-- ys over x, from o on. -/
def spl (x : List Int) (o : Nat) (ys : List Int) : List Int := x.take o ++ ys ++ x.drop (o + ys.length)
theorem spl_len (x : List Int) (o : Nat) (ys : List Int) (h : o + ys.length ≤ x.length) : (spl x o ys).length = x.length := by
  unfold spl
  simp only [List.length_append, List.length_take, List.length_drop]
  omega
/-- What fills the block that is begun. -/
def Dg.a (K : List Int) (D : Dg) (ps : List Int) : Dg × List Int :=
  if D.nx = 0 then (D, ps)
  else if D.nx + min ps.length (64 - D.nx) = 64 then (⟨blkF K (spl D.x D.nx (ps.take (min ps.length (64 - D.nx)))) D.v, spl D.x D.nx (ps.take (min ps.length (64 - D.nx))), 0, D.len⟩, ps.drop (min ps.length (64 - D.nx)))
  else (⟨D.v, spl D.x D.nx (ps.take (min ps.length (64 - D.nx))), D.nx + min ps.length (64 - D.nx), D.len⟩, ps.drop (min ps.length (64 - D.nx)))
def chunk (K : List Int) (v : V8) (ps : List Int) : Nat → V8 × List Int
  | 0 => (v, ps)
  | j + 1 => (blkF K ((chunk K v ps j).2.take 65536) (chunk K v ps j).1, (chunk K v ps j).2.drop 65536)
/-- Whole blocks. -/
def Dg.b (K : List Int) (D : Dg) (ps : List Int) : Dg × List Int :=
  if ps.length < 64 then (D, ps)
  else (⟨blkF K ((chunk K D.v ps ((ps.length / 64 * 64 - 1) / 65536)).2.take (ps.length / 64 * 64 - 65536 * ((ps.length / 64 * 64 - 1) / 65536))) (chunk K D.v ps ((ps.length / 64 * 64 - 1) / 65536)).1, D.x, D.nx, D.len⟩,
    (chunk K D.v ps ((ps.length / 64 * 64 - 1) / 65536)).2.drop (ps.length / 64 * 64 - 65536 * ((ps.length / 64 * 64 - 1) / 65536)))
/-- What begins a block. -/
def Dg.c (D : Dg) (ps : List Int) : Dg := if ps.length = 0 then D else ⟨D.v, spl D.x 0 ps, ps.length, D.len⟩
def Dg.plus (D : Dg) (n : Nat) : Dg := ⟨D.v, D.x, D.nx, D.len + n⟩
def Dg.wr (K : List Int) (D : Dg) (ps : List Int) : Dg := Dg.c (((D.plus ps.length).a K ps).1.b K ((D.plus ps.length).a K ps).2).1 (((D.plus ps.length).a K ps).1.b K ((D.plus ps.length).a K ps).2).2
theorem chunk_len (K : List Int) (v : V8) (ps : List Int) : ∀ j, (chunk K v ps j).2.length = ps.length - 65536 * j
  | 0 => rfl
  | j + 1 => by
    show ((chunk K v ps j).2.drop 65536).length = _
    rw [List.length_drop, chunk_len K v ps j]
    omega
theorem Dg.a_ok {D : Dg} (K : List Int) (ps : List Int) (h : D.x.length = 64) (hn : D.nx < 64) : (D.a K ps).1.x.length = 64 ∧ (D.a K ps).1.len = D.len ∧ (D.a K ps).2.length ≤ ps.length ∧ ((D.a K ps).1.nx + (D.a K ps).2.length) % 64 = (D.nx + ps.length) % 64 ∧ ((D.a K ps).1.nx = 0 ∨ ((D.a K ps).2.length = 0 ∧ (D.a K ps).1.nx < 64)) := by
  unfold Dg.a
  have hs : (spl D.x D.nx (ps.take (min ps.length (64 - D.nx)))).length = 64 := by rw [spl_len _ _ _ (by rw [List.length_take]; omega), h]
  split
  · rename_i h0
    exact ⟨h, rfl, Nat.le_refl _, rfl, .inl h0⟩
  split
  · refine ⟨hs, rfl, by rw [List.length_drop]; omega, ?_, .inl rfl⟩
    rw [List.length_drop]
    show (0 + (ps.length - min ps.length (64 - D.nx))) % 64 = _
    omega
  · refine ⟨hs, rfl, by rw [List.length_drop]; omega, ?_, .inr ⟨?_, ?_⟩⟩
    · rw [List.length_drop]
      show (D.nx + min ps.length (64 - D.nx) + (ps.length - min ps.length (64 - D.nx))) % 64 = _
      omega
    · rw [List.length_drop]
      omega
    · show D.nx + min ps.length (64 - D.nx) < 64
      omega
theorem Dg.b_ok {D : Dg} (K : List Int) (ps : List Int) : (D.b K ps).1.x = D.x ∧ (D.b K ps).1.len = D.len ∧ (D.b K ps).1.nx = D.nx ∧ (D.b K ps).2.length = ps.length % 64 := by
  unfold Dg.b
  split
  · refine ⟨rfl, rfl, rfl, ?_⟩
    show ps.length = ps.length % 64
    omega
  · refine ⟨rfl, rfl, rfl, ?_⟩
    rw [List.length_drop, chunk_len]
    omega
theorem Dg.wr_ok {D : Dg} (h : D.Ok) (K : List Int) (ps : List Int) (hl : D.len + ps.length ≤ 4611686018427387904) : (D.wr K ps).Ok ∧ (D.wr K ps).len = D.len + ps.length := by
  obtain ⟨a1, a2, a3, a4, a5⟩ := Dg.a_ok (D := D.plus ps.length) K ps h.x h.nx
  obtain ⟨b1, b2, b3, b4⟩ := Dg.b_ok (D := ((D.plus ps.length).a K ps).1) K ((D.plus ps.length).a K ps).2
  unfold Dg.wr
  generalize ((D.plus ps.length).a K ps) = A at *
  generalize A.1.b K A.2 = B at *
  have hm := h.mod
  have hp : (D.plus ps.length).nx = D.nx := rfl
  have hq : (D.plus ps.length).len = D.len + ps.length := rfl
  rw [hp] at a4
  rw [hq] at a2
  unfold Dg.c
  split
  · rename_i h0
    refine ⟨⟨by rw [b1]; exact a1, ?_, by rw [b2, a2]; exact hl, ?_⟩, by rw [b2, a2]⟩
    · rw [b3]
      rcases a5 with a5 | a5 <;> omega
    · rw [b3, b2, a2]
      rcases a5 with a5 | a5 <;> omega
  · rename_i h0
    refine ⟨⟨?_, ?_, by show B.1.len ≤ _; rw [b2, a2]; exact hl, ?_⟩, by show B.1.len = _; rw [b2, a2]⟩
    · show (spl B.1.x 0 B.2).length = 64
      rw [spl_len _ _ _ (by rw [b1, a1]; omega), b1, a1]
    · show B.2.length < 64
      omega
    · show B.2.length = B.1.len % 64
      rw [b2, a2]
      rcases a5 with a5 | a5 <;> omega
theorem Dg.at_nx (D : Dg) (h : D.x.length = 64) : D.arr[72]? = some (.int .i64 D.nx) ∧ D.arr[73]? = some (.int .u64 D.len) ∧ D.arr[74]? = some (.bool false) := by
  have hl : (D.v.cells ++ D.x.map (Value.int .u8)).length = 72 := by simp [h]
  refine ⟨?_, ?_, ?_⟩ <;>
  · unfold Dg.arr Dg.rest
    rw [← List.append_assoc, List.getElem?_toArray, List.getElem?_append_right (by rw [hl]; omega), hl]
    rfl
theorem Dg.at_x (D : Dg) (h : D.x.length = 64) (j : Nat) (hj : j < 64) : D.arr[8 + j]? = D.x[j]?.map (Value.int .u8) := by
  unfold Dg.arr Dg.rest
  rw [List.getElem?_toArray, List.getElem?_append_right (by simp), show (8 + j - D.v.cells.length) = j from by simp, List.getElem?_append_left (by simp [h]; omega), List.getElem?_map]
theorem Dg.set_len (D : Dg) (h : D.x.length = 64) (n : Nat) : D.arr.setIfInBounds 73 (.int .u64 n) = (⟨D.v, D.x, D.nx, n⟩ : Dg).arr := by
  have hl : (D.v.cells ++ D.x.map (Value.int .u8)).length = 72 := by simp [h]
  unfold Dg.arr Dg.rest
  rw [← Array.toList_inj, Array.toList_setIfInBounds, ← List.append_assoc, ← List.append_assoc, List.set_append_right _ _ (by rw [hl]; omega), hl]
  rfl
theorem Dg.set_nx (D : Dg) (h : D.x.length = 64) (n : Nat) : D.arr.setIfInBounds 72 (.int .i64 n) = (⟨D.v, D.x, n, D.len⟩ : Dg).arr := by
  have hl : (D.v.cells ++ D.x.map (Value.int .u8)).length = 72 := by simp [h]
  unfold Dg.arr Dg.rest
  rw [← Array.toList_inj, Array.toList_setIfInBounds, ← List.append_assoc, ← List.append_assoc, List.set_append_right _ _ (by rw [hl]; omega), hl]
  rfl
theorem Dg.set_x (D : Dg) (h : D.x.length = 64) (o : Nat) (ys : List Int) (ho : o + ys.length ≤ 64) : (D.arr.toList.take (8 + o) ++ ys.map (Value.int .u8) ++ D.arr.toList.drop (8 + o + (ys.map (Value.int .u8)).length)).toArray = (⟨D.v, spl D.x o ys, D.nx, D.len⟩ : Dg).arr := by
  unfold Dg.arr Dg.rest spl
  rw [← Array.toList_inj]
  simp only [List.length_map, List.map_append, List.map_take, List.map_drop]
  rw [show 8 + o = D.v.cells.length + o from by simp, List.take_length_add_append, show D.v.cells.length + o + ys.length = D.v.cells.length + (o + ys.length) from by omega, List.drop_length_add_append, List.take_append_of_le_length (by simp [h]; omega), List.drop_append_of_le_length (by simp [h]; omega)]
  simp [List.append_assoc]
end Go.Proofs.YtedjadicdodahaaGreatDoor
