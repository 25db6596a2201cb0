/- A package's decoder: where elements stand, their bytes. (printed by gen_pde.py) -/
import Derived.Test.YtedjadicdodahaaGreatDoorDc
namespace Go.Proofs.YtedjadicdodahaaGreatDoor
open Go.RowKit

/-- What a decoder's block holds. -/
structure PkQ (pb : Nat) (v : Nat) (s : Bool) (path : ByteArray) (p : Pk) (fp : List UInt8) (sc : Value) (w : World) : Prop where
  is : ∃ g c, Blk w pb 81 (rdArr v s path (str (p.data ++ fp)) (.slice (some ⟨g, 0, none⟩) (p.elems 10).length c) (fun k => (p.elems (k + 1)).length) sc) ∧ (p.elems 10).length ≤ c ∧ g ≠ pb ∧ ∀ j, j < (p.elems 10).length → w.cell? ⟨g, j, none⟩ = some (.int .u32 ((p.sizes.take (j + 1)).sum : Nat))
theorem PkQ.here {pb : Nat} {v : Nat} {s : Bool} {path : ByteArray} {p : Pk} {fp : List UInt8} {sc : Value} {w w' : World} (h : PkQ pb v s path p fp sc w) (hb : Below w.heap.size w w') : PkQ pb v s path p fp sc w' := by
  obtain ⟨g, c, h1, h2, h3, h4⟩ := h.is
  exact ⟨g, c, h1.here hb, h2, h3, fun j hj => keep_cell hb (h4 j hj)⟩
theorem PkQ.fr {pb : Nat} {v : Nat} {s : Bool} {path : ByteArray} {p : Pk} {fp : List UInt8} {sc : Value} {w w' : World} {G : List Nat} {B : Nat} (h : PkQ pb v s path p fp sc w) (f : Fr G w w') (hB : w.heap.size = B) (hG : ∀ g ∈ G, B ≤ g) : PkQ pb v s path p fp sc w' := by
  obtain ⟨g, c, h1, h2, h3, h4⟩ := h.is
  have hz := h1.lt
  refine ⟨g, c, h1.fr f (fun hm => by have := hG _ hm; omega), h2, h3, fun j hj => f.cell (h4 j hj) (fun hm => ?_)⟩
  have h5 := World.block_lt_of_cell? w _ (h4 j hj)
  have h6 := hG _ hm
  simp only at h5 h6
  omega
set_option maxRecDepth 100000 in
set_option maxHeartbeats 1000000 in
theorem absIdx_0 {pb : Nat} {v : Nat} {s : Bool} {path : ByteArray} {p : Pk} {fp : List UInt8} {sc : Value} {w : World} (h : PkQ pb v s path p fp sc w) (i : Nat) (hi : i < (p 0).length) (hn : (p.elems 10).length ≤ 1000000) :
    Calls Tryz.prog 86 #[.pointer (some ⟨pb, 0, none⟩), .int .i32 0, .int .i32 i] w (RetQ (.int .i64 ((p.elems 0).length + i : Nat)) w) := by
  obtain ⟨g, c, hb, _, _, _⟩ := h.is
  have hle := p.elems_le 0 i (by decide) hi
  have hle2 := Nat.le_trans hle.2 hn
  obtain ⟨a, ha⟩ : ∃ a, a = (p.elems 0).length := ⟨_, rfl⟩
  obtain ⟨b, hb9⟩ : ∃ b, b = (p.elems (0 + 1)).length := ⟨_, rfl⟩
  have q2 : w.cell? ⟨pb, 5, none⟩ = some (.int .u32 b) := by rw [hb9]; exact hb.cell 5
  replace hle := hle.1
  rw [← ha, ← hb9] at hle
  rw [← hb9] at hle2
  rw [← ha]
  have hab : a + i ≤ 1000000 ∧ b ≤ 1000000 := by omega
  have ha0 : a = 0 := by rw [ha]; rfl
  subst ha0
  have i0 : (0 : Int) ≤ i := by omega
  have i1 : (i : Int) ≤ 1000000 := by omega
  have a1 : (i : Int) < b := by omega
  have b1 : (b : Int) ≤ 1000000 := by omega
  clear h hb hi hle hle2 ha hb9
  go_enter Tryz.func86, Tryz.ntmps86
  go_wp2
  go_ret
  exact ⟨by simp, 0, rfl⟩
set_option maxRecDepth 100000 in
set_option maxHeartbeats 1000000 in
theorem absIdx_1 {pb : Nat} {v : Nat} {s : Bool} {path : ByteArray} {p : Pk} {fp : List UInt8} {sc : Value} {w : World} (h : PkQ pb v s path p fp sc w) (i : Nat) (hi : i < (p 1).length) (hn : (p.elems 10).length ≤ 1000000) :
    Calls Tryz.prog 86 #[.pointer (some ⟨pb, 0, none⟩), .int .i32 1, .int .i32 i] w (RetQ (.int .i64 ((p.elems 1).length + i : Nat)) w) := by
  obtain ⟨g, c, hb, _, _, _⟩ := h.is
  have hle := p.elems_le 1 i (by decide) hi
  have hle2 := Nat.le_trans hle.2 hn
  obtain ⟨a, ha⟩ : ∃ a, a = (p.elems 1).length := ⟨_, rfl⟩
  obtain ⟨b, hb9⟩ : ∃ b, b = (p.elems (1 + 1)).length := ⟨_, rfl⟩
  have q1 : w.cell? ⟨pb, 5, none⟩ = some (.int .u32 a) := by rw [ha]; exact hb.cell 5
  have q2 : w.cell? ⟨pb, 6, none⟩ = some (.int .u32 b) := by rw [hb9]; exact hb.cell 6
  replace hle := hle.1
  rw [← ha, ← hb9] at hle
  rw [← hb9] at hle2
  rw [← ha]
  have hab : a + i ≤ 1000000 ∧ b ≤ 1000000 := by omega
  have i0 : (0 : Int) ≤ i := by omega
  have i1 : (i : Int) ≤ 1000000 := by omega
  have a0 : (0 : Int) ≤ a := by omega
  have a1 : (a : Int) + i < b := by omega
  have b1 : (b : Int) ≤ 1000000 := by omega
  clear h hb hi hle hle2 ha hb9
  go_enter Tryz.func86, Tryz.ntmps86
  go_wp2
  go_ret
  exact ⟨by simp [Int.add_comm], 0, rfl⟩
set_option maxRecDepth 100000 in
set_option maxHeartbeats 1000000 in
theorem absIdx_2 {pb : Nat} {v : Nat} {s : Bool} {path : ByteArray} {p : Pk} {fp : List UInt8} {sc : Value} {w : World} (h : PkQ pb v s path p fp sc w) (i : Nat) (hi : i < (p 2).length) (hn : (p.elems 10).length ≤ 1000000) :
    Calls Tryz.prog 86 #[.pointer (some ⟨pb, 0, none⟩), .int .i32 2, .int .i32 i] w (RetQ (.int .i64 ((p.elems 2).length + i : Nat)) w) := by
  obtain ⟨g, c, hb, _, _, _⟩ := h.is
  have hle := p.elems_le 2 i (by decide) hi
  have hle2 := Nat.le_trans hle.2 hn
  obtain ⟨a, ha⟩ : ∃ a, a = (p.elems 2).length := ⟨_, rfl⟩
  obtain ⟨b, hb9⟩ : ∃ b, b = (p.elems (2 + 1)).length := ⟨_, rfl⟩
  have q1 : w.cell? ⟨pb, 6, none⟩ = some (.int .u32 a) := by rw [ha]; exact hb.cell 6
  have q2 : w.cell? ⟨pb, 7, none⟩ = some (.int .u32 b) := by rw [hb9]; exact hb.cell 7
  replace hle := hle.1
  rw [← ha, ← hb9] at hle
  rw [← hb9] at hle2
  rw [← ha]
  have hab : a + i ≤ 1000000 ∧ b ≤ 1000000 := by omega
  have i0 : (0 : Int) ≤ i := by omega
  have i1 : (i : Int) ≤ 1000000 := by omega
  have a0 : (0 : Int) ≤ a := by omega
  have a1 : (a : Int) + i < b := by omega
  have b1 : (b : Int) ≤ 1000000 := by omega
  clear h hb hi hle hle2 ha hb9
  go_enter Tryz.func86, Tryz.ntmps86
  go_wp2
  go_ret
  exact ⟨by simp [Int.add_comm], 0, rfl⟩
set_option maxRecDepth 100000 in
set_option maxHeartbeats 1000000 in
theorem absIdx_3 {pb : Nat} {v : Nat} {s : Bool} {path : ByteArray} {p : Pk} {fp : List UInt8} {sc : Value} {w : World} (h : PkQ pb v s path p fp sc w) (i : Nat) (hi : i < (p 3).length) (hn : (p.elems 10).length ≤ 1000000) :
    Calls Tryz.prog 86 #[.pointer (some ⟨pb, 0, none⟩), .int .i32 3, .int .i32 i] w (RetQ (.int .i64 ((p.elems 3).length + i : Nat)) w) := by
  obtain ⟨g, c, hb, _, _, _⟩ := h.is
  have hle := p.elems_le 3 i (by decide) hi
  have hle2 := Nat.le_trans hle.2 hn
  obtain ⟨a, ha⟩ : ∃ a, a = (p.elems 3).length := ⟨_, rfl⟩
  obtain ⟨b, hb9⟩ : ∃ b, b = (p.elems (3 + 1)).length := ⟨_, rfl⟩
  have q1 : w.cell? ⟨pb, 7, none⟩ = some (.int .u32 a) := by rw [ha]; exact hb.cell 7
  have q2 : w.cell? ⟨pb, 8, none⟩ = some (.int .u32 b) := by rw [hb9]; exact hb.cell 8
  replace hle := hle.1
  rw [← ha, ← hb9] at hle
  rw [← hb9] at hle2
  rw [← ha]
  have hab : a + i ≤ 1000000 ∧ b ≤ 1000000 := by omega
  have i0 : (0 : Int) ≤ i := by omega
  have i1 : (i : Int) ≤ 1000000 := by omega
  have a0 : (0 : Int) ≤ a := by omega
  have a1 : (a : Int) + i < b := by omega
  have b1 : (b : Int) ≤ 1000000 := by omega
  clear h hb hi hle hle2 ha hb9
  go_enter Tryz.func86, Tryz.ntmps86
  go_wp2
  go_ret
  exact ⟨by simp [Int.add_comm], 0, rfl⟩
set_option maxRecDepth 100000 in
set_option maxHeartbeats 1000000 in
theorem absIdx_4 {pb : Nat} {v : Nat} {s : Bool} {path : ByteArray} {p : Pk} {fp : List UInt8} {sc : Value} {w : World} (h : PkQ pb v s path p fp sc w) (i : Nat) (hi : i < (p 4).length) (hn : (p.elems 10).length ≤ 1000000) :
    Calls Tryz.prog 86 #[.pointer (some ⟨pb, 0, none⟩), .int .i32 4, .int .i32 i] w (RetQ (.int .i64 ((p.elems 4).length + i : Nat)) w) := by
  obtain ⟨g, c, hb, _, _, _⟩ := h.is
  have hle := p.elems_le 4 i (by decide) hi
  have hle2 := Nat.le_trans hle.2 hn
  obtain ⟨a, ha⟩ : ∃ a, a = (p.elems 4).length := ⟨_, rfl⟩
  obtain ⟨b, hb9⟩ : ∃ b, b = (p.elems (4 + 1)).length := ⟨_, rfl⟩
  have q1 : w.cell? ⟨pb, 8, none⟩ = some (.int .u32 a) := by rw [ha]; exact hb.cell 8
  have q2 : w.cell? ⟨pb, 9, none⟩ = some (.int .u32 b) := by rw [hb9]; exact hb.cell 9
  replace hle := hle.1
  rw [← ha, ← hb9] at hle
  rw [← hb9] at hle2
  rw [← ha]
  have hab : a + i ≤ 1000000 ∧ b ≤ 1000000 := by omega
  have i0 : (0 : Int) ≤ i := by omega
  have i1 : (i : Int) ≤ 1000000 := by omega
  have a0 : (0 : Int) ≤ a := by omega
  have a1 : (a : Int) + i < b := by omega
  have b1 : (b : Int) ≤ 1000000 := by omega
  clear h hb hi hle hle2 ha hb9
  go_enter Tryz.func86, Tryz.ntmps86
  go_wp2
  go_ret
  exact ⟨by simp [Int.add_comm], 0, rfl⟩
set_option maxRecDepth 100000 in
set_option maxHeartbeats 1000000 in
theorem absIdx_5 {pb : Nat} {v : Nat} {s : Bool} {path : ByteArray} {p : Pk} {fp : List UInt8} {sc : Value} {w : World} (h : PkQ pb v s path p fp sc w) (i : Nat) (hi : i < (p 5).length) (hn : (p.elems 10).length ≤ 1000000) :
    Calls Tryz.prog 86 #[.pointer (some ⟨pb, 0, none⟩), .int .i32 5, .int .i32 i] w (RetQ (.int .i64 ((p.elems 5).length + i : Nat)) w) := by
  obtain ⟨g, c, hb, _, _, _⟩ := h.is
  have hle := p.elems_le 5 i (by decide) hi
  have hle2 := Nat.le_trans hle.2 hn
  obtain ⟨a, ha⟩ : ∃ a, a = (p.elems 5).length := ⟨_, rfl⟩
  obtain ⟨b, hb9⟩ : ∃ b, b = (p.elems (5 + 1)).length := ⟨_, rfl⟩
  have q1 : w.cell? ⟨pb, 9, none⟩ = some (.int .u32 a) := by rw [ha]; exact hb.cell 9
  have q2 : w.cell? ⟨pb, 10, none⟩ = some (.int .u32 b) := by rw [hb9]; exact hb.cell 10
  replace hle := hle.1
  rw [← ha, ← hb9] at hle
  rw [← hb9] at hle2
  rw [← ha]
  have hab : a + i ≤ 1000000 ∧ b ≤ 1000000 := by omega
  have i0 : (0 : Int) ≤ i := by omega
  have i1 : (i : Int) ≤ 1000000 := by omega
  have a0 : (0 : Int) ≤ a := by omega
  have a1 : (a : Int) + i < b := by omega
  have b1 : (b : Int) ≤ 1000000 := by omega
  clear h hb hi hle hle2 ha hb9
  go_enter Tryz.func86, Tryz.ntmps86
  go_wp2
  go_ret
  exact ⟨by simp [Int.add_comm], 0, rfl⟩
set_option maxRecDepth 100000 in
set_option maxHeartbeats 1000000 in
theorem absIdx_6 {pb : Nat} {v : Nat} {s : Bool} {path : ByteArray} {p : Pk} {fp : List UInt8} {sc : Value} {w : World} (h : PkQ pb v s path p fp sc w) (i : Nat) (hi : i < (p 6).length) (hn : (p.elems 10).length ≤ 1000000) :
    Calls Tryz.prog 86 #[.pointer (some ⟨pb, 0, none⟩), .int .i32 6, .int .i32 i] w (RetQ (.int .i64 ((p.elems 6).length + i : Nat)) w) := by
  obtain ⟨g, c, hb, _, _, _⟩ := h.is
  have hle := p.elems_le 6 i (by decide) hi
  have hle2 := Nat.le_trans hle.2 hn
  obtain ⟨a, ha⟩ : ∃ a, a = (p.elems 6).length := ⟨_, rfl⟩
  obtain ⟨b, hb9⟩ : ∃ b, b = (p.elems (6 + 1)).length := ⟨_, rfl⟩
  have q1 : w.cell? ⟨pb, 10, none⟩ = some (.int .u32 a) := by rw [ha]; exact hb.cell 10
  have q2 : w.cell? ⟨pb, 11, none⟩ = some (.int .u32 b) := by rw [hb9]; exact hb.cell 11
  replace hle := hle.1
  rw [← ha, ← hb9] at hle
  rw [← hb9] at hle2
  rw [← ha]
  have hab : a + i ≤ 1000000 ∧ b ≤ 1000000 := by omega
  have i0 : (0 : Int) ≤ i := by omega
  have i1 : (i : Int) ≤ 1000000 := by omega
  have a0 : (0 : Int) ≤ a := by omega
  have a1 : (a : Int) + i < b := by omega
  have b1 : (b : Int) ≤ 1000000 := by omega
  clear h hb hi hle hle2 ha hb9
  go_enter Tryz.func86, Tryz.ntmps86
  go_wp2
  go_ret
  exact ⟨by simp [Int.add_comm], 0, rfl⟩
set_option maxRecDepth 100000 in
set_option maxHeartbeats 1000000 in
theorem absIdx_7 {pb : Nat} {v : Nat} {s : Bool} {path : ByteArray} {p : Pk} {fp : List UInt8} {sc : Value} {w : World} (h : PkQ pb v s path p fp sc w) (i : Nat) (hi : i < (p 7).length) (hn : (p.elems 10).length ≤ 1000000) :
    Calls Tryz.prog 86 #[.pointer (some ⟨pb, 0, none⟩), .int .i32 7, .int .i32 i] w (RetQ (.int .i64 ((p.elems 7).length + i : Nat)) w) := by
  obtain ⟨g, c, hb, _, _, _⟩ := h.is
  have hle := p.elems_le 7 i (by decide) hi
  have hle2 := Nat.le_trans hle.2 hn
  obtain ⟨a, ha⟩ : ∃ a, a = (p.elems 7).length := ⟨_, rfl⟩
  obtain ⟨b, hb9⟩ : ∃ b, b = (p.elems (7 + 1)).length := ⟨_, rfl⟩
  have q1 : w.cell? ⟨pb, 11, none⟩ = some (.int .u32 a) := by rw [ha]; exact hb.cell 11
  have q2 : w.cell? ⟨pb, 12, none⟩ = some (.int .u32 b) := by rw [hb9]; exact hb.cell 12
  replace hle := hle.1
  rw [← ha, ← hb9] at hle
  rw [← hb9] at hle2
  rw [← ha]
  have hab : a + i ≤ 1000000 ∧ b ≤ 1000000 := by omega
  have i0 : (0 : Int) ≤ i := by omega
  have i1 : (i : Int) ≤ 1000000 := by omega
  have a0 : (0 : Int) ≤ a := by omega
  have a1 : (a : Int) + i < b := by omega
  have b1 : (b : Int) ≤ 1000000 := by omega
  clear h hb hi hle hle2 ha hb9
  go_enter Tryz.func86, Tryz.ntmps86
  go_wp2
  go_ret
  exact ⟨by simp [Int.add_comm], 0, rfl⟩
set_option maxRecDepth 100000 in
set_option maxHeartbeats 1000000 in
theorem absIdx_8 {pb : Nat} {v : Nat} {s : Bool} {path : ByteArray} {p : Pk} {fp : List UInt8} {sc : Value} {w : World} (h : PkQ pb v s path p fp sc w) (i : Nat) (hi : i < (p 8).length) (hn : (p.elems 10).length ≤ 1000000) :
    Calls Tryz.prog 86 #[.pointer (some ⟨pb, 0, none⟩), .int .i32 8, .int .i32 i] w (RetQ (.int .i64 ((p.elems 8).length + i : Nat)) w) := by
  obtain ⟨g, c, hb, _, _, _⟩ := h.is
  have hle := p.elems_le 8 i (by decide) hi
  have hle2 := Nat.le_trans hle.2 hn
  obtain ⟨a, ha⟩ : ∃ a, a = (p.elems 8).length := ⟨_, rfl⟩
  obtain ⟨b, hb9⟩ : ∃ b, b = (p.elems (8 + 1)).length := ⟨_, rfl⟩
  have q1 : w.cell? ⟨pb, 12, none⟩ = some (.int .u32 a) := by rw [ha]; exact hb.cell 12
  have q2 : w.cell? ⟨pb, 13, none⟩ = some (.int .u32 b) := by rw [hb9]; exact hb.cell 13
  replace hle := hle.1
  rw [← ha, ← hb9] at hle
  rw [← hb9] at hle2
  rw [← ha]
  have hab : a + i ≤ 1000000 ∧ b ≤ 1000000 := by omega
  have i0 : (0 : Int) ≤ i := by omega
  have i1 : (i : Int) ≤ 1000000 := by omega
  have a0 : (0 : Int) ≤ a := by omega
  have a1 : (a : Int) + i < b := by omega
  have b1 : (b : Int) ≤ 1000000 := by omega
  clear h hb hi hle hle2 ha hb9
  go_enter Tryz.func86, Tryz.ntmps86
  go_wp2
  go_ret
  exact ⟨by simp [Int.add_comm], 0, rfl⟩
set_option maxRecDepth 100000 in
set_option maxHeartbeats 1000000 in
theorem absIdx_9 {pb : Nat} {v : Nat} {s : Bool} {path : ByteArray} {p : Pk} {fp : List UInt8} {sc : Value} {w : World} (h : PkQ pb v s path p fp sc w) (i : Nat) (hi : i < (p 9).length) (hn : (p.elems 10).length ≤ 1000000) :
    Calls Tryz.prog 86 #[.pointer (some ⟨pb, 0, none⟩), .int .i32 9, .int .i32 i] w (RetQ (.int .i64 ((p.elems 9).length + i : Nat)) w) := by
  obtain ⟨g, c, hb, _, _, _⟩ := h.is
  have hle := p.elems_le 9 i (by decide) hi
  have hle2 := Nat.le_trans hle.2 hn
  obtain ⟨a, ha⟩ : ∃ a, a = (p.elems 9).length := ⟨_, rfl⟩
  obtain ⟨b, hb9⟩ : ∃ b, b = (p.elems (9 + 1)).length := ⟨_, rfl⟩
  have q1 : w.cell? ⟨pb, 13, none⟩ = some (.int .u32 a) := by rw [ha]; exact hb.cell 13
  have q2 : w.cell? ⟨pb, 14, none⟩ = some (.int .u32 b) := by rw [hb9]; exact hb.cell 14
  replace hle := hle.1
  rw [← ha, ← hb9] at hle
  rw [← hb9] at hle2
  rw [← ha]
  have hab : a + i ≤ 1000000 ∧ b ≤ 1000000 := by omega
  have i0 : (0 : Int) ≤ i := by omega
  have i1 : (i : Int) ≤ 1000000 := by omega
  have a0 : (0 : Int) ≤ a := by omega
  have a1 : (a : Int) + i < b := by omega
  have b1 : (b : Int) ≤ 1000000 := by omega
  clear h hb hi hle hle2 ha hb9
  go_enter Tryz.func86, Tryz.ntmps86
  go_wp2
  go_ret
  exact ⟨by simp [Int.add_comm], 0, rfl⟩
theorem absIdx_any {pb : Nat} {v : Nat} {s : Bool} {path : ByteArray} {p : Pk} {fp : List UInt8} {sc : Value} {w : World} (h : PkQ pb v s path p fp sc w) (k i : Nat) (hk : k < 10) (hi : i < (p k).length) (hn : (p.elems 10).length ≤ 1000000) :
    Calls Tryz.prog 86 #[.pointer (some ⟨pb, 0, none⟩), .int .i32 k, .int .i32 i] w (RetQ (.int .i64 ((p.elems k).length + i : Nat)) w) := by
  match k, hk with
  | 0, _ => exact absIdx_0 h i hi hn
  | 1, _ => exact absIdx_1 h i hi hn
  | 2, _ => exact absIdx_2 h i hi hn
  | 3, _ => exact absIdx_3 h i hi hn
  | 4, _ => exact absIdx_4 h i hi hn
  | 5, _ => exact absIdx_5 h i hi hn
  | 6, _ => exact absIdx_6 h i hi hn
  | 7, _ => exact absIdx_7 h i hi hn
  | 8, _ => exact absIdx_8 h i hi hn
  | 9, _ => exact absIdx_9 h i hi hn
  | k + 10, hk => omega
set_option maxRecDepth 100000 in
set_option maxHeartbeats 2000000 in
theorem dataIdx_any {pb : Nat} {v : Nat} {s : Bool} {path : ByteArray} {p : Pk} {fp : List UInt8} {sc : Value} {w : World} (h : PkQ pb v s path p fp sc w) (k i : Nat) (hk : k < 10) (hi : i < (p k).length) (hn : (p.elems 10).length ≤ 1000000) (hz : (szs (p.elems 10)).sum ≤ 100000000) :
    Calls Tryz.prog 43 #[.pointer (some ⟨pb, 0, none⟩), .int .i32 k, .int .i32 i] w (RetQ (.string (p k)[i]) w) := by
  have AX := Lib.hid (absIdx_any h k i hk hi hn)
  obtain ⟨g, c, hb, hc, hg, hcl⟩ := h.is
  have hle := p.elems_le k i hk hi
  have EX := p.extract_at fp k i hk hi
  obtain ⟨a, ha⟩ : ∃ a, a = (p.elems k).length + i := ⟨_, rfl⟩
  obtain ⟨N, hN⟩ : ∃ N, N = (p.elems 10).length := ⟨_, rfl⟩
  rw [← ha] at AX EX
  rw [← hN] at hb hc hcl hle hn
  have hsum : (p.sizes.take a).sum + ((p.sizes.drop a).take 1).sum + ((p.sizes.drop a).drop 1).sum = (szs (p.elems 10)).sum := by
    have h1 : p.sizes = p.sizes.take a ++ ((p.sizes.drop a).take 1 ++ (p.sizes.drop a).drop 1) := by rw [List.take_append_drop, List.take_append_drop]
    have h2 : p.sizes.sum = (szs (p.elems 10)).sum := rfl
    rw [← h2]
    conv => rhs; rw [h1]
    rw [List.sum_append, List.sum_append]
    omega
  have hta : (p.sizes.take (a + 1)).sum = (p.sizes.take a).sum + ((p.sizes.drop a).take 1).sum := by
    rw [List.take_add, List.sum_append]
  obtain ⟨D, hD⟩ : ∃ D, D = str (p.data ++ fp) := ⟨_, rfl⟩
  have hDs : (szs (p.elems 10)).sum ≤ D.size := by
    have hdl : p.data.length = (szs (p.elems 10)).sum := dat_len (p.elems 10)
    rw [hD, str_size, List.length_append]
    omega
  rw [← hD] at EX hb
  have q3 := hb.cell 3
  have q4 := hb.cell 4
  have qe : w.cell? ⟨g, a, none⟩ = some (.int .u32 ((p.sizes.take (a + 1)).sum : Nat)) := hcl a (by omega)
  have SX := Lib.hid (show ∀ b, a = b + 1 → w.cell? ⟨g, b, none⟩ = some (.int .u32 ((p.sizes.take a).sum : Nat)) from fun b e => by rw [hcl b (by omega), e])
  have S0 := Lib.hid (show a = 0 → (p.sizes.take a).sum = 0 from fun e => by rw [e]; rfl)
  obtain ⟨x, hx⟩ : ∃ x, x = (p.sizes.take a).sum := ⟨_, rfl⟩
  obtain ⟨y, hy⟩ : ∃ y, y = (p.sizes.take (a + 1)).sum := ⟨_, rfl⟩
  rw [← hx] at EX hsum hta SX S0
  rw [← hy] at EX qe hta
  have EXH := Lib.hid EX
  have x0 : (0 : Int) ≤ x := by omega
  have xy : (x : Int) ≤ y := by omega
  have yD : (y : Int) ≤ D.size := by omega
  have y9 : (y : Int) ≤ 100000000 := by omega
  have a0 : (0 : Int) ≤ a := by omega
  have a1 : (a : Int) < N := by omega
  have n9 : (N : Int) ≤ 1000000 := by omega
  clear h hb hcl hle EX ha hN hsum hta hD hDs hx hy hc
  rcases Nat.eq_zero_or_pos a with h0 | h0
  · have hx0 := S0.out h0
    subst h0 hx0
    go_enter Tryz.func43, Tryz.ntmps43
    go_wp2_with fail
    refine AX.out.mono ?_
    rintro e w1 ⟨rfl, n1, rfl⟩
    have e3 : (w.drewN n1).cell? ⟨pb, 3, none⟩ = _ := q3
    have e4 : (w.drewN n1).cell? ⟨pb, 4, none⟩ = _ := q4
    have ee : (w.drewN n1).cell? ⟨g, 0, none⟩ = _ := qe
    go_wp2_with fail
    go_ret
    exact ⟨by rw [← EXH.out]; rfl, n1, rfl⟩
  · obtain ⟨b, rfl⟩ : ∃ b, a = b + 1 := ⟨a - 1, by omega⟩
    have qb := SX.out b rfl
    have hb1 : ((b + 1 : Nat) : Int) - 1 = b := by omega
    have b0 : (0 : Int) ≤ b := by omega
    have b1 : (b : Int) < N := by omega
    have hp : (0 : Int) < ((b + 1 : Nat) : Int) := by omega
    obtain ⟨a, ha⟩ : ∃ a, a = b + 1 := ⟨_, rfl⟩
    rw [← ha] at AX qe a0 a1 hb1 hp
    have wb : IntKind.i64.wrap (b : Int) = b := by rw [IntKind.wrap_i64]; omega
    clear SX S0 ha h0
    go_enter Tryz.func43, Tryz.ntmps43
    go_wp2_with fail
    refine AX.out.mono ?_
    rintro e w1 ⟨rfl, n1, rfl⟩
    have e3 : (w.drewN n1).cell? ⟨pb, 3, none⟩ = _ := q3
    have e4 : (w.drewN n1).cell? ⟨pb, 4, none⟩ = _ := q4
    have ee : (w.drewN n1).cell? ⟨g, a, none⟩ = _ := qe
    have eb : (w.drewN n1).cell? ⟨g, b, none⟩ = _ := qb
    go_wp2_with fail
    go_ret
    exact ⟨by rw [← EXH.out]; rfl, n1, rfl⟩
set_option maxRecDepth 100000 in
set_option maxHeartbeats 1000000 in
theorem pkStringIdx_any {pb : Nat} {v : Nat} {s : Bool} {path : ByteArray} {p : Pk} {fp : List UInt8} {sc : Value} {w : World} (h : PkQ pb v s path p fp sc w) (i : Nat) (hi : i < (p 0).length) (hn : (p.elems 10).length ≤ 1000000) (hz : (szs (p.elems 10)).sum ≤ 100000000) :
    Calls Tryz.prog 128 #[.pointer (some ⟨pb, 0, none⟩), .int .i32 i] w (RetQ (.string (p 0)[i]) w) := by
  have H := Lib.hid (dataIdx_any h 0 i (by decide) hi hn hz)
  clear h
  go_enter Tryz.func128, Tryz.ntmps128
  go_wp2_with fail
  refine H.out.mono ?_
  rintro e w1 ⟨rfl, n1, rfl⟩
  go_wp2_with fail
  go_ret
  exact ⟨rfl, n1, rfl⟩
end Go.Proofs.YtedjadicdodahaaGreatDoor

namespace Go.Proofs.YtedjadicdodahaaGreatDoor
open Go.RowKit

/-- A text that is a package. -/
structure PkT (t : ByteArray) (v : Nat) (s : Bool) (p : Pk) (fp : List UInt8) : Prop where
  eq : t = str (p.body v s ++ fp)
  fp8 : fp.length = 8
  ver : v ≤ 5
  syn : s = true → 1 ≤ v
  one : 1 ≤ (p.elems 10).length
  cnt : (p.elems 10).length ≤ 1000000
  siz : (szs (p.elems 10)).sum ≤ 100000000
/-- What the version's tables hold. -/
structure Gv (w : World) : Prop where
  i : w.cell? ⟨0, 0, none⟩ = some (.int .u32 1)
  r : w.cell? ⟨1, 0, none⟩ = some (.int .u32 0)
theorem Gv.here {w w' : World} (h : Gv w) (hb : Below w.heap.size w w') : Gv w' := ⟨keep_cell hb h.i, keep_cell hb h.r⟩
theorem PkQ.new {w1 : World} {g c : Nat} {v : Nat} {s : Bool} {path : ByteArray} {p : Pk} {fp : List UInt8} (hc : (p.elems 10).length ≤ c) (hcl : ∀ j, j < (p.elems 10).length → w1.cell? ⟨g, j, none⟩ = some (.int .u32 ((p.sizes.take (j + 1)).sum : Nat))) (hN : 1 ≤ (p.elems 10).length) :
    PkQ w1.heap.size v s path p fp (.slice none 0 0) (w1.alloc (.cells (rdArr v s path (str (p.data ++ fp)) (.slice (some ⟨g, 0, none⟩) (p.elems 10).length c) (fun k => (p.elems (k + 1)).length) (.slice none 0 0)) 81)) := by
  have hg : g < w1.heap.size := World.block_lt_of_cell? w1 _ (hcl 0 (by omega))
  have hb : Below w1.heap.size w1 (w1.alloc (.cells (rdArr v s path (str (p.data ++ fp)) (.slice (some ⟨g, 0, none⟩) (p.elems 10).length c) (fun k => (p.elems (k + 1)).length) (.slice none 0 0)) 81)) := Below.alloc (Below.refl _ _) (Nat.le_refl _) _
  exact ⟨g, c, Blk.new _ _ _, hc, by omega, fun j hj => keep_cell hb (hcl j hj)⟩
set_option maxRecDepth 100000 in
set_option maxHeartbeats 2000000 in
theorem rawAt_any {t : ByteArray} {v : Nat} {s : Bool} {p : Pk} {fp : List UInt8} {w : World} (hT : PkT t v s p fp) (hG : Gv w) (k i : Nat) (hk : k < 10) (hi : i < (p k).length) :
    Calls Tryz.prog 19 #[.string t, .int .i64 k, .int .i64 i] w (RetV (.string (p k)[i]) w) := by
  have ND := Lib.hid (fun (W : World) (hb : Below w.heap.size w W) => newPkgDecoder_any ⟨#[]⟩ t v s p fp W hT.eq hT.fp8 hT.ver hT.syn hT.one hT.cnt hT.siz (hG.here hb).i (hG.here hb).r)
  have HT := Lib.hid hT
  have ib := (p.elems_le k i hk hi)
  have i0 : (0 : Int) ≤ i := by omega
  have i1 : (i : Int) ≤ 1000000 := by have := hT.cnt; omega
  have hw32 : IntKind.i32.wrap (i : Int) = i := by rw [IntKind.wrap_i32]; omega
  have k0 : (0 : Int) ≤ k := by omega
  have k1 : (k : Int) < 10 := by omega
  have hk32 : IntKind.i32.wrap (k : Int) = k := by rw [IntKind.wrap_i32]; omega
  clear ib
  clear hT hG
  go_enter Tryz.func19, Tryz.ntmps19
  go_wp2_with fail
  refine (ND.out w (Below.refl _ _)).mono ?_
  rintro e w1 ⟨g, c, rfl, hc, _, hcl, b1⟩
  have PD := Lib.hid (PkQ.new (v := v) (s := s) (path := ⟨#[]⟩) (fp := fp) hc hcl HT.out.one)
  have B1 := Lib.hid (b1.alloc b1.size (.cells (rdArr v s ⟨#[]⟩ (str (p.data ++ fp)) (.slice (some ⟨g, 0, none⟩) (p.elems 10).length c) (fun k => (p.elems (k + 1)).length) (.slice none 0 0)) 81))
  clear hc hcl b1 ND
  go_wp2_with fail
  refine (dataIdx_any PD.out k i hk hi HT.out.cnt HT.out.siz).mono ?_
  rintro e w2 ⟨rfl, n2, rfl⟩
  go_wp2_with fail
  go_ret
  exact ⟨rfl, below_drewN B1.out n2⟩
end Go.Proofs.YtedjadicdodahaaGreatDoor
