/- Symbols one field of which is set to that of another one: the walks. -/
import Derived.Test.YtnnhdoocklaeoaaSym
namespace Go.Proofs.Ytnnhdoocklaeoaa
open Go.RowKit

section
variable {w : World} {g : Nat} {t : TypeId} {a k f f2 sz al : Int}
theorem upd0 (h : Blk w g t (symCells a k f f2 sz al)) (y : Int) : Blk ((w.setCell ⟨g, 8, none⟩ (.int .u8 (y % 256))).setCell ⟨g, 9, none⟩ (.int .u8 (y / 256))) g t (symCells y k f f2 sz al) := ((h.set_ 8 _).set_ 9 _)
theorem upd1 (h : Blk w g t (symCells a k f f2 sz al)) (y : Int) : Blk (w.setCell ⟨g, 10, none⟩ (.int .u8 (y))) g t (symCells a y f f2 sz al) := (h.set_ 10 _)
theorem upd2 (h : Blk w g t (symCells a k f f2 sz al)) (y : Int) : Blk (w.setCell ⟨g, 11, none⟩ (.int .u8 (y))) g t (symCells a k y f2 sz al) := (h.set_ 11 _)
theorem upd3 (h : Blk w g t (symCells a k f f2 sz al)) (y : Int) : Blk (w.setCell ⟨g, 12, none⟩ (.int .u8 (y))) g t (symCells a k f y sz al) := (h.set_ 12 _)
theorem upd4 (h : Blk w g t (symCells a k f f2 sz al)) (y : Int) : Blk ((((w.setCell ⟨g, 13, none⟩ (.int .u8 (y % 256))).setCell ⟨g, 14, none⟩ (.int .u8 (y / 256 % 256))).setCell ⟨g, 15, none⟩ (.int .u8 (y / 65536 % 256))).setCell ⟨g, 16, none⟩ (.int .u8 (y / 16777216))) g t (symCells a k f f2 y al) := ((((h.set_ 13 _).set_ 14 _).set_ 15 _).set_ 16 _)
theorem upd5 (h : Blk w g t (symCells a k f f2 sz al)) (y : Int) : Blk ((((w.setCell ⟨g, 17, none⟩ (.int .u8 (y % 256))).setCell ⟨g, 18, none⟩ (.int .u8 (y / 256 % 256))).setCell ⟨g, 19, none⟩ (.int .u8 (y / 65536 % 256))).setCell ⟨g, 20, none⟩ (.int .u8 (y / 16777216))) g t (symCells a k f f2 sz y) := ((((h.set_ 17 _).set_ 18 _).set_ 19 _).set_ 20 _)
end

section
variable (x0 x1 x2 x3 x4 x5 y0 y1 y2 y3 y4 y5 : Int) (w : World) (bx0 : 0 ≤ x0 ∧ x0 < 65536) (bx4 : 0 ≤ x4 ∧ x4 < 4294967296) (bx5 : 0 ≤ x5 ∧ x5 < 4294967296) (by0 : 0 ≤ y0 ∧ y0 < 65536) (by4 : 0 ≤ y4 ∧ y4 < 4294967296) (by5 : 0 ≤ y5 ∧ y5 < 4294967296)
include bx0 bx4 bx5 by0 by4 by5
set_option maxHeartbeats 800000 in
theorem symbolSet0 : Calls Try.prog 18 #[.agg #[.int .u16 x0, .int .u8 x1, .int .u8 x2, .int .u8 x3, .int .u32 x4, .int .u32 x5], .agg #[.int .u16 y0, .int .u8 y1, .int .u8 y2, .int .u8 y3, .int .u32 y4, .int .u32 y5], (.int .i64 0)] w (RetV (.agg #[.int .u16 y0, .int .u8 x1, .int .u8 x2, .int .u8 x3, .int .u32 x4, .int .u32 x5]) w) := by
  have hX := And.intro bx0 (And.intro bx4 bx5)
  obtain ⟨a0, a1⟩ := bx0
  obtain ⟨s0, s1⟩ := bx4
  obtain ⟨l0, l1⟩ := bx5
  obtain ⟨c0, c1⟩ := by0
  obtain ⟨d0, d1⟩ := by4
  obtain ⟨e0, e1⟩ := by5
  clear hX
  go_enter Try.func18, Try.ntmps18
  go_wp2_with fail
  refine (sym_any x0 x1 x2 x3 x4 x5 _ a0 a1 s0 s1 l0 l1).mono ?_
  rintro e w1 ⟨g, rfl, hg, hblk, hb1⟩
  have hc := hblk.cell
  have hf := hblk.frozen
  have r := (Blk.new1 (w.alloc _) _ _ _).here hb1
  rw [World.size_alloc] at r
  have r0 : ∀ i, w1.cell? ⟨w.heap.size + 1, i, none⟩ = (#[.int .u16 y0, .int .u8 y1, .int .u8 y2, .int .u8 y3, .int .u32 y4, .int .u32 y5] : Array Value)[i]? := ((Blk.new1 w _ _ _).alloc _ |>.here hb1).cell
  have hz := hb1.size
  have hg1 := hblk.lt
  simp at hz hg
  have gn0 : (g == w.heap.size + 1) = false := by simp; omega
  unfold symCells at hc
  have hfar : g ≠ w.heap.size + 1 := by omega
  have hB : Below w.heap.size w w1 := below_from (by (repeat' (first | (with_reducible exact Below.refl _ _) | (with_reducible assumption) | (with_reducible refine below_drewN ?_ _) | (with_reducible refine Below.alloc ?_ ?_ _) | (with_reducible refine Below.drew ?_) | (with_reducible refine Below.setCell ?_ ?_ _) | go_size))) hb1
  clear hb1
  have HH := Lib.hid hg1
  clear hg1
  go_wp2_with (first | (go_at_call 47; go_in) | (go_at_call 48; go_in) | (go_at_call 49; go_in) | (go_at_call 50; go_in) | (go_at_call 51; go_in) | (go_at_call 52; go_in) | (go_at_call 66; go_in) | (go_at_call 67; go_in))
  refine (toldSym_any g y0 x1 x2 x3 x4 x5 _ c0 c1 s0 s1 l0 l1 (upd0 hblk y0).lt (upd0 hblk y0).cell).mono ?_
  rintro e w2 ⟨rfl, hb2⟩
  have r2 := ((r.far (p := ⟨g, 8, none⟩) (by simp; omega) _).far (p := ⟨g, 9, none⟩) (by simp; omega) _).here hb2
  have hrc := r2.cell
  have hrf := r2.frozen
  have hz2 := hb2.size
  have hB2 : Below w.heap.size w w2 := below_from (by (repeat' (first | (with_reducible exact Below.refl _ _) | (with_reducible assumption) | (with_reducible refine below_drewN ?_ _) | (with_reducible refine Below.alloc ?_ ?_ _) | (with_reducible refine Below.drew ?_) | (with_reducible refine Below.setCell ?_ ?_ _) | go_size))) hb2
  try simp only [World.size_setCell] at hz2
  clear r r2 hc hf hblk r0
  go_wp2_with fail
  exact bodyPost_ret (v := .agg #[.int .u16 y0, .int .u8 x1, .int .u8 x2, .int .u8 x3, .int .u32 x4, .int .u32 x5]) (by simp [results, Try.results18, go_sem, hrc]) rfl ⟨rfl, by (repeat' (first | (with_reducible exact Below.refl _ _) | (with_reducible assumption) | (with_reducible refine below_drewN ?_ _) | (with_reducible refine Below.alloc ?_ ?_ _) | (with_reducible refine Below.drew ?_) | (with_reducible refine Below.setCell ?_ ?_ _) | go_size))⟩

set_option maxHeartbeats 800000 in
theorem symbolSet1 : Calls Try.prog 18 #[.agg #[.int .u16 x0, .int .u8 x1, .int .u8 x2, .int .u8 x3, .int .u32 x4, .int .u32 x5], .agg #[.int .u16 y0, .int .u8 y1, .int .u8 y2, .int .u8 y3, .int .u32 y4, .int .u32 y5], (.int .i64 1)] w (RetV (.agg #[.int .u16 x0, .int .u8 y1, .int .u8 x2, .int .u8 x3, .int .u32 x4, .int .u32 x5]) w) := by
  have hX := And.intro bx0 (And.intro bx4 bx5)
  obtain ⟨a0, a1⟩ := bx0
  obtain ⟨s0, s1⟩ := bx4
  obtain ⟨l0, l1⟩ := bx5
  obtain ⟨c0, c1⟩ := by0
  obtain ⟨d0, d1⟩ := by4
  obtain ⟨e0, e1⟩ := by5
  clear hX
  go_enter Try.func18, Try.ntmps18
  go_wp2_with fail
  refine (sym_any x0 x1 x2 x3 x4 x5 _ a0 a1 s0 s1 l0 l1).mono ?_
  rintro e w1 ⟨g, rfl, hg, hblk, hb1⟩
  have hc := hblk.cell
  have hf := hblk.frozen
  have r := (Blk.new1 (w.alloc _) _ _ _).here hb1
  rw [World.size_alloc] at r
  have r0 : ∀ i, w1.cell? ⟨w.heap.size + 1, i, none⟩ = (#[.int .u16 y0, .int .u8 y1, .int .u8 y2, .int .u8 y3, .int .u32 y4, .int .u32 y5] : Array Value)[i]? := ((Blk.new1 w _ _ _).alloc _ |>.here hb1).cell
  have hz := hb1.size
  have hg1 := hblk.lt
  simp at hz hg
  have gn0 : (g == w.heap.size + 1) = false := by simp; omega
  unfold symCells at hc
  have hfar : g ≠ w.heap.size + 1 := by omega
  have hB : Below w.heap.size w w1 := below_from (by (repeat' (first | (with_reducible exact Below.refl _ _) | (with_reducible assumption) | (with_reducible refine below_drewN ?_ _) | (with_reducible refine Below.alloc ?_ ?_ _) | (with_reducible refine Below.drew ?_) | (with_reducible refine Below.setCell ?_ ?_ _) | go_size))) hb1
  clear hb1
  have HH := Lib.hid hg1
  clear hg1
  go_wp2_with (first | (go_at_call 47; go_in) | (go_at_call 48; go_in) | (go_at_call 49; go_in) | (go_at_call 50; go_in) | (go_at_call 51; go_in) | (go_at_call 52; go_in) | (go_at_call 66; go_in) | (go_at_call 67; go_in))
  refine (toldSym_any g x0 y1 x2 x3 x4 x5 _ a0 a1 s0 s1 l0 l1 (upd1 hblk y1).lt (upd1 hblk y1).cell).mono ?_
  rintro e w2 ⟨rfl, hb2⟩
  have r2 := (r.far (p := ⟨g, 10, none⟩) (by simp; omega) _).here hb2
  have hrc := r2.cell
  have hrf := r2.frozen
  have hz2 := hb2.size
  have hB2 : Below w.heap.size w w2 := below_from (by (repeat' (first | (with_reducible exact Below.refl _ _) | (with_reducible assumption) | (with_reducible refine below_drewN ?_ _) | (with_reducible refine Below.alloc ?_ ?_ _) | (with_reducible refine Below.drew ?_) | (with_reducible refine Below.setCell ?_ ?_ _) | go_size))) hb2
  try simp only [World.size_setCell] at hz2
  clear r r2 hc hf hblk r0
  go_wp2_with fail
  exact bodyPost_ret (v := .agg #[.int .u16 x0, .int .u8 y1, .int .u8 x2, .int .u8 x3, .int .u32 x4, .int .u32 x5]) (by simp [results, Try.results18, go_sem, hrc]) rfl ⟨rfl, by (repeat' (first | (with_reducible exact Below.refl _ _) | (with_reducible assumption) | (with_reducible refine below_drewN ?_ _) | (with_reducible refine Below.alloc ?_ ?_ _) | (with_reducible refine Below.drew ?_) | (with_reducible refine Below.setCell ?_ ?_ _) | go_size))⟩

set_option maxHeartbeats 800000 in
theorem symbolSet2 : Calls Try.prog 18 #[.agg #[.int .u16 x0, .int .u8 x1, .int .u8 x2, .int .u8 x3, .int .u32 x4, .int .u32 x5], .agg #[.int .u16 y0, .int .u8 y1, .int .u8 y2, .int .u8 y3, .int .u32 y4, .int .u32 y5], (.int .i64 2)] w (RetV (.agg #[.int .u16 x0, .int .u8 x1, .int .u8 y2, .int .u8 x3, .int .u32 x4, .int .u32 x5]) w) := by
  have hX := And.intro bx0 (And.intro bx4 bx5)
  obtain ⟨a0, a1⟩ := bx0
  obtain ⟨s0, s1⟩ := bx4
  obtain ⟨l0, l1⟩ := bx5
  obtain ⟨c0, c1⟩ := by0
  obtain ⟨d0, d1⟩ := by4
  obtain ⟨e0, e1⟩ := by5
  clear hX
  go_enter Try.func18, Try.ntmps18
  go_wp2_with fail
  refine (sym_any x0 x1 x2 x3 x4 x5 _ a0 a1 s0 s1 l0 l1).mono ?_
  rintro e w1 ⟨g, rfl, hg, hblk, hb1⟩
  have hc := hblk.cell
  have hf := hblk.frozen
  have r := (Blk.new1 (w.alloc _) _ _ _).here hb1
  rw [World.size_alloc] at r
  have r0 : ∀ i, w1.cell? ⟨w.heap.size + 1, i, none⟩ = (#[.int .u16 y0, .int .u8 y1, .int .u8 y2, .int .u8 y3, .int .u32 y4, .int .u32 y5] : Array Value)[i]? := ((Blk.new1 w _ _ _).alloc _ |>.here hb1).cell
  have hz := hb1.size
  have hg1 := hblk.lt
  simp at hz hg
  have gn0 : (g == w.heap.size + 1) = false := by simp; omega
  unfold symCells at hc
  have hfar : g ≠ w.heap.size + 1 := by omega
  have hB : Below w.heap.size w w1 := below_from (by (repeat' (first | (with_reducible exact Below.refl _ _) | (with_reducible assumption) | (with_reducible refine below_drewN ?_ _) | (with_reducible refine Below.alloc ?_ ?_ _) | (with_reducible refine Below.drew ?_) | (with_reducible refine Below.setCell ?_ ?_ _) | go_size))) hb1
  clear hb1
  have HH := Lib.hid hg1
  clear hg1
  go_wp2_with (first | (go_at_call 47; go_in) | (go_at_call 48; go_in) | (go_at_call 49; go_in) | (go_at_call 50; go_in) | (go_at_call 51; go_in) | (go_at_call 52; go_in) | (go_at_call 66; go_in) | (go_at_call 67; go_in))
  refine (toldSym_any g x0 x1 y2 x3 x4 x5 _ a0 a1 s0 s1 l0 l1 (upd2 hblk y2).lt (upd2 hblk y2).cell).mono ?_
  rintro e w2 ⟨rfl, hb2⟩
  have r2 := (r.far (p := ⟨g, 11, none⟩) (by simp; omega) _).here hb2
  have hrc := r2.cell
  have hrf := r2.frozen
  have hz2 := hb2.size
  have hB2 : Below w.heap.size w w2 := below_from (by (repeat' (first | (with_reducible exact Below.refl _ _) | (with_reducible assumption) | (with_reducible refine below_drewN ?_ _) | (with_reducible refine Below.alloc ?_ ?_ _) | (with_reducible refine Below.drew ?_) | (with_reducible refine Below.setCell ?_ ?_ _) | go_size))) hb2
  try simp only [World.size_setCell] at hz2
  clear r r2 hc hf hblk r0
  go_wp2_with fail
  exact bodyPost_ret (v := .agg #[.int .u16 x0, .int .u8 x1, .int .u8 y2, .int .u8 x3, .int .u32 x4, .int .u32 x5]) (by simp [results, Try.results18, go_sem, hrc]) rfl ⟨rfl, by (repeat' (first | (with_reducible exact Below.refl _ _) | (with_reducible assumption) | (with_reducible refine below_drewN ?_ _) | (with_reducible refine Below.alloc ?_ ?_ _) | (with_reducible refine Below.drew ?_) | (with_reducible refine Below.setCell ?_ ?_ _) | go_size))⟩

set_option maxHeartbeats 800000 in
theorem symbolSet3 : Calls Try.prog 18 #[.agg #[.int .u16 x0, .int .u8 x1, .int .u8 x2, .int .u8 x3, .int .u32 x4, .int .u32 x5], .agg #[.int .u16 y0, .int .u8 y1, .int .u8 y2, .int .u8 y3, .int .u32 y4, .int .u32 y5], (.int .i64 3)] w (RetV (.agg #[.int .u16 x0, .int .u8 x1, .int .u8 x2, .int .u8 y3, .int .u32 x4, .int .u32 x5]) w) := by
  have hX := And.intro bx0 (And.intro bx4 bx5)
  obtain ⟨a0, a1⟩ := bx0
  obtain ⟨s0, s1⟩ := bx4
  obtain ⟨l0, l1⟩ := bx5
  obtain ⟨c0, c1⟩ := by0
  obtain ⟨d0, d1⟩ := by4
  obtain ⟨e0, e1⟩ := by5
  clear hX
  go_enter Try.func18, Try.ntmps18
  go_wp2_with fail
  refine (sym_any x0 x1 x2 x3 x4 x5 _ a0 a1 s0 s1 l0 l1).mono ?_
  rintro e w1 ⟨g, rfl, hg, hblk, hb1⟩
  have hc := hblk.cell
  have hf := hblk.frozen
  have r := (Blk.new1 (w.alloc _) _ _ _).here hb1
  rw [World.size_alloc] at r
  have r0 : ∀ i, w1.cell? ⟨w.heap.size + 1, i, none⟩ = (#[.int .u16 y0, .int .u8 y1, .int .u8 y2, .int .u8 y3, .int .u32 y4, .int .u32 y5] : Array Value)[i]? := ((Blk.new1 w _ _ _).alloc _ |>.here hb1).cell
  have hz := hb1.size
  have hg1 := hblk.lt
  simp at hz hg
  have gn0 : (g == w.heap.size + 1) = false := by simp; omega
  unfold symCells at hc
  have hfar : g ≠ w.heap.size + 1 := by omega
  have hB : Below w.heap.size w w1 := below_from (by (repeat' (first | (with_reducible exact Below.refl _ _) | (with_reducible assumption) | (with_reducible refine below_drewN ?_ _) | (with_reducible refine Below.alloc ?_ ?_ _) | (with_reducible refine Below.drew ?_) | (with_reducible refine Below.setCell ?_ ?_ _) | go_size))) hb1
  clear hb1
  have HH := Lib.hid hg1
  clear hg1
  go_wp2_with (first | (go_at_call 47; go_in) | (go_at_call 48; go_in) | (go_at_call 49; go_in) | (go_at_call 50; go_in) | (go_at_call 51; go_in) | (go_at_call 52; go_in) | (go_at_call 66; go_in) | (go_at_call 67; go_in))
  refine (toldSym_any g x0 x1 x2 y3 x4 x5 _ a0 a1 s0 s1 l0 l1 (upd3 hblk y3).lt (upd3 hblk y3).cell).mono ?_
  rintro e w2 ⟨rfl, hb2⟩
  have r2 := (r.far (p := ⟨g, 12, none⟩) (by simp; omega) _).here hb2
  have hrc := r2.cell
  have hrf := r2.frozen
  have hz2 := hb2.size
  have hB2 : Below w.heap.size w w2 := below_from (by (repeat' (first | (with_reducible exact Below.refl _ _) | (with_reducible assumption) | (with_reducible refine below_drewN ?_ _) | (with_reducible refine Below.alloc ?_ ?_ _) | (with_reducible refine Below.drew ?_) | (with_reducible refine Below.setCell ?_ ?_ _) | go_size))) hb2
  try simp only [World.size_setCell] at hz2
  clear r r2 hc hf hblk r0
  go_wp2_with fail
  exact bodyPost_ret (v := .agg #[.int .u16 x0, .int .u8 x1, .int .u8 x2, .int .u8 y3, .int .u32 x4, .int .u32 x5]) (by simp [results, Try.results18, go_sem, hrc]) rfl ⟨rfl, by (repeat' (first | (with_reducible exact Below.refl _ _) | (with_reducible assumption) | (with_reducible refine below_drewN ?_ _) | (with_reducible refine Below.alloc ?_ ?_ _) | (with_reducible refine Below.drew ?_) | (with_reducible refine Below.setCell ?_ ?_ _) | go_size))⟩

set_option maxHeartbeats 800000 in
theorem symbolSet4 : Calls Try.prog 18 #[.agg #[.int .u16 x0, .int .u8 x1, .int .u8 x2, .int .u8 x3, .int .u32 x4, .int .u32 x5], .agg #[.int .u16 y0, .int .u8 y1, .int .u8 y2, .int .u8 y3, .int .u32 y4, .int .u32 y5], (.int .i64 4)] w (RetV (.agg #[.int .u16 x0, .int .u8 x1, .int .u8 x2, .int .u8 x3, .int .u32 y4, .int .u32 x5]) w) := by
  have hX := And.intro bx0 (And.intro bx4 bx5)
  obtain ⟨a0, a1⟩ := bx0
  obtain ⟨s0, s1⟩ := bx4
  obtain ⟨l0, l1⟩ := bx5
  obtain ⟨c0, c1⟩ := by0
  obtain ⟨d0, d1⟩ := by4
  obtain ⟨e0, e1⟩ := by5
  clear hX
  go_enter Try.func18, Try.ntmps18
  go_wp2_with fail
  refine (sym_any x0 x1 x2 x3 x4 x5 _ a0 a1 s0 s1 l0 l1).mono ?_
  rintro e w1 ⟨g, rfl, hg, hblk, hb1⟩
  have hc := hblk.cell
  have hf := hblk.frozen
  have r := (Blk.new1 (w.alloc _) _ _ _).here hb1
  rw [World.size_alloc] at r
  have r0 : ∀ i, w1.cell? ⟨w.heap.size + 1, i, none⟩ = (#[.int .u16 y0, .int .u8 y1, .int .u8 y2, .int .u8 y3, .int .u32 y4, .int .u32 y5] : Array Value)[i]? := ((Blk.new1 w _ _ _).alloc _ |>.here hb1).cell
  have hz := hb1.size
  have hg1 := hblk.lt
  simp at hz hg
  have gn0 : (g == w.heap.size + 1) = false := by simp; omega
  unfold symCells at hc
  have hfar : g ≠ w.heap.size + 1 := by omega
  have hB : Below w.heap.size w w1 := below_from (by (repeat' (first | (with_reducible exact Below.refl _ _) | (with_reducible assumption) | (with_reducible refine below_drewN ?_ _) | (with_reducible refine Below.alloc ?_ ?_ _) | (with_reducible refine Below.drew ?_) | (with_reducible refine Below.setCell ?_ ?_ _) | go_size))) hb1
  clear hb1
  have HH := Lib.hid hg1
  clear hg1
  go_wp2_with (first | (go_at_call 47; go_in) | (go_at_call 48; go_in) | (go_at_call 49; go_in) | (go_at_call 50; go_in) | (go_at_call 51; go_in) | (go_at_call 52; go_in) | (go_at_call 66; go_in) | (go_at_call 67; go_in))
  refine (toldSym_any g x0 x1 x2 x3 y4 x5 _ a0 a1 d0 d1 l0 l1 (upd4 hblk y4).lt (upd4 hblk y4).cell).mono ?_
  rintro e w2 ⟨rfl, hb2⟩
  have r2 := ((((r.far (p := ⟨g, 13, none⟩) (by simp; omega) _).far (p := ⟨g, 14, none⟩) (by simp; omega) _).far (p := ⟨g, 15, none⟩) (by simp; omega) _).far (p := ⟨g, 16, none⟩) (by simp; omega) _).here hb2
  have hrc := r2.cell
  have hrf := r2.frozen
  have hz2 := hb2.size
  have hB2 : Below w.heap.size w w2 := below_from (by (repeat' (first | (with_reducible exact Below.refl _ _) | (with_reducible assumption) | (with_reducible refine below_drewN ?_ _) | (with_reducible refine Below.alloc ?_ ?_ _) | (with_reducible refine Below.drew ?_) | (with_reducible refine Below.setCell ?_ ?_ _) | go_size))) hb2
  try simp only [World.size_setCell] at hz2
  clear r r2 hc hf hblk r0
  go_wp2_with fail
  exact bodyPost_ret (v := .agg #[.int .u16 x0, .int .u8 x1, .int .u8 x2, .int .u8 x3, .int .u32 y4, .int .u32 x5]) (by simp [results, Try.results18, go_sem, hrc]) rfl ⟨rfl, by (repeat' (first | (with_reducible exact Below.refl _ _) | (with_reducible assumption) | (with_reducible refine below_drewN ?_ _) | (with_reducible refine Below.alloc ?_ ?_ _) | (with_reducible refine Below.drew ?_) | (with_reducible refine Below.setCell ?_ ?_ _) | go_size))⟩

set_option maxHeartbeats 800000 in
theorem symbolSet5 : Calls Try.prog 18 #[.agg #[.int .u16 x0, .int .u8 x1, .int .u8 x2, .int .u8 x3, .int .u32 x4, .int .u32 x5], .agg #[.int .u16 y0, .int .u8 y1, .int .u8 y2, .int .u8 y3, .int .u32 y4, .int .u32 y5], (.int .i64 5)] w (RetV (.agg #[.int .u16 x0, .int .u8 x1, .int .u8 x2, .int .u8 x3, .int .u32 x4, .int .u32 y5]) w) := by
  have hX := And.intro bx0 (And.intro bx4 bx5)
  obtain ⟨a0, a1⟩ := bx0
  obtain ⟨s0, s1⟩ := bx4
  obtain ⟨l0, l1⟩ := bx5
  obtain ⟨c0, c1⟩ := by0
  obtain ⟨d0, d1⟩ := by4
  obtain ⟨e0, e1⟩ := by5
  clear hX
  go_enter Try.func18, Try.ntmps18
  go_wp2_with fail
  refine (sym_any x0 x1 x2 x3 x4 x5 _ a0 a1 s0 s1 l0 l1).mono ?_
  rintro e w1 ⟨g, rfl, hg, hblk, hb1⟩
  have hc := hblk.cell
  have hf := hblk.frozen
  have r := (Blk.new1 (w.alloc _) _ _ _).here hb1
  rw [World.size_alloc] at r
  have r0 : ∀ i, w1.cell? ⟨w.heap.size + 1, i, none⟩ = (#[.int .u16 y0, .int .u8 y1, .int .u8 y2, .int .u8 y3, .int .u32 y4, .int .u32 y5] : Array Value)[i]? := ((Blk.new1 w _ _ _).alloc _ |>.here hb1).cell
  have hz := hb1.size
  have hg1 := hblk.lt
  simp at hz hg
  have gn0 : (g == w.heap.size + 1) = false := by simp; omega
  unfold symCells at hc
  have hfar : g ≠ w.heap.size + 1 := by omega
  have hB : Below w.heap.size w w1 := below_from (by (repeat' (first | (with_reducible exact Below.refl _ _) | (with_reducible assumption) | (with_reducible refine below_drewN ?_ _) | (with_reducible refine Below.alloc ?_ ?_ _) | (with_reducible refine Below.drew ?_) | (with_reducible refine Below.setCell ?_ ?_ _) | go_size))) hb1
  clear hb1
  have HH := Lib.hid hg1
  clear hg1
  go_wp2_with (first | (go_at_call 47; go_in) | (go_at_call 48; go_in) | (go_at_call 49; go_in) | (go_at_call 50; go_in) | (go_at_call 51; go_in) | (go_at_call 52; go_in) | (go_at_call 66; go_in) | (go_at_call 67; go_in))
  refine (toldSym_any g x0 x1 x2 x3 x4 y5 _ a0 a1 s0 s1 e0 e1 (upd5 hblk y5).lt (upd5 hblk y5).cell).mono ?_
  rintro e w2 ⟨rfl, hb2⟩
  have r2 := ((((r.far (p := ⟨g, 17, none⟩) (by simp; omega) _).far (p := ⟨g, 18, none⟩) (by simp; omega) _).far (p := ⟨g, 19, none⟩) (by simp; omega) _).far (p := ⟨g, 20, none⟩) (by simp; omega) _).here hb2
  have hrc := r2.cell
  have hrf := r2.frozen
  have hz2 := hb2.size
  have hB2 : Below w.heap.size w w2 := below_from (by (repeat' (first | (with_reducible exact Below.refl _ _) | (with_reducible assumption) | (with_reducible refine below_drewN ?_ _) | (with_reducible refine Below.alloc ?_ ?_ _) | (with_reducible refine Below.drew ?_) | (with_reducible refine Below.setCell ?_ ?_ _) | go_size))) hb2
  try simp only [World.size_setCell] at hz2
  clear r r2 hc hf hblk r0
  go_wp2_with fail
  exact bodyPost_ret (v := .agg #[.int .u16 x0, .int .u8 x1, .int .u8 x2, .int .u8 x3, .int .u32 x4, .int .u32 y5]) (by simp [results, Try.results18, go_sem, hrc]) rfl ⟨rfl, by (repeat' (first | (with_reducible exact Below.refl _ _) | (with_reducible assumption) | (with_reducible refine below_drewN ?_ _) | (with_reducible refine Below.alloc ?_ ?_ _) | (with_reducible refine Below.drew ?_) | (with_reducible refine Below.setCell ?_ ?_ _) | go_size))⟩

set_option maxHeartbeats 800000 in
theorem symbolSet6 (n : Int) (hn : ∀ c : Int, 0 ≤ c → c ≤ 5 → (n == c) = false) : Calls Try.prog 18 #[.agg #[.int .u16 x0, .int .u8 x1, .int .u8 x2, .int .u8 x3, .int .u32 x4, .int .u32 x5], .agg #[.int .u16 y0, .int .u8 y1, .int .u8 y2, .int .u8 y3, .int .u32 y4, .int .u32 y5], (.int .i64 n)] w (RetV (.agg #[.int .u16 x0, .int .u8 x1, .int .u8 x2, .int .u8 x3, .int .u32 x4, .int .u32 x5]) w) := by
  have n0 := hn 0 (by omega) (by omega)
  have n1 := hn 1 (by omega) (by omega)
  have n2 := hn 2 (by omega) (by omega)
  have n3 := hn 3 (by omega) (by omega)
  have n4 := hn 4 (by omega) (by omega)
  have n5 := hn 5 (by omega) (by omega)
  clear hn
  have hX := And.intro bx0 (And.intro bx4 bx5)
  obtain ⟨a0, a1⟩ := bx0
  obtain ⟨s0, s1⟩ := bx4
  obtain ⟨l0, l1⟩ := bx5
  obtain ⟨c0, c1⟩ := by0
  obtain ⟨d0, d1⟩ := by4
  obtain ⟨e0, e1⟩ := by5
  clear hX
  go_enter Try.func18, Try.ntmps18
  go_wp2_with fail
  refine (sym_any x0 x1 x2 x3 x4 x5 _ a0 a1 s0 s1 l0 l1).mono ?_
  rintro e w1 ⟨g, rfl, hg, hblk, hb1⟩
  have hc := hblk.cell
  have hf := hblk.frozen
  have r := (Blk.new1 (w.alloc _) _ _ _).here hb1
  rw [World.size_alloc] at r
  have r0 : ∀ i, w1.cell? ⟨w.heap.size + 1, i, none⟩ = (#[.int .u16 y0, .int .u8 y1, .int .u8 y2, .int .u8 y3, .int .u32 y4, .int .u32 y5] : Array Value)[i]? := ((Blk.new1 w _ _ _).alloc _ |>.here hb1).cell
  have hz := hb1.size
  have hg1 := hblk.lt
  simp at hz hg
  have gn0 : (g == w.heap.size + 1) = false := by simp; omega
  unfold symCells at hc
  have hfar : g ≠ w.heap.size + 1 := by omega
  have hB : Below w.heap.size w w1 := below_from (by (repeat' (first | (with_reducible exact Below.refl _ _) | (with_reducible assumption) | (with_reducible refine below_drewN ?_ _) | (with_reducible refine Below.alloc ?_ ?_ _) | (with_reducible refine Below.drew ?_) | (with_reducible refine Below.setCell ?_ ?_ _) | go_size))) hb1
  clear hb1
  have HH := Lib.hid hg1
  clear hg1
  go_wp2_with (first | (go_at_call 47; go_in) | (go_at_call 48; go_in) | (go_at_call 49; go_in) | (go_at_call 50; go_in) | (go_at_call 51; go_in) | (go_at_call 52; go_in) | (go_at_call 66; go_in) | (go_at_call 67; go_in))
  refine (toldSym_any g x0 x1 x2 x3 x4 x5 _ a0 a1 s0 s1 l0 l1 hblk.lt hblk.cell).mono ?_
  rintro e w2 ⟨rfl, hb2⟩
  have r2 := r.here hb2
  have hrc := r2.cell
  have hrf := r2.frozen
  have hz2 := hb2.size
  have hB2 : Below w.heap.size w w2 := below_from (by (repeat' (first | (with_reducible exact Below.refl _ _) | (with_reducible assumption) | (with_reducible refine below_drewN ?_ _) | (with_reducible refine Below.alloc ?_ ?_ _) | (with_reducible refine Below.drew ?_) | (with_reducible refine Below.setCell ?_ ?_ _) | go_size))) hb2
  try simp only [World.size_setCell] at hz2
  clear r r2 hc hf hblk r0
  go_wp2_with fail
  exact bodyPost_ret (v := .agg #[.int .u16 x0, .int .u8 x1, .int .u8 x2, .int .u8 x3, .int .u32 x4, .int .u32 x5]) (by simp [results, Try.results18, go_sem, hrc]) rfl ⟨rfl, by (repeat' (first | (with_reducible exact Below.refl _ _) | (with_reducible assumption) | (with_reducible refine below_drewN ?_ _) | (with_reducible refine Below.alloc ?_ ?_ _) | (with_reducible refine Below.drew ?_) | (with_reducible refine Below.setCell ?_ ?_ _) | go_size))⟩

end

section
variable (x0 x1 x2 x3 x4 x5 y0 y1 y2 y3 y4 y5 : Int) (w : World)
theorem symbolWith0 : Calls Try.prog 19 #[.agg #[.int .u16 x0, .int .u8 x1, .int .u8 x2, .int .u8 x3, .int .u32 x4, .int .u32 x5], .agg #[.int .u16 y0, .int .u8 y1, .int .u8 y2, .int .u8 y3, .int .u32 y4, .int .u32 y5], (.int .i64 0)] w (RetV (.agg #[.int .u16 y0, .int .u8 x1, .int .u8 x2, .int .u8 x3, .int .u32 x4, .int .u32 x5]) w) := by
  go_enter Try.func19, Try.ntmps19
  go_wp2
  exact bodyPost_ret (v := .agg #[.int .u16 y0, .int .u8 x1, .int .u8 x2, .int .u8 x3, .int .u32 x4, .int .u32 x5]) (by simp [results, Try.results19, go_sem]) rfl ⟨rfl, by (repeat' (first | (with_reducible exact Below.refl _ _) | (with_reducible assumption) | (with_reducible refine below_drewN ?_ _) | (with_reducible refine Below.alloc ?_ ?_ _) | (with_reducible refine Below.drew ?_) | (with_reducible refine Below.setCell ?_ ?_ _) | go_size))⟩
theorem symbolWith1 : Calls Try.prog 19 #[.agg #[.int .u16 x0, .int .u8 x1, .int .u8 x2, .int .u8 x3, .int .u32 x4, .int .u32 x5], .agg #[.int .u16 y0, .int .u8 y1, .int .u8 y2, .int .u8 y3, .int .u32 y4, .int .u32 y5], (.int .i64 1)] w (RetV (.agg #[.int .u16 x0, .int .u8 y1, .int .u8 x2, .int .u8 x3, .int .u32 x4, .int .u32 x5]) w) := by
  go_enter Try.func19, Try.ntmps19
  go_wp2
  exact bodyPost_ret (v := .agg #[.int .u16 x0, .int .u8 y1, .int .u8 x2, .int .u8 x3, .int .u32 x4, .int .u32 x5]) (by simp [results, Try.results19, go_sem]) rfl ⟨rfl, by (repeat' (first | (with_reducible exact Below.refl _ _) | (with_reducible assumption) | (with_reducible refine below_drewN ?_ _) | (with_reducible refine Below.alloc ?_ ?_ _) | (with_reducible refine Below.drew ?_) | (with_reducible refine Below.setCell ?_ ?_ _) | go_size))⟩
theorem symbolWith2 : Calls Try.prog 19 #[.agg #[.int .u16 x0, .int .u8 x1, .int .u8 x2, .int .u8 x3, .int .u32 x4, .int .u32 x5], .agg #[.int .u16 y0, .int .u8 y1, .int .u8 y2, .int .u8 y3, .int .u32 y4, .int .u32 y5], (.int .i64 2)] w (RetV (.agg #[.int .u16 x0, .int .u8 x1, .int .u8 y2, .int .u8 x3, .int .u32 x4, .int .u32 x5]) w) := by
  go_enter Try.func19, Try.ntmps19
  go_wp2
  exact bodyPost_ret (v := .agg #[.int .u16 x0, .int .u8 x1, .int .u8 y2, .int .u8 x3, .int .u32 x4, .int .u32 x5]) (by simp [results, Try.results19, go_sem]) rfl ⟨rfl, by (repeat' (first | (with_reducible exact Below.refl _ _) | (with_reducible assumption) | (with_reducible refine below_drewN ?_ _) | (with_reducible refine Below.alloc ?_ ?_ _) | (with_reducible refine Below.drew ?_) | (with_reducible refine Below.setCell ?_ ?_ _) | go_size))⟩
theorem symbolWith3 : Calls Try.prog 19 #[.agg #[.int .u16 x0, .int .u8 x1, .int .u8 x2, .int .u8 x3, .int .u32 x4, .int .u32 x5], .agg #[.int .u16 y0, .int .u8 y1, .int .u8 y2, .int .u8 y3, .int .u32 y4, .int .u32 y5], (.int .i64 3)] w (RetV (.agg #[.int .u16 x0, .int .u8 x1, .int .u8 x2, .int .u8 y3, .int .u32 x4, .int .u32 x5]) w) := by
  go_enter Try.func19, Try.ntmps19
  go_wp2
  exact bodyPost_ret (v := .agg #[.int .u16 x0, .int .u8 x1, .int .u8 x2, .int .u8 y3, .int .u32 x4, .int .u32 x5]) (by simp [results, Try.results19, go_sem]) rfl ⟨rfl, by (repeat' (first | (with_reducible exact Below.refl _ _) | (with_reducible assumption) | (with_reducible refine below_drewN ?_ _) | (with_reducible refine Below.alloc ?_ ?_ _) | (with_reducible refine Below.drew ?_) | (with_reducible refine Below.setCell ?_ ?_ _) | go_size))⟩
theorem symbolWith4 : Calls Try.prog 19 #[.agg #[.int .u16 x0, .int .u8 x1, .int .u8 x2, .int .u8 x3, .int .u32 x4, .int .u32 x5], .agg #[.int .u16 y0, .int .u8 y1, .int .u8 y2, .int .u8 y3, .int .u32 y4, .int .u32 y5], (.int .i64 4)] w (RetV (.agg #[.int .u16 x0, .int .u8 x1, .int .u8 x2, .int .u8 x3, .int .u32 y4, .int .u32 x5]) w) := by
  go_enter Try.func19, Try.ntmps19
  go_wp2
  exact bodyPost_ret (v := .agg #[.int .u16 x0, .int .u8 x1, .int .u8 x2, .int .u8 x3, .int .u32 y4, .int .u32 x5]) (by simp [results, Try.results19, go_sem]) rfl ⟨rfl, by (repeat' (first | (with_reducible exact Below.refl _ _) | (with_reducible assumption) | (with_reducible refine below_drewN ?_ _) | (with_reducible refine Below.alloc ?_ ?_ _) | (with_reducible refine Below.drew ?_) | (with_reducible refine Below.setCell ?_ ?_ _) | go_size))⟩
theorem symbolWith5 : Calls Try.prog 19 #[.agg #[.int .u16 x0, .int .u8 x1, .int .u8 x2, .int .u8 x3, .int .u32 x4, .int .u32 x5], .agg #[.int .u16 y0, .int .u8 y1, .int .u8 y2, .int .u8 y3, .int .u32 y4, .int .u32 y5], (.int .i64 5)] w (RetV (.agg #[.int .u16 x0, .int .u8 x1, .int .u8 x2, .int .u8 x3, .int .u32 x4, .int .u32 y5]) w) := by
  go_enter Try.func19, Try.ntmps19
  go_wp2
  exact bodyPost_ret (v := .agg #[.int .u16 x0, .int .u8 x1, .int .u8 x2, .int .u8 x3, .int .u32 x4, .int .u32 y5]) (by simp [results, Try.results19, go_sem]) rfl ⟨rfl, by (repeat' (first | (with_reducible exact Below.refl _ _) | (with_reducible assumption) | (with_reducible refine below_drewN ?_ _) | (with_reducible refine Below.alloc ?_ ?_ _) | (with_reducible refine Below.drew ?_) | (with_reducible refine Below.setCell ?_ ?_ _) | go_size))⟩
theorem symbolWith6 (n : Int) (hn : ∀ c : Int, 0 ≤ c → c ≤ 5 → (n == c) = false) : Calls Try.prog 19 #[.agg #[.int .u16 x0, .int .u8 x1, .int .u8 x2, .int .u8 x3, .int .u32 x4, .int .u32 x5], .agg #[.int .u16 y0, .int .u8 y1, .int .u8 y2, .int .u8 y3, .int .u32 y4, .int .u32 y5], (.int .i64 n)] w (RetV (.agg #[.int .u16 x0, .int .u8 x1, .int .u8 x2, .int .u8 x3, .int .u32 x4, .int .u32 x5]) w) := by
  have n0 := hn 0 (by omega) (by omega)
  have n1 := hn 1 (by omega) (by omega)
  have n2 := hn 2 (by omega) (by omega)
  have n3 := hn 3 (by omega) (by omega)
  have n4 := hn 4 (by omega) (by omega)
  have n5 := hn 5 (by omega) (by omega)
  clear hn
  go_enter Try.func19, Try.ntmps19
  go_wp2
  exact bodyPost_ret (v := .agg #[.int .u16 x0, .int .u8 x1, .int .u8 x2, .int .u8 x3, .int .u32 x4, .int .u32 x5]) (by simp [results, Try.results19, go_sem]) rfl ⟨rfl, by (repeat' (first | (with_reducible exact Below.refl _ _) | (with_reducible assumption) | (with_reducible refine below_drewN ?_ _) | (with_reducible refine Below.alloc ?_ ?_ _) | (with_reducible refine Below.drew ?_) | (with_reducible refine Below.setCell ?_ ?_ _) | go_size))⟩
end

set_option maxHeartbeats 800000 in
theorem fnSymbolSet0 (x0 x1 x2 x3 x4 x5 y0 y1 y2 y3 y4 y5 : Int) (w : World) (bx0 : 0 ≤ x0 ∧ x0 < 65536) (bx4 : 0 ≤ x4 ∧ x4 < 4294967296) (bx5 : 0 ≤ x5 ∧ x5 < 4294967296) (by0 : 0 ≤ y0 ∧ y0 < 65536) (by4 : 0 ≤ y4 ∧ y4 < 4294967296) (by5 : 0 ≤ y5 ∧ y5 < 4294967296) : Calls Try.prog 9 #[.agg #[.int .u16 x0, .int .u8 x1, .int .u8 x2, .int .u8 x3, .int .u32 x4, .int .u32 x5], .agg #[.int .u16 y0, .int .u8 y1, .int .u8 y2, .int .u8 y3, .int .u32 y4, .int .u32 y5], (.int .i64 0)] w (LawEnd w) := by
  have H0 := Lib.hid bx0
  have H1 := Lib.hid bx4
  have H2 := Lib.hid bx5
  have H3 := Lib.hid by0
  have H4 := Lib.hid by4
  have H5 := Lib.hid by5
  clear bx0 bx4 bx5 by0 by4 by5
  go_enter Try.func9, Try.ntmps9
  go_wp2_with fail
  go_region_held3 (fun w' => w'.cell? ⟨w.heap.size, 0, none⟩ = some (.int .u16 x0) ∧ w'.cell? ⟨w.heap.size, 1, none⟩ = some (.int .u8 x1) ∧ w'.cell? ⟨w.heap.size, 2, none⟩ = some (.int .u8 x2) ∧ w'.cell? ⟨w.heap.size, 3, none⟩ = some (.int .u8 x3) ∧ w'.cell? ⟨w.heap.size, 4, none⟩ = some (.int .u32 x4) ∧ w'.cell? ⟨w.heap.size, 5, none⟩ = some (.int .u32 x5) ∧ w'.cell? ⟨w.heap.size + 1, 0, none⟩ = some (.int .u16 y0) ∧ w'.cell? ⟨w.heap.size + 1, 1, none⟩ = some (.int .u8 y1) ∧ w'.cell? ⟨w.heap.size + 1, 2, none⟩ = some (.int .u8 y2) ∧ w'.cell? ⟨w.heap.size + 1, 3, none⟩ = some (.int .u8 y3) ∧ w'.cell? ⟨w.heap.size + 1, 4, none⟩ = some (.int .u32 y4) ∧ w'.cell? ⟨w.heap.size + 1, 5, none⟩ = some (.int .u32 y5))
    (first | go_keep | (go_split_ands; refine ⟨?_, ?_, ?_, ?_, ?_, ?_, ?_, ?_, ?_, ?_, ?_, ?_⟩ <;> (refine keep_cell hb ?_; first | assumption | (simp [go_sem]; done))))
    (first | (go_at_call 18; refine (symbolSet0 x0 x1 x2 x3 x4 x5 y0 y1 y2 y3 y4 y5 _ H0.out H1.out H2.out H3.out H4.out H5.out).mono ?_; rintro e w1 ⟨rfl, hb⟩) | (go_at_call 19; refine (symbolWith0 x0 x1 x2 x3 x4 x5 y0 y1 y2 y3 y4 y5 _).mono ?_; rintro e w1 ⟨rfl, hb⟩))
  go_wp2_with fail
  go_returns
  refine ⟨by simp, ?_⟩
  refine below_from ?_ hb
  refine below_from ?_ (by assumption)
  (repeat' (first | (with_reducible exact Below.refl _ _) | (with_reducible assumption) | (with_reducible refine below_drewN ?_ _) | (with_reducible refine Below.alloc ?_ ?_ _) | (with_reducible refine Below.drew ?_) | (with_reducible refine Below.setCell ?_ ?_ _) | go_size))

set_option maxHeartbeats 800000 in
theorem fnSymbolSet1 (x0 x1 x2 x3 x4 x5 y0 y1 y2 y3 y4 y5 : Int) (w : World) (bx0 : 0 ≤ x0 ∧ x0 < 65536) (bx4 : 0 ≤ x4 ∧ x4 < 4294967296) (bx5 : 0 ≤ x5 ∧ x5 < 4294967296) (by0 : 0 ≤ y0 ∧ y0 < 65536) (by4 : 0 ≤ y4 ∧ y4 < 4294967296) (by5 : 0 ≤ y5 ∧ y5 < 4294967296) : Calls Try.prog 9 #[.agg #[.int .u16 x0, .int .u8 x1, .int .u8 x2, .int .u8 x3, .int .u32 x4, .int .u32 x5], .agg #[.int .u16 y0, .int .u8 y1, .int .u8 y2, .int .u8 y3, .int .u32 y4, .int .u32 y5], (.int .i64 1)] w (LawEnd w) := by
  have H0 := Lib.hid bx0
  have H1 := Lib.hid bx4
  have H2 := Lib.hid bx5
  have H3 := Lib.hid by0
  have H4 := Lib.hid by4
  have H5 := Lib.hid by5
  clear bx0 bx4 bx5 by0 by4 by5
  go_enter Try.func9, Try.ntmps9
  go_wp2_with fail
  go_region_held3 (fun w' => w'.cell? ⟨w.heap.size, 0, none⟩ = some (.int .u16 x0) ∧ w'.cell? ⟨w.heap.size, 1, none⟩ = some (.int .u8 x1) ∧ w'.cell? ⟨w.heap.size, 2, none⟩ = some (.int .u8 x2) ∧ w'.cell? ⟨w.heap.size, 3, none⟩ = some (.int .u8 x3) ∧ w'.cell? ⟨w.heap.size, 4, none⟩ = some (.int .u32 x4) ∧ w'.cell? ⟨w.heap.size, 5, none⟩ = some (.int .u32 x5) ∧ w'.cell? ⟨w.heap.size + 1, 0, none⟩ = some (.int .u16 y0) ∧ w'.cell? ⟨w.heap.size + 1, 1, none⟩ = some (.int .u8 y1) ∧ w'.cell? ⟨w.heap.size + 1, 2, none⟩ = some (.int .u8 y2) ∧ w'.cell? ⟨w.heap.size + 1, 3, none⟩ = some (.int .u8 y3) ∧ w'.cell? ⟨w.heap.size + 1, 4, none⟩ = some (.int .u32 y4) ∧ w'.cell? ⟨w.heap.size + 1, 5, none⟩ = some (.int .u32 y5))
    (first | go_keep | (go_split_ands; refine ⟨?_, ?_, ?_, ?_, ?_, ?_, ?_, ?_, ?_, ?_, ?_, ?_⟩ <;> (refine keep_cell hb ?_; first | assumption | (simp [go_sem]; done))))
    (first | (go_at_call 18; refine (symbolSet1 x0 x1 x2 x3 x4 x5 y0 y1 y2 y3 y4 y5 _ H0.out H1.out H2.out H3.out H4.out H5.out).mono ?_; rintro e w1 ⟨rfl, hb⟩) | (go_at_call 19; refine (symbolWith1 x0 x1 x2 x3 x4 x5 y0 y1 y2 y3 y4 y5 _).mono ?_; rintro e w1 ⟨rfl, hb⟩))
  go_wp2_with fail
  go_returns
  refine ⟨by simp, ?_⟩
  refine below_from ?_ hb
  refine below_from ?_ (by assumption)
  (repeat' (first | (with_reducible exact Below.refl _ _) | (with_reducible assumption) | (with_reducible refine below_drewN ?_ _) | (with_reducible refine Below.alloc ?_ ?_ _) | (with_reducible refine Below.drew ?_) | (with_reducible refine Below.setCell ?_ ?_ _) | go_size))

set_option maxHeartbeats 800000 in
theorem fnSymbolSet2 (x0 x1 x2 x3 x4 x5 y0 y1 y2 y3 y4 y5 : Int) (w : World) (bx0 : 0 ≤ x0 ∧ x0 < 65536) (bx4 : 0 ≤ x4 ∧ x4 < 4294967296) (bx5 : 0 ≤ x5 ∧ x5 < 4294967296) (by0 : 0 ≤ y0 ∧ y0 < 65536) (by4 : 0 ≤ y4 ∧ y4 < 4294967296) (by5 : 0 ≤ y5 ∧ y5 < 4294967296) : Calls Try.prog 9 #[.agg #[.int .u16 x0, .int .u8 x1, .int .u8 x2, .int .u8 x3, .int .u32 x4, .int .u32 x5], .agg #[.int .u16 y0, .int .u8 y1, .int .u8 y2, .int .u8 y3, .int .u32 y4, .int .u32 y5], (.int .i64 2)] w (LawEnd w) := by
  have H0 := Lib.hid bx0
  have H1 := Lib.hid bx4
  have H2 := Lib.hid bx5
  have H3 := Lib.hid by0
  have H4 := Lib.hid by4
  have H5 := Lib.hid by5
  clear bx0 bx4 bx5 by0 by4 by5
  go_enter Try.func9, Try.ntmps9
  go_wp2_with fail
  go_region_held3 (fun w' => w'.cell? ⟨w.heap.size, 0, none⟩ = some (.int .u16 x0) ∧ w'.cell? ⟨w.heap.size, 1, none⟩ = some (.int .u8 x1) ∧ w'.cell? ⟨w.heap.size, 2, none⟩ = some (.int .u8 x2) ∧ w'.cell? ⟨w.heap.size, 3, none⟩ = some (.int .u8 x3) ∧ w'.cell? ⟨w.heap.size, 4, none⟩ = some (.int .u32 x4) ∧ w'.cell? ⟨w.heap.size, 5, none⟩ = some (.int .u32 x5) ∧ w'.cell? ⟨w.heap.size + 1, 0, none⟩ = some (.int .u16 y0) ∧ w'.cell? ⟨w.heap.size + 1, 1, none⟩ = some (.int .u8 y1) ∧ w'.cell? ⟨w.heap.size + 1, 2, none⟩ = some (.int .u8 y2) ∧ w'.cell? ⟨w.heap.size + 1, 3, none⟩ = some (.int .u8 y3) ∧ w'.cell? ⟨w.heap.size + 1, 4, none⟩ = some (.int .u32 y4) ∧ w'.cell? ⟨w.heap.size + 1, 5, none⟩ = some (.int .u32 y5))
    (first | go_keep | (go_split_ands; refine ⟨?_, ?_, ?_, ?_, ?_, ?_, ?_, ?_, ?_, ?_, ?_, ?_⟩ <;> (refine keep_cell hb ?_; first | assumption | (simp [go_sem]; done))))
    (first | (go_at_call 18; refine (symbolSet2 x0 x1 x2 x3 x4 x5 y0 y1 y2 y3 y4 y5 _ H0.out H1.out H2.out H3.out H4.out H5.out).mono ?_; rintro e w1 ⟨rfl, hb⟩) | (go_at_call 19; refine (symbolWith2 x0 x1 x2 x3 x4 x5 y0 y1 y2 y3 y4 y5 _).mono ?_; rintro e w1 ⟨rfl, hb⟩))
  go_wp2_with fail
  go_returns
  refine ⟨by simp, ?_⟩
  refine below_from ?_ hb
  refine below_from ?_ (by assumption)
  (repeat' (first | (with_reducible exact Below.refl _ _) | (with_reducible assumption) | (with_reducible refine below_drewN ?_ _) | (with_reducible refine Below.alloc ?_ ?_ _) | (with_reducible refine Below.drew ?_) | (with_reducible refine Below.setCell ?_ ?_ _) | go_size))

set_option maxHeartbeats 800000 in
theorem fnSymbolSet3 (x0 x1 x2 x3 x4 x5 y0 y1 y2 y3 y4 y5 : Int) (w : World) (bx0 : 0 ≤ x0 ∧ x0 < 65536) (bx4 : 0 ≤ x4 ∧ x4 < 4294967296) (bx5 : 0 ≤ x5 ∧ x5 < 4294967296) (by0 : 0 ≤ y0 ∧ y0 < 65536) (by4 : 0 ≤ y4 ∧ y4 < 4294967296) (by5 : 0 ≤ y5 ∧ y5 < 4294967296) : Calls Try.prog 9 #[.agg #[.int .u16 x0, .int .u8 x1, .int .u8 x2, .int .u8 x3, .int .u32 x4, .int .u32 x5], .agg #[.int .u16 y0, .int .u8 y1, .int .u8 y2, .int .u8 y3, .int .u32 y4, .int .u32 y5], (.int .i64 3)] w (LawEnd w) := by
  have H0 := Lib.hid bx0
  have H1 := Lib.hid bx4
  have H2 := Lib.hid bx5
  have H3 := Lib.hid by0
  have H4 := Lib.hid by4
  have H5 := Lib.hid by5
  clear bx0 bx4 bx5 by0 by4 by5
  go_enter Try.func9, Try.ntmps9
  go_wp2_with fail
  go_region_held3 (fun w' => w'.cell? ⟨w.heap.size, 0, none⟩ = some (.int .u16 x0) ∧ w'.cell? ⟨w.heap.size, 1, none⟩ = some (.int .u8 x1) ∧ w'.cell? ⟨w.heap.size, 2, none⟩ = some (.int .u8 x2) ∧ w'.cell? ⟨w.heap.size, 3, none⟩ = some (.int .u8 x3) ∧ w'.cell? ⟨w.heap.size, 4, none⟩ = some (.int .u32 x4) ∧ w'.cell? ⟨w.heap.size, 5, none⟩ = some (.int .u32 x5) ∧ w'.cell? ⟨w.heap.size + 1, 0, none⟩ = some (.int .u16 y0) ∧ w'.cell? ⟨w.heap.size + 1, 1, none⟩ = some (.int .u8 y1) ∧ w'.cell? ⟨w.heap.size + 1, 2, none⟩ = some (.int .u8 y2) ∧ w'.cell? ⟨w.heap.size + 1, 3, none⟩ = some (.int .u8 y3) ∧ w'.cell? ⟨w.heap.size + 1, 4, none⟩ = some (.int .u32 y4) ∧ w'.cell? ⟨w.heap.size + 1, 5, none⟩ = some (.int .u32 y5))
    (first | go_keep | (go_split_ands; refine ⟨?_, ?_, ?_, ?_, ?_, ?_, ?_, ?_, ?_, ?_, ?_, ?_⟩ <;> (refine keep_cell hb ?_; first | assumption | (simp [go_sem]; done))))
    (first | (go_at_call 18; refine (symbolSet3 x0 x1 x2 x3 x4 x5 y0 y1 y2 y3 y4 y5 _ H0.out H1.out H2.out H3.out H4.out H5.out).mono ?_; rintro e w1 ⟨rfl, hb⟩) | (go_at_call 19; refine (symbolWith3 x0 x1 x2 x3 x4 x5 y0 y1 y2 y3 y4 y5 _).mono ?_; rintro e w1 ⟨rfl, hb⟩))
  go_wp2_with fail
  go_returns
  refine ⟨by simp, ?_⟩
  refine below_from ?_ hb
  refine below_from ?_ (by assumption)
  (repeat' (first | (with_reducible exact Below.refl _ _) | (with_reducible assumption) | (with_reducible refine below_drewN ?_ _) | (with_reducible refine Below.alloc ?_ ?_ _) | (with_reducible refine Below.drew ?_) | (with_reducible refine Below.setCell ?_ ?_ _) | go_size))

set_option maxHeartbeats 800000 in
theorem fnSymbolSet4 (x0 x1 x2 x3 x4 x5 y0 y1 y2 y3 y4 y5 : Int) (w : World) (bx0 : 0 ≤ x0 ∧ x0 < 65536) (bx4 : 0 ≤ x4 ∧ x4 < 4294967296) (bx5 : 0 ≤ x5 ∧ x5 < 4294967296) (by0 : 0 ≤ y0 ∧ y0 < 65536) (by4 : 0 ≤ y4 ∧ y4 < 4294967296) (by5 : 0 ≤ y5 ∧ y5 < 4294967296) : Calls Try.prog 9 #[.agg #[.int .u16 x0, .int .u8 x1, .int .u8 x2, .int .u8 x3, .int .u32 x4, .int .u32 x5], .agg #[.int .u16 y0, .int .u8 y1, .int .u8 y2, .int .u8 y3, .int .u32 y4, .int .u32 y5], (.int .i64 4)] w (LawEnd w) := by
  have H0 := Lib.hid bx0
  have H1 := Lib.hid bx4
  have H2 := Lib.hid bx5
  have H3 := Lib.hid by0
  have H4 := Lib.hid by4
  have H5 := Lib.hid by5
  clear bx0 bx4 bx5 by0 by4 by5
  go_enter Try.func9, Try.ntmps9
  go_wp2_with fail
  go_region_held3 (fun w' => w'.cell? ⟨w.heap.size, 0, none⟩ = some (.int .u16 x0) ∧ w'.cell? ⟨w.heap.size, 1, none⟩ = some (.int .u8 x1) ∧ w'.cell? ⟨w.heap.size, 2, none⟩ = some (.int .u8 x2) ∧ w'.cell? ⟨w.heap.size, 3, none⟩ = some (.int .u8 x3) ∧ w'.cell? ⟨w.heap.size, 4, none⟩ = some (.int .u32 x4) ∧ w'.cell? ⟨w.heap.size, 5, none⟩ = some (.int .u32 x5) ∧ w'.cell? ⟨w.heap.size + 1, 0, none⟩ = some (.int .u16 y0) ∧ w'.cell? ⟨w.heap.size + 1, 1, none⟩ = some (.int .u8 y1) ∧ w'.cell? ⟨w.heap.size + 1, 2, none⟩ = some (.int .u8 y2) ∧ w'.cell? ⟨w.heap.size + 1, 3, none⟩ = some (.int .u8 y3) ∧ w'.cell? ⟨w.heap.size + 1, 4, none⟩ = some (.int .u32 y4) ∧ w'.cell? ⟨w.heap.size + 1, 5, none⟩ = some (.int .u32 y5))
    (first | go_keep | (go_split_ands; refine ⟨?_, ?_, ?_, ?_, ?_, ?_, ?_, ?_, ?_, ?_, ?_, ?_⟩ <;> (refine keep_cell hb ?_; first | assumption | (simp [go_sem]; done))))
    (first | (go_at_call 18; refine (symbolSet4 x0 x1 x2 x3 x4 x5 y0 y1 y2 y3 y4 y5 _ H0.out H1.out H2.out H3.out H4.out H5.out).mono ?_; rintro e w1 ⟨rfl, hb⟩) | (go_at_call 19; refine (symbolWith4 x0 x1 x2 x3 x4 x5 y0 y1 y2 y3 y4 y5 _).mono ?_; rintro e w1 ⟨rfl, hb⟩))
  go_wp2_with fail
  go_returns
  refine ⟨by simp, ?_⟩
  refine below_from ?_ hb
  refine below_from ?_ (by assumption)
  (repeat' (first | (with_reducible exact Below.refl _ _) | (with_reducible assumption) | (with_reducible refine below_drewN ?_ _) | (with_reducible refine Below.alloc ?_ ?_ _) | (with_reducible refine Below.drew ?_) | (with_reducible refine Below.setCell ?_ ?_ _) | go_size))

set_option maxHeartbeats 800000 in
theorem fnSymbolSet5 (x0 x1 x2 x3 x4 x5 y0 y1 y2 y3 y4 y5 : Int) (w : World) (bx0 : 0 ≤ x0 ∧ x0 < 65536) (bx4 : 0 ≤ x4 ∧ x4 < 4294967296) (bx5 : 0 ≤ x5 ∧ x5 < 4294967296) (by0 : 0 ≤ y0 ∧ y0 < 65536) (by4 : 0 ≤ y4 ∧ y4 < 4294967296) (by5 : 0 ≤ y5 ∧ y5 < 4294967296) : Calls Try.prog 9 #[.agg #[.int .u16 x0, .int .u8 x1, .int .u8 x2, .int .u8 x3, .int .u32 x4, .int .u32 x5], .agg #[.int .u16 y0, .int .u8 y1, .int .u8 y2, .int .u8 y3, .int .u32 y4, .int .u32 y5], (.int .i64 5)] w (LawEnd w) := by
  have H0 := Lib.hid bx0
  have H1 := Lib.hid bx4
  have H2 := Lib.hid bx5
  have H3 := Lib.hid by0
  have H4 := Lib.hid by4
  have H5 := Lib.hid by5
  clear bx0 bx4 bx5 by0 by4 by5
  go_enter Try.func9, Try.ntmps9
  go_wp2_with fail
  go_region_held3 (fun w' => w'.cell? ⟨w.heap.size, 0, none⟩ = some (.int .u16 x0) ∧ w'.cell? ⟨w.heap.size, 1, none⟩ = some (.int .u8 x1) ∧ w'.cell? ⟨w.heap.size, 2, none⟩ = some (.int .u8 x2) ∧ w'.cell? ⟨w.heap.size, 3, none⟩ = some (.int .u8 x3) ∧ w'.cell? ⟨w.heap.size, 4, none⟩ = some (.int .u32 x4) ∧ w'.cell? ⟨w.heap.size, 5, none⟩ = some (.int .u32 x5) ∧ w'.cell? ⟨w.heap.size + 1, 0, none⟩ = some (.int .u16 y0) ∧ w'.cell? ⟨w.heap.size + 1, 1, none⟩ = some (.int .u8 y1) ∧ w'.cell? ⟨w.heap.size + 1, 2, none⟩ = some (.int .u8 y2) ∧ w'.cell? ⟨w.heap.size + 1, 3, none⟩ = some (.int .u8 y3) ∧ w'.cell? ⟨w.heap.size + 1, 4, none⟩ = some (.int .u32 y4) ∧ w'.cell? ⟨w.heap.size + 1, 5, none⟩ = some (.int .u32 y5))
    (first | go_keep | (go_split_ands; refine ⟨?_, ?_, ?_, ?_, ?_, ?_, ?_, ?_, ?_, ?_, ?_, ?_⟩ <;> (refine keep_cell hb ?_; first | assumption | (simp [go_sem]; done))))
    (first | (go_at_call 18; refine (symbolSet5 x0 x1 x2 x3 x4 x5 y0 y1 y2 y3 y4 y5 _ H0.out H1.out H2.out H3.out H4.out H5.out).mono ?_; rintro e w1 ⟨rfl, hb⟩) | (go_at_call 19; refine (symbolWith5 x0 x1 x2 x3 x4 x5 y0 y1 y2 y3 y4 y5 _).mono ?_; rintro e w1 ⟨rfl, hb⟩))
  go_wp2_with fail
  go_returns
  refine ⟨by simp, ?_⟩
  refine below_from ?_ hb
  refine below_from ?_ (by assumption)
  (repeat' (first | (with_reducible exact Below.refl _ _) | (with_reducible assumption) | (with_reducible refine below_drewN ?_ _) | (with_reducible refine Below.alloc ?_ ?_ _) | (with_reducible refine Below.drew ?_) | (with_reducible refine Below.setCell ?_ ?_ _) | go_size))

set_option maxHeartbeats 800000 in
theorem fnSymbolSet6 (x0 x1 x2 x3 x4 x5 y0 y1 y2 y3 y4 y5 : Int) (n : Int) (hn : ∀ c : Int, 0 ≤ c → c ≤ 5 → (n == c) = false) (w : World) (bx0 : 0 ≤ x0 ∧ x0 < 65536) (bx4 : 0 ≤ x4 ∧ x4 < 4294967296) (bx5 : 0 ≤ x5 ∧ x5 < 4294967296) (by0 : 0 ≤ y0 ∧ y0 < 65536) (by4 : 0 ≤ y4 ∧ y4 < 4294967296) (by5 : 0 ≤ y5 ∧ y5 < 4294967296) : Calls Try.prog 9 #[.agg #[.int .u16 x0, .int .u8 x1, .int .u8 x2, .int .u8 x3, .int .u32 x4, .int .u32 x5], .agg #[.int .u16 y0, .int .u8 y1, .int .u8 y2, .int .u8 y3, .int .u32 y4, .int .u32 y5], (.int .i64 n)] w (LawEnd w) := by
  have H0 := Lib.hid bx0
  have H1 := Lib.hid bx4
  have H2 := Lib.hid bx5
  have H3 := Lib.hid by0
  have H4 := Lib.hid by4
  have H5 := Lib.hid by5
  clear bx0 bx4 bx5 by0 by4 by5
  have HN := Lib.hid hn
  clear hn
  go_enter Try.func9, Try.ntmps9
  go_wp2_with fail
  go_region_held3 (fun w' => w'.cell? ⟨w.heap.size, 0, none⟩ = some (.int .u16 x0) ∧ w'.cell? ⟨w.heap.size, 1, none⟩ = some (.int .u8 x1) ∧ w'.cell? ⟨w.heap.size, 2, none⟩ = some (.int .u8 x2) ∧ w'.cell? ⟨w.heap.size, 3, none⟩ = some (.int .u8 x3) ∧ w'.cell? ⟨w.heap.size, 4, none⟩ = some (.int .u32 x4) ∧ w'.cell? ⟨w.heap.size, 5, none⟩ = some (.int .u32 x5) ∧ w'.cell? ⟨w.heap.size + 1, 0, none⟩ = some (.int .u16 y0) ∧ w'.cell? ⟨w.heap.size + 1, 1, none⟩ = some (.int .u8 y1) ∧ w'.cell? ⟨w.heap.size + 1, 2, none⟩ = some (.int .u8 y2) ∧ w'.cell? ⟨w.heap.size + 1, 3, none⟩ = some (.int .u8 y3) ∧ w'.cell? ⟨w.heap.size + 1, 4, none⟩ = some (.int .u32 y4) ∧ w'.cell? ⟨w.heap.size + 1, 5, none⟩ = some (.int .u32 y5))
    (first | go_keep | (go_split_ands; refine ⟨?_, ?_, ?_, ?_, ?_, ?_, ?_, ?_, ?_, ?_, ?_, ?_⟩ <;> (refine keep_cell hb ?_; first | assumption | (simp [go_sem]; done))))
    (first | (go_at_call 18; refine (symbolSet6 x0 x1 x2 x3 x4 x5 y0 y1 y2 y3 y4 y5 _ H0.out H1.out H2.out H3.out H4.out H5.out n HN.out).mono ?_; rintro e w1 ⟨rfl, hb⟩) | (go_at_call 19; refine (symbolWith6 x0 x1 x2 x3 x4 x5 y0 y1 y2 y3 y4 y5 _ n HN.out).mono ?_; rintro e w1 ⟨rfl, hb⟩))
  go_wp2_with fail
  go_returns
  refine ⟨by simp, ?_⟩
  refine below_from ?_ hb
  refine below_from ?_ (by assumption)
  (repeat' (first | (with_reducible exact Below.refl _ _) | (with_reducible assumption) | (with_reducible refine below_drewN ?_ _) | (with_reducible refine Below.alloc ?_ ?_ _) | (with_reducible refine Below.drew ?_) | (with_reducible refine Below.setCell ?_ ?_ _) | go_size))

theorem fnSymbolSet_any (x0 x1 x2 x3 x4 x5 y0 y1 y2 y3 y4 y5 n : Int) (w : World) (bx0 : 0 ≤ x0 ∧ x0 < 65536) (_ : 0 ≤ x1 ∧ x1 < 256) (_ : 0 ≤ x2 ∧ x2 < 256) (_ : 0 ≤ x3 ∧ x3 < 256) (bx4 : 0 ≤ x4 ∧ x4 < 4294967296) (bx5 : 0 ≤ x5 ∧ x5 < 4294967296) (by0 : 0 ≤ y0 ∧ y0 < 65536) (_ : 0 ≤ y1 ∧ y1 < 256) (_ : 0 ≤ y2 ∧ y2 < 256) (_ : 0 ≤ y3 ∧ y3 < 256) (by4 : 0 ≤ y4 ∧ y4 < 4294967296) (by5 : 0 ≤ y5 ∧ y5 < 4294967296) (_ : -9223372036854775808 ≤ n ∧ n < 9223372036854775808) : Calls Try.prog 9 #[.agg #[.int .u16 x0, .int .u8 x1, .int .u8 x2, .int .u8 x3, .int .u32 x4, .int .u32 x5], .agg #[.int .u16 y0, .int .u8 y1, .int .u8 y2, .int .u8 y3, .int .u32 y4, .int .u32 y5], .int .i64 n] w (LawEnd w) := by
  by_cases h0 : n = 0
  · subst h0
    exact fnSymbolSet0 x0 x1 x2 x3 x4 x5 y0 y1 y2 y3 y4 y5 w bx0 bx4 bx5 by0 by4 by5
  by_cases h1 : n = 1
  · subst h1
    exact fnSymbolSet1 x0 x1 x2 x3 x4 x5 y0 y1 y2 y3 y4 y5 w bx0 bx4 bx5 by0 by4 by5
  by_cases h2 : n = 2
  · subst h2
    exact fnSymbolSet2 x0 x1 x2 x3 x4 x5 y0 y1 y2 y3 y4 y5 w bx0 bx4 bx5 by0 by4 by5
  by_cases h3 : n = 3
  · subst h3
    exact fnSymbolSet3 x0 x1 x2 x3 x4 x5 y0 y1 y2 y3 y4 y5 w bx0 bx4 bx5 by0 by4 by5
  by_cases h4 : n = 4
  · subst h4
    exact fnSymbolSet4 x0 x1 x2 x3 x4 x5 y0 y1 y2 y3 y4 y5 w bx0 bx4 bx5 by0 by4 by5
  by_cases h5 : n = 5
  · subst h5
    exact fnSymbolSet5 x0 x1 x2 x3 x4 x5 y0 y1 y2 y3 y4 y5 w bx0 bx4 bx5 by0 by4 by5
  refine fnSymbolSet6 x0 x1 x2 x3 x4 x5 y0 y1 y2 y3 y4 y5 n (fun c h0 h5 => ?_) w bx0 bx4 bx5 by0 by4 by5
  rw [beq_eq_false_iff_ne]
  omega
end Go.Proofs.Ytnnhdoocklaeoaa
