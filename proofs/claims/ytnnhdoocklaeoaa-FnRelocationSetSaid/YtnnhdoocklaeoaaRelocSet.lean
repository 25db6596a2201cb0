/- Relocations one field of which is set to that of another one: the walks. -/
import Derived.Test.YtnnhdoocklaeoaaRelocTold
namespace Go.Proofs.Ytnnhdoocklaeoaa
open Go.RowKit

section
variable (a s k d p y z u : Int)
theorem rupd0 : set4 (relocCells a s k d p y) 0 z = relocCells z s k d p y := by simp [set4, relocCells]
theorem rupd1 : (relocCells a s k d p y).setIfInBounds 4 (u8 z) = relocCells a z k d p y := by simp [relocCells]
theorem rupd2 : set2 (relocCells a s k d p y) 5 z = relocCells a s z d p y := by simp [set2, relocCells]
theorem rupd3 : set8 (relocCells a s k d p y) 7 z = relocCells a s k z p y := by simp [set4, set8, relocCells]
theorem rupd4 : set4 (set4 (relocCells a s k d p y) 15 z) 19 u = relocCells a s k d z u := by simp [set4, relocCells]
end

set_option maxHeartbeats 800000 in
theorem relocationSet0 (x0 x1 x2 x3 x4 x5 y0 y1 y2 y3 y4 y5 : Int) (w : World) (bx0 : -2147483648 ≤ x0 ∧ x0 < 2147483648) (bx2 : 0 ≤ x2 ∧ x2 < 65536) (bx3 : -9223372036854775808 ≤ x3 ∧ x3 < 9223372036854775808) (bx4 : 0 ≤ x4 ∧ x4 < 4294967296) (bx5 : 0 ≤ x5 ∧ x5 < 4294967296) (by0 : -2147483648 ≤ y0 ∧ y0 < 2147483648) (by2 : 0 ≤ y2 ∧ y2 < 65536) (by3 : -9223372036854775808 ≤ y3 ∧ y3 < 9223372036854775808) (by4 : 0 ≤ y4 ∧ y4 < 4294967296) (by5 : 0 ≤ y5 ∧ y5 < 4294967296) : Calls Try.prog 21 #[.agg #[.int .i32 x0, .int .u8 x1, .int .u16 x2, .int .i64 x3, .int .u32 x4, .int .u32 x5], .agg #[.int .i32 y0, .int .u8 y1, .int .u16 y2, .int .i64 y3, .int .u32 y4, .int .u32 y5], (.int .i64 0)] w (RetV (.agg #[.int .i32 y0, .int .u8 x1, .int .u16 x2, .int .i64 x3, .int .u32 x4, .int .u32 x5]) w) := by
  have Hx0 := Lib.hid bx0
  have Hx2 := Lib.hid bx2
  have Hx3 := Lib.hid bx3
  have Hx4 := Lib.hid bx4
  have Hx5 := Lib.hid bx5
  have Hy0 := Lib.hid by0
  have Hy2 := Lib.hid by2
  have Hy3 := Lib.hid by3
  have Hy4 := Lib.hid by4
  have Hy5 := Lib.hid by5
  clear bx0 bx2 bx3 bx4 bx5 by0 by2 by3 by4 by5
  go_enter Try.func21, Try.ntmps21
  go_wp2_with fail
  refine (reloc_any x0 x1 x2 x3 x4 x5 _ Hx2.out.1 Hx2.out.2 Hx4.out.1 Hx4.out.2 Hx5.out.1 Hx5.out.2).mono ?_
  rintro e w1 ⟨g, rfl, hg, hblk, hb1⟩
  have r := (Blk.new1 (w.alloc _) _ _ _).here hb1
  rw [World.size_alloc] at r
  have r0 := ((Blk.new1 w _ _ _).alloc _).here hb1
  have hc0 := r0.cell
  have hz : w.heap.size + 1 + 1 < w1.heap.size := by
    have h1 := hblk.lt
    simp at hg
    omega
  have hg1 : w.heap.size + 1 + 1 < g := by simp at hg; omega
  have hB : Below w.heap.size w w1 := below_from (by (repeat' (first | (with_reducible exact Below.refl _ _) | (with_reducible assumption) | (with_reducible refine below_drewN ?_ _) | (with_reducible refine Below.alloc ?_ ?_ _) | (with_reducible refine Below.drew ?_) | (with_reducible refine Below.setCell ?_ ?_ _) | go_size))) hb1
  have HK := Lib.hid hblk
  clear hb1 hblk hg
  go_wp2_with fail
  refine (reloc_SetOff g _ _ _ HK.out rfl y0).mono ?_
  rintro e w2 ⟨rfl, hb2, hf2⟩
  rw [rupd0] at hb2
  have HL := Lib.hid hb2
  have q := r.fr hf2 (by simp; omega)
  have hB2 : Below w.heap.size w w2 := (Fr.trans (Fr.of_below (gs := []) hB) hf2 (by simp; omega)).below
  clear hb2 r r0 hc0 hB hf2
  go_wp2_with fail
  refine (toldReloc_any g _ y0 x1 x2 x3 x4 x5 _ HL.out Hy0.out.1 Hy0.out.2 Hx2.out.1 Hx2.out.2 Hx3.out.1 Hx3.out.2 Hx4.out.1 Hx4.out.2 Hx5.out.1 Hx5.out.2).mono ?_
  rintro e w9 ⟨rfl, hb9⟩
  have q9 := q.here hb9
  have hrc := q9.cell
  have hrf := q9.frozen
  have hB9 : Below w.heap.size w w9 := below_from hB2 hb9
  have hz9 := hB9.size
  clear q q9 hB2 hb9
  go_wp2_with fail
  exact bodyPost_ret (v := .agg #[.int .i32 y0, .int .u8 x1, .int .u16 x2, .int .i64 x3, .int .u32 x4, .int .u32 x5]) (by simp [results, Try.results21, go_sem, hrc]) rfl ⟨rfl, by (repeat' (first | (with_reducible exact Below.refl _ _) | (with_reducible assumption) | (with_reducible refine below_drewN ?_ _) | (with_reducible refine Below.alloc ?_ ?_ _) | (with_reducible refine Below.drew ?_) | (with_reducible refine Below.setCell ?_ ?_ _) | go_size))⟩

set_option maxHeartbeats 800000 in
theorem relocationSet1 (x0 x1 x2 x3 x4 x5 y0 y1 y2 y3 y4 y5 : Int) (w : World) (bx0 : -2147483648 ≤ x0 ∧ x0 < 2147483648) (bx2 : 0 ≤ x2 ∧ x2 < 65536) (bx3 : -9223372036854775808 ≤ x3 ∧ x3 < 9223372036854775808) (bx4 : 0 ≤ x4 ∧ x4 < 4294967296) (bx5 : 0 ≤ x5 ∧ x5 < 4294967296) (by0 : -2147483648 ≤ y0 ∧ y0 < 2147483648) (by2 : 0 ≤ y2 ∧ y2 < 65536) (by3 : -9223372036854775808 ≤ y3 ∧ y3 < 9223372036854775808) (by4 : 0 ≤ y4 ∧ y4 < 4294967296) (by5 : 0 ≤ y5 ∧ y5 < 4294967296) : Calls Try.prog 21 #[.agg #[.int .i32 x0, .int .u8 x1, .int .u16 x2, .int .i64 x3, .int .u32 x4, .int .u32 x5], .agg #[.int .i32 y0, .int .u8 y1, .int .u16 y2, .int .i64 y3, .int .u32 y4, .int .u32 y5], (.int .i64 1)] w (RetV (.agg #[.int .i32 x0, .int .u8 y1, .int .u16 x2, .int .i64 x3, .int .u32 x4, .int .u32 x5]) w) := by
  have Hx0 := Lib.hid bx0
  have Hx2 := Lib.hid bx2
  have Hx3 := Lib.hid bx3
  have Hx4 := Lib.hid bx4
  have Hx5 := Lib.hid bx5
  have Hy0 := Lib.hid by0
  have Hy2 := Lib.hid by2
  have Hy3 := Lib.hid by3
  have Hy4 := Lib.hid by4
  have Hy5 := Lib.hid by5
  clear bx0 bx2 bx3 bx4 bx5 by0 by2 by3 by4 by5
  go_enter Try.func21, Try.ntmps21
  go_wp2_with fail
  refine (reloc_any x0 x1 x2 x3 x4 x5 _ Hx2.out.1 Hx2.out.2 Hx4.out.1 Hx4.out.2 Hx5.out.1 Hx5.out.2).mono ?_
  rintro e w1 ⟨g, rfl, hg, hblk, hb1⟩
  have r := (Blk.new1 (w.alloc _) _ _ _).here hb1
  rw [World.size_alloc] at r
  have r0 := ((Blk.new1 w _ _ _).alloc _).here hb1
  have hc0 := r0.cell
  have hz : w.heap.size + 1 + 1 < w1.heap.size := by
    have h1 := hblk.lt
    simp at hg
    omega
  have hg1 : w.heap.size + 1 + 1 < g := by simp at hg; omega
  have hB : Below w.heap.size w w1 := below_from (by (repeat' (first | (with_reducible exact Below.refl _ _) | (with_reducible assumption) | (with_reducible refine below_drewN ?_ _) | (with_reducible refine Below.alloc ?_ ?_ _) | (with_reducible refine Below.drew ?_) | (with_reducible refine Below.setCell ?_ ?_ _) | go_size))) hb1
  have HK := Lib.hid hblk
  clear hb1 hblk hg
  go_wp2_with fail
  refine (reloc_SetSiz g _ _ _ HK.out rfl y1).mono ?_
  rintro e w2 ⟨rfl, hb2, hf2⟩
  rw [rupd1] at hb2
  have HL := Lib.hid hb2
  have q := r.fr hf2 (by simp; omega)
  have hB2 : Below w.heap.size w w2 := (Fr.trans (Fr.of_below (gs := []) hB) hf2 (by simp; omega)).below
  clear hb2 r r0 hc0 hB hf2
  go_wp2_with fail
  refine (toldReloc_any g _ x0 y1 x2 x3 x4 x5 _ HL.out Hx0.out.1 Hx0.out.2 Hx2.out.1 Hx2.out.2 Hx3.out.1 Hx3.out.2 Hx4.out.1 Hx4.out.2 Hx5.out.1 Hx5.out.2).mono ?_
  rintro e w9 ⟨rfl, hb9⟩
  have q9 := q.here hb9
  have hrc := q9.cell
  have hrf := q9.frozen
  have hB9 : Below w.heap.size w w9 := below_from hB2 hb9
  have hz9 := hB9.size
  clear q q9 hB2 hb9
  go_wp2_with fail
  exact bodyPost_ret (v := .agg #[.int .i32 x0, .int .u8 y1, .int .u16 x2, .int .i64 x3, .int .u32 x4, .int .u32 x5]) (by simp [results, Try.results21, go_sem, hrc]) rfl ⟨rfl, by (repeat' (first | (with_reducible exact Below.refl _ _) | (with_reducible assumption) | (with_reducible refine below_drewN ?_ _) | (with_reducible refine Below.alloc ?_ ?_ _) | (with_reducible refine Below.drew ?_) | (with_reducible refine Below.setCell ?_ ?_ _) | go_size))⟩

set_option maxHeartbeats 800000 in
theorem relocationSet2 (x0 x1 x2 x3 x4 x5 y0 y1 y2 y3 y4 y5 : Int) (w : World) (bx0 : -2147483648 ≤ x0 ∧ x0 < 2147483648) (bx2 : 0 ≤ x2 ∧ x2 < 65536) (bx3 : -9223372036854775808 ≤ x3 ∧ x3 < 9223372036854775808) (bx4 : 0 ≤ x4 ∧ x4 < 4294967296) (bx5 : 0 ≤ x5 ∧ x5 < 4294967296) (by0 : -2147483648 ≤ y0 ∧ y0 < 2147483648) (by2 : 0 ≤ y2 ∧ y2 < 65536) (by3 : -9223372036854775808 ≤ y3 ∧ y3 < 9223372036854775808) (by4 : 0 ≤ y4 ∧ y4 < 4294967296) (by5 : 0 ≤ y5 ∧ y5 < 4294967296) : Calls Try.prog 21 #[.agg #[.int .i32 x0, .int .u8 x1, .int .u16 x2, .int .i64 x3, .int .u32 x4, .int .u32 x5], .agg #[.int .i32 y0, .int .u8 y1, .int .u16 y2, .int .i64 y3, .int .u32 y4, .int .u32 y5], (.int .i64 2)] w (RetV (.agg #[.int .i32 x0, .int .u8 x1, .int .u16 y2, .int .i64 x3, .int .u32 x4, .int .u32 x5]) w) := by
  have Hx0 := Lib.hid bx0
  have Hx2 := Lib.hid bx2
  have Hx3 := Lib.hid bx3
  have Hx4 := Lib.hid bx4
  have Hx5 := Lib.hid bx5
  have Hy0 := Lib.hid by0
  have Hy2 := Lib.hid by2
  have Hy3 := Lib.hid by3
  have Hy4 := Lib.hid by4
  have Hy5 := Lib.hid by5
  clear bx0 bx2 bx3 bx4 bx5 by0 by2 by3 by4 by5
  go_enter Try.func21, Try.ntmps21
  go_wp2_with fail
  refine (reloc_any x0 x1 x2 x3 x4 x5 _ Hx2.out.1 Hx2.out.2 Hx4.out.1 Hx4.out.2 Hx5.out.1 Hx5.out.2).mono ?_
  rintro e w1 ⟨g, rfl, hg, hblk, hb1⟩
  have r := (Blk.new1 (w.alloc _) _ _ _).here hb1
  rw [World.size_alloc] at r
  have r0 := ((Blk.new1 w _ _ _).alloc _).here hb1
  have hc0 := r0.cell
  have hz : w.heap.size + 1 + 1 < w1.heap.size := by
    have h1 := hblk.lt
    simp at hg
    omega
  have hg1 : w.heap.size + 1 + 1 < g := by simp at hg; omega
  have hB : Below w.heap.size w w1 := below_from (by (repeat' (first | (with_reducible exact Below.refl _ _) | (with_reducible assumption) | (with_reducible refine below_drewN ?_ _) | (with_reducible refine Below.alloc ?_ ?_ _) | (with_reducible refine Below.drew ?_) | (with_reducible refine Below.setCell ?_ ?_ _) | go_size))) hb1
  have HK := Lib.hid hblk
  clear hb1 hblk hg
  go_wp2_with fail
  refine (reloc_SetType g _ _ _ HK.out rfl y2 Hy2.out.1 Hy2.out.2).mono ?_
  rintro e w2 ⟨rfl, hb2, hf2⟩
  rw [rupd2] at hb2
  have HL := Lib.hid hb2
  have q := r.fr hf2 (by simp; omega)
  have hB2 : Below w.heap.size w w2 := (Fr.trans (Fr.of_below (gs := []) hB) hf2 (by simp; omega)).below
  clear hb2 r r0 hc0 hB hf2
  go_wp2_with fail
  refine (toldReloc_any g _ x0 x1 y2 x3 x4 x5 _ HL.out Hx0.out.1 Hx0.out.2 Hy2.out.1 Hy2.out.2 Hx3.out.1 Hx3.out.2 Hx4.out.1 Hx4.out.2 Hx5.out.1 Hx5.out.2).mono ?_
  rintro e w9 ⟨rfl, hb9⟩
  have q9 := q.here hb9
  have hrc := q9.cell
  have hrf := q9.frozen
  have hB9 : Below w.heap.size w w9 := below_from hB2 hb9
  have hz9 := hB9.size
  clear q q9 hB2 hb9
  go_wp2_with fail
  exact bodyPost_ret (v := .agg #[.int .i32 x0, .int .u8 x1, .int .u16 y2, .int .i64 x3, .int .u32 x4, .int .u32 x5]) (by simp [results, Try.results21, go_sem, hrc]) rfl ⟨rfl, by (repeat' (first | (with_reducible exact Below.refl _ _) | (with_reducible assumption) | (with_reducible refine below_drewN ?_ _) | (with_reducible refine Below.alloc ?_ ?_ _) | (with_reducible refine Below.drew ?_) | (with_reducible refine Below.setCell ?_ ?_ _) | go_size))⟩

set_option maxHeartbeats 800000 in
theorem relocationSet3 (x0 x1 x2 x3 x4 x5 y0 y1 y2 y3 y4 y5 : Int) (w : World) (bx0 : -2147483648 ≤ x0 ∧ x0 < 2147483648) (bx2 : 0 ≤ x2 ∧ x2 < 65536) (bx3 : -9223372036854775808 ≤ x3 ∧ x3 < 9223372036854775808) (bx4 : 0 ≤ x4 ∧ x4 < 4294967296) (bx5 : 0 ≤ x5 ∧ x5 < 4294967296) (by0 : -2147483648 ≤ y0 ∧ y0 < 2147483648) (by2 : 0 ≤ y2 ∧ y2 < 65536) (by3 : -9223372036854775808 ≤ y3 ∧ y3 < 9223372036854775808) (by4 : 0 ≤ y4 ∧ y4 < 4294967296) (by5 : 0 ≤ y5 ∧ y5 < 4294967296) : Calls Try.prog 21 #[.agg #[.int .i32 x0, .int .u8 x1, .int .u16 x2, .int .i64 x3, .int .u32 x4, .int .u32 x5], .agg #[.int .i32 y0, .int .u8 y1, .int .u16 y2, .int .i64 y3, .int .u32 y4, .int .u32 y5], (.int .i64 3)] w (RetV (.agg #[.int .i32 x0, .int .u8 x1, .int .u16 x2, .int .i64 y3, .int .u32 x4, .int .u32 x5]) w) := by
  have Hx0 := Lib.hid bx0
  have Hx2 := Lib.hid bx2
  have Hx3 := Lib.hid bx3
  have Hx4 := Lib.hid bx4
  have Hx5 := Lib.hid bx5
  have Hy0 := Lib.hid by0
  have Hy2 := Lib.hid by2
  have Hy3 := Lib.hid by3
  have Hy4 := Lib.hid by4
  have Hy5 := Lib.hid by5
  clear bx0 bx2 bx3 bx4 bx5 by0 by2 by3 by4 by5
  go_enter Try.func21, Try.ntmps21
  go_wp2_with fail
  refine (reloc_any x0 x1 x2 x3 x4 x5 _ Hx2.out.1 Hx2.out.2 Hx4.out.1 Hx4.out.2 Hx5.out.1 Hx5.out.2).mono ?_
  rintro e w1 ⟨g, rfl, hg, hblk, hb1⟩
  have r := (Blk.new1 (w.alloc _) _ _ _).here hb1
  rw [World.size_alloc] at r
  have r0 := ((Blk.new1 w _ _ _).alloc _).here hb1
  have hc0 := r0.cell
  have hz : w.heap.size + 1 + 1 < w1.heap.size := by
    have h1 := hblk.lt
    simp at hg
    omega
  have hg1 : w.heap.size + 1 + 1 < g := by simp at hg; omega
  have hB : Below w.heap.size w w1 := below_from (by (repeat' (first | (with_reducible exact Below.refl _ _) | (with_reducible assumption) | (with_reducible refine below_drewN ?_ _) | (with_reducible refine Below.alloc ?_ ?_ _) | (with_reducible refine Below.drew ?_) | (with_reducible refine Below.setCell ?_ ?_ _) | go_size))) hb1
  have HK := Lib.hid hblk
  clear hb1 hblk hg
  go_wp2_with fail
  refine (reloc_SetAdd g _ _ _ HK.out rfl y3).mono ?_
  rintro e w2 ⟨rfl, hb2, hf2⟩
  rw [rupd3] at hb2
  have HL := Lib.hid hb2
  have q := r.fr hf2 (by simp; omega)
  have hB2 : Below w.heap.size w w2 := (Fr.trans (Fr.of_below (gs := []) hB) hf2 (by simp; omega)).below
  clear hb2 r r0 hc0 hB hf2
  go_wp2_with fail
  refine (toldReloc_any g _ x0 x1 x2 y3 x4 x5 _ HL.out Hx0.out.1 Hx0.out.2 Hx2.out.1 Hx2.out.2 Hy3.out.1 Hy3.out.2 Hx4.out.1 Hx4.out.2 Hx5.out.1 Hx5.out.2).mono ?_
  rintro e w9 ⟨rfl, hb9⟩
  have q9 := q.here hb9
  have hrc := q9.cell
  have hrf := q9.frozen
  have hB9 : Below w.heap.size w w9 := below_from hB2 hb9
  have hz9 := hB9.size
  clear q q9 hB2 hb9
  go_wp2_with fail
  exact bodyPost_ret (v := .agg #[.int .i32 x0, .int .u8 x1, .int .u16 x2, .int .i64 y3, .int .u32 x4, .int .u32 x5]) (by simp [results, Try.results21, go_sem, hrc]) rfl ⟨rfl, by (repeat' (first | (with_reducible exact Below.refl _ _) | (with_reducible assumption) | (with_reducible refine below_drewN ?_ _) | (with_reducible refine Below.alloc ?_ ?_ _) | (with_reducible refine Below.drew ?_) | (with_reducible refine Below.setCell ?_ ?_ _) | go_size))⟩

set_option maxHeartbeats 800000 in
theorem relocationSet4 (x0 x1 x2 x3 x4 x5 y0 y1 y2 y3 y4 y5 : Int) (w : World) (bx0 : -2147483648 ≤ x0 ∧ x0 < 2147483648) (bx2 : 0 ≤ x2 ∧ x2 < 65536) (bx3 : -9223372036854775808 ≤ x3 ∧ x3 < 9223372036854775808) (bx4 : 0 ≤ x4 ∧ x4 < 4294967296) (bx5 : 0 ≤ x5 ∧ x5 < 4294967296) (by0 : -2147483648 ≤ y0 ∧ y0 < 2147483648) (by2 : 0 ≤ y2 ∧ y2 < 65536) (by3 : -9223372036854775808 ≤ y3 ∧ y3 < 9223372036854775808) (by4 : 0 ≤ y4 ∧ y4 < 4294967296) (by5 : 0 ≤ y5 ∧ y5 < 4294967296) : Calls Try.prog 21 #[.agg #[.int .i32 x0, .int .u8 x1, .int .u16 x2, .int .i64 x3, .int .u32 x4, .int .u32 x5], .agg #[.int .i32 y0, .int .u8 y1, .int .u16 y2, .int .i64 y3, .int .u32 y4, .int .u32 y5], (.int .i64 4)] w (RetV (.agg #[.int .i32 x0, .int .u8 x1, .int .u16 x2, .int .i64 x3, .int .u32 y4, .int .u32 y5]) w) := by
  have Hx0 := Lib.hid bx0
  have Hx2 := Lib.hid bx2
  have Hx3 := Lib.hid bx3
  have Hx4 := Lib.hid bx4
  have Hx5 := Lib.hid bx5
  have Hy0 := Lib.hid by0
  have Hy2 := Lib.hid by2
  have Hy3 := Lib.hid by3
  have Hy4 := Lib.hid by4
  have Hy5 := Lib.hid by5
  clear bx0 bx2 bx3 bx4 bx5 by0 by2 by3 by4 by5
  go_enter Try.func21, Try.ntmps21
  go_wp2_with fail
  refine (reloc_any x0 x1 x2 x3 x4 x5 _ Hx2.out.1 Hx2.out.2 Hx4.out.1 Hx4.out.2 Hx5.out.1 Hx5.out.2).mono ?_
  rintro e w1 ⟨g, rfl, hg, hblk, hb1⟩
  have r := (Blk.new1 (w.alloc _) _ _ _).here hb1
  rw [World.size_alloc] at r
  have r0 := ((Blk.new1 w _ _ _).alloc _).here hb1
  have hc0 := r0.cell
  have hz : w.heap.size + 1 + 1 < w1.heap.size := by
    have h1 := hblk.lt
    simp at hg
    omega
  have hg1 : w.heap.size + 1 + 1 < g := by simp at hg; omega
  have hB : Below w.heap.size w w1 := below_from (by (repeat' (first | (with_reducible exact Below.refl _ _) | (with_reducible assumption) | (with_reducible refine below_drewN ?_ _) | (with_reducible refine Below.alloc ?_ ?_ _) | (with_reducible refine Below.drew ?_) | (with_reducible refine Below.setCell ?_ ?_ _) | go_size))) hb1
  have HK := Lib.hid hblk
  clear hb1 hblk hg
  go_wp2_with fail
  refine (ref_any y4 y5 _).mono ?_
  rintro e w3 ⟨rfl, hb3⟩
  have HK3 := Lib.hid (HK.out.here hb3)
  have r3 := r.here hb3
  have hB3 : Below w.heap.size w w3 := below_from hB hb3
  clear r r0 hc0 hB hb3
  go_wp2_with fail
  refine (reloc_SetSym g _ _ _ HK3.out rfl y4 y5 Hy4.out.1 Hy4.out.2 Hy5.out.1 Hy5.out.2).mono ?_
  rintro e w2 ⟨rfl, hb2, hf2⟩
  rw [rupd4] at hb2
  have HL := Lib.hid hb2
  have q := r3.fr hf2 (by simp; omega)
  have hB2 : Below w.heap.size w w2 := (Fr.trans (Fr.of_below (gs := []) hB3) hf2 (by simp; omega)).below
  clear hb2 r3 hB3 hf2
  go_wp2_with fail
  refine (toldReloc_any g _ x0 x1 x2 x3 y4 y5 _ HL.out Hx0.out.1 Hx0.out.2 Hx2.out.1 Hx2.out.2 Hx3.out.1 Hx3.out.2 Hy4.out.1 Hy4.out.2 Hy5.out.1 Hy5.out.2).mono ?_
  rintro e w9 ⟨rfl, hb9⟩
  have q9 := q.here hb9
  have hrc := q9.cell
  have hrf := q9.frozen
  have hB9 : Below w.heap.size w w9 := below_from hB2 hb9
  have hz9 := hB9.size
  clear q q9 hB2 hb9
  go_wp2_with fail
  exact bodyPost_ret (v := .agg #[.int .i32 x0, .int .u8 x1, .int .u16 x2, .int .i64 x3, .int .u32 y4, .int .u32 y5]) (by simp [results, Try.results21, go_sem, hrc]) rfl ⟨rfl, by (repeat' (first | (with_reducible exact Below.refl _ _) | (with_reducible assumption) | (with_reducible refine below_drewN ?_ _) | (with_reducible refine Below.alloc ?_ ?_ _) | (with_reducible refine Below.drew ?_) | (with_reducible refine Below.setCell ?_ ?_ _) | go_size))⟩

set_option maxHeartbeats 800000 in
theorem relocationSet5 (x0 x1 x2 x3 x4 x5 y0 y1 y2 y3 y4 y5 : Int) (n : Int) (hn : ∀ c : Int, 0 ≤ c → c ≤ 4 → (n == c) = false) (w : World) (bx0 : -2147483648 ≤ x0 ∧ x0 < 2147483648) (bx2 : 0 ≤ x2 ∧ x2 < 65536) (bx3 : -9223372036854775808 ≤ x3 ∧ x3 < 9223372036854775808) (bx4 : 0 ≤ x4 ∧ x4 < 4294967296) (bx5 : 0 ≤ x5 ∧ x5 < 4294967296) (by0 : -2147483648 ≤ y0 ∧ y0 < 2147483648) (by2 : 0 ≤ y2 ∧ y2 < 65536) (by3 : -9223372036854775808 ≤ y3 ∧ y3 < 9223372036854775808) (by4 : 0 ≤ y4 ∧ y4 < 4294967296) (by5 : 0 ≤ y5 ∧ y5 < 4294967296) : Calls Try.prog 21 #[.agg #[.int .i32 x0, .int .u8 x1, .int .u16 x2, .int .i64 x3, .int .u32 x4, .int .u32 x5], .agg #[.int .i32 y0, .int .u8 y1, .int .u16 y2, .int .i64 y3, .int .u32 y4, .int .u32 y5], (.int .i64 n)] w (RetV (.agg #[.int .i32 x0, .int .u8 x1, .int .u16 x2, .int .i64 x3, .int .u32 x4, .int .u32 x5]) w) := by
  have n0 := hn 0 (by omega) (by omega)
  have n1 := hn 1 (by omega) (by omega)
  have n2 := hn 2 (by omega) (by omega)
  have n3 := hn 3 (by omega) (by omega)
  have n4 := hn 4 (by omega) (by omega)
  clear hn
  have Hx0 := Lib.hid bx0
  have Hx2 := Lib.hid bx2
  have Hx3 := Lib.hid bx3
  have Hx4 := Lib.hid bx4
  have Hx5 := Lib.hid bx5
  have Hy0 := Lib.hid by0
  have Hy2 := Lib.hid by2
  have Hy3 := Lib.hid by3
  have Hy4 := Lib.hid by4
  have Hy5 := Lib.hid by5
  clear bx0 bx2 bx3 bx4 bx5 by0 by2 by3 by4 by5
  go_enter Try.func21, Try.ntmps21
  go_wp2_with fail
  refine (reloc_any x0 x1 x2 x3 x4 x5 _ Hx2.out.1 Hx2.out.2 Hx4.out.1 Hx4.out.2 Hx5.out.1 Hx5.out.2).mono ?_
  rintro e w1 ⟨g, rfl, hg, hblk, hb1⟩
  have r := (Blk.new1 (w.alloc _) _ _ _).here hb1
  rw [World.size_alloc] at r
  have r0 := ((Blk.new1 w _ _ _).alloc _).here hb1
  have hc0 := r0.cell
  have hz : w.heap.size + 1 + 1 < w1.heap.size := by
    have h1 := hblk.lt
    simp at hg
    omega
  have hg1 : w.heap.size + 1 + 1 < g := by simp at hg; omega
  have hB : Below w.heap.size w w1 := below_from (by (repeat' (first | (with_reducible exact Below.refl _ _) | (with_reducible assumption) | (with_reducible refine below_drewN ?_ _) | (with_reducible refine Below.alloc ?_ ?_ _) | (with_reducible refine Below.drew ?_) | (with_reducible refine Below.setCell ?_ ?_ _) | go_size))) hb1
  have HK := Lib.hid hblk
  clear hb1 hblk hg
  have q := r
  have hB2 := hB
  clear r r0 hc0 hB
  go_wp2_with fail
  refine (toldReloc_any g _ x0 x1 x2 x3 x4 x5 _ HK.out Hx0.out.1 Hx0.out.2 Hx2.out.1 Hx2.out.2 Hx3.out.1 Hx3.out.2 Hx4.out.1 Hx4.out.2 Hx5.out.1 Hx5.out.2).mono ?_
  rintro e w9 ⟨rfl, hb9⟩
  have q9 := q.here hb9
  have hrc := q9.cell
  have hrf := q9.frozen
  have hB9 : Below w.heap.size w w9 := below_from hB2 hb9
  have hz9 := hB9.size
  clear q q9 hB2 hb9
  go_wp2_with fail
  exact bodyPost_ret (v := .agg #[.int .i32 x0, .int .u8 x1, .int .u16 x2, .int .i64 x3, .int .u32 x4, .int .u32 x5]) (by simp [results, Try.results21, go_sem, hrc]) rfl ⟨rfl, by (repeat' (first | (with_reducible exact Below.refl _ _) | (with_reducible assumption) | (with_reducible refine below_drewN ?_ _) | (with_reducible refine Below.alloc ?_ ?_ _) | (with_reducible refine Below.drew ?_) | (with_reducible refine Below.setCell ?_ ?_ _) | go_size))⟩

theorem relocationWith0 (x0 x1 x2 x3 x4 x5 y0 y1 y2 y3 y4 y5 : Int) (w : World) : Calls Try.prog 22 #[.agg #[.int .i32 x0, .int .u8 x1, .int .u16 x2, .int .i64 x3, .int .u32 x4, .int .u32 x5], .agg #[.int .i32 y0, .int .u8 y1, .int .u16 y2, .int .i64 y3, .int .u32 y4, .int .u32 y5], (.int .i64 0)] w (RetV (.agg #[.int .i32 y0, .int .u8 x1, .int .u16 x2, .int .i64 x3, .int .u32 x4, .int .u32 x5]) w) := by
  go_enter Try.func22, Try.ntmps22
  go_wp2
  exact bodyPost_ret (v := .agg #[.int .i32 y0, .int .u8 x1, .int .u16 x2, .int .i64 x3, .int .u32 x4, .int .u32 x5]) (by simp [results, Try.results22, go_sem]) rfl ⟨rfl, by (repeat' (first | (with_reducible exact Below.refl _ _) | (with_reducible assumption) | (with_reducible refine below_drewN ?_ _) | (with_reducible refine Below.alloc ?_ ?_ _) | (with_reducible refine Below.drew ?_) | (with_reducible refine Below.setCell ?_ ?_ _) | go_size))⟩
theorem relocationWith1 (x0 x1 x2 x3 x4 x5 y0 y1 y2 y3 y4 y5 : Int) (w : World) : Calls Try.prog 22 #[.agg #[.int .i32 x0, .int .u8 x1, .int .u16 x2, .int .i64 x3, .int .u32 x4, .int .u32 x5], .agg #[.int .i32 y0, .int .u8 y1, .int .u16 y2, .int .i64 y3, .int .u32 y4, .int .u32 y5], (.int .i64 1)] w (RetV (.agg #[.int .i32 x0, .int .u8 y1, .int .u16 x2, .int .i64 x3, .int .u32 x4, .int .u32 x5]) w) := by
  go_enter Try.func22, Try.ntmps22
  go_wp2
  exact bodyPost_ret (v := .agg #[.int .i32 x0, .int .u8 y1, .int .u16 x2, .int .i64 x3, .int .u32 x4, .int .u32 x5]) (by simp [results, Try.results22, go_sem]) rfl ⟨rfl, by (repeat' (first | (with_reducible exact Below.refl _ _) | (with_reducible assumption) | (with_reducible refine below_drewN ?_ _) | (with_reducible refine Below.alloc ?_ ?_ _) | (with_reducible refine Below.drew ?_) | (with_reducible refine Below.setCell ?_ ?_ _) | go_size))⟩
theorem relocationWith2 (x0 x1 x2 x3 x4 x5 y0 y1 y2 y3 y4 y5 : Int) (w : World) : Calls Try.prog 22 #[.agg #[.int .i32 x0, .int .u8 x1, .int .u16 x2, .int .i64 x3, .int .u32 x4, .int .u32 x5], .agg #[.int .i32 y0, .int .u8 y1, .int .u16 y2, .int .i64 y3, .int .u32 y4, .int .u32 y5], (.int .i64 2)] w (RetV (.agg #[.int .i32 x0, .int .u8 x1, .int .u16 y2, .int .i64 x3, .int .u32 x4, .int .u32 x5]) w) := by
  go_enter Try.func22, Try.ntmps22
  go_wp2
  exact bodyPost_ret (v := .agg #[.int .i32 x0, .int .u8 x1, .int .u16 y2, .int .i64 x3, .int .u32 x4, .int .u32 x5]) (by simp [results, Try.results22, go_sem]) rfl ⟨rfl, by (repeat' (first | (with_reducible exact Below.refl _ _) | (with_reducible assumption) | (with_reducible refine below_drewN ?_ _) | (with_reducible refine Below.alloc ?_ ?_ _) | (with_reducible refine Below.drew ?_) | (with_reducible refine Below.setCell ?_ ?_ _) | go_size))⟩
theorem relocationWith3 (x0 x1 x2 x3 x4 x5 y0 y1 y2 y3 y4 y5 : Int) (w : World) : Calls Try.prog 22 #[.agg #[.int .i32 x0, .int .u8 x1, .int .u16 x2, .int .i64 x3, .int .u32 x4, .int .u32 x5], .agg #[.int .i32 y0, .int .u8 y1, .int .u16 y2, .int .i64 y3, .int .u32 y4, .int .u32 y5], (.int .i64 3)] w (RetV (.agg #[.int .i32 x0, .int .u8 x1, .int .u16 x2, .int .i64 y3, .int .u32 x4, .int .u32 x5]) w) := by
  go_enter Try.func22, Try.ntmps22
  go_wp2
  exact bodyPost_ret (v := .agg #[.int .i32 x0, .int .u8 x1, .int .u16 x2, .int .i64 y3, .int .u32 x4, .int .u32 x5]) (by simp [results, Try.results22, go_sem]) rfl ⟨rfl, by (repeat' (first | (with_reducible exact Below.refl _ _) | (with_reducible assumption) | (with_reducible refine below_drewN ?_ _) | (with_reducible refine Below.alloc ?_ ?_ _) | (with_reducible refine Below.drew ?_) | (with_reducible refine Below.setCell ?_ ?_ _) | go_size))⟩
theorem relocationWith4 (x0 x1 x2 x3 x4 x5 y0 y1 y2 y3 y4 y5 : Int) (w : World) : Calls Try.prog 22 #[.agg #[.int .i32 x0, .int .u8 x1, .int .u16 x2, .int .i64 x3, .int .u32 x4, .int .u32 x5], .agg #[.int .i32 y0, .int .u8 y1, .int .u16 y2, .int .i64 y3, .int .u32 y4, .int .u32 y5], (.int .i64 4)] w (RetV (.agg #[.int .i32 x0, .int .u8 x1, .int .u16 x2, .int .i64 x3, .int .u32 y4, .int .u32 y5]) w) := by
  go_enter Try.func22, Try.ntmps22
  go_wp2
  exact bodyPost_ret (v := .agg #[.int .i32 x0, .int .u8 x1, .int .u16 x2, .int .i64 x3, .int .u32 y4, .int .u32 y5]) (by simp [results, Try.results22, go_sem]) rfl ⟨rfl, by (repeat' (first | (with_reducible exact Below.refl _ _) | (with_reducible assumption) | (with_reducible refine below_drewN ?_ _) | (with_reducible refine Below.alloc ?_ ?_ _) | (with_reducible refine Below.drew ?_) | (with_reducible refine Below.setCell ?_ ?_ _) | go_size))⟩
theorem relocationWith5 (x0 x1 x2 x3 x4 x5 y0 y1 y2 y3 y4 y5 : Int) (w : World) (n : Int) (hn : ∀ c : Int, 0 ≤ c → c ≤ 4 → (n == c) = false) : Calls Try.prog 22 #[.agg #[.int .i32 x0, .int .u8 x1, .int .u16 x2, .int .i64 x3, .int .u32 x4, .int .u32 x5], .agg #[.int .i32 y0, .int .u8 y1, .int .u16 y2, .int .i64 y3, .int .u32 y4, .int .u32 y5], (.int .i64 n)] w (RetV (.agg #[.int .i32 x0, .int .u8 x1, .int .u16 x2, .int .i64 x3, .int .u32 x4, .int .u32 x5]) w) := by
  have n0 := hn 0 (by omega) (by omega)
  have n1 := hn 1 (by omega) (by omega)
  have n2 := hn 2 (by omega) (by omega)
  have n3 := hn 3 (by omega) (by omega)
  have n4 := hn 4 (by omega) (by omega)
  clear hn
  go_enter Try.func22, Try.ntmps22
  go_wp2
  exact bodyPost_ret (v := .agg #[.int .i32 x0, .int .u8 x1, .int .u16 x2, .int .i64 x3, .int .u32 x4, .int .u32 x5]) (by simp [results, Try.results22, go_sem]) rfl ⟨rfl, by (repeat' (first | (with_reducible exact Below.refl _ _) | (with_reducible assumption) | (with_reducible refine below_drewN ?_ _) | (with_reducible refine Below.alloc ?_ ?_ _) | (with_reducible refine Below.drew ?_) | (with_reducible refine Below.setCell ?_ ?_ _) | go_size))⟩
set_option maxHeartbeats 800000 in
theorem fnRelocationSet0 (x0 x1 x2 x3 x4 x5 y0 y1 y2 y3 y4 y5 : Int) (w : World) (bx0 : -2147483648 ≤ x0 ∧ x0 < 2147483648) (bx2 : 0 ≤ x2 ∧ x2 < 65536) (bx3 : -9223372036854775808 ≤ x3 ∧ x3 < 9223372036854775808) (bx4 : 0 ≤ x4 ∧ x4 < 4294967296) (bx5 : 0 ≤ x5 ∧ x5 < 4294967296) (by0 : -2147483648 ≤ y0 ∧ y0 < 2147483648) (by2 : 0 ≤ y2 ∧ y2 < 65536) (by3 : -9223372036854775808 ≤ y3 ∧ y3 < 9223372036854775808) (by4 : 0 ≤ y4 ∧ y4 < 4294967296) (by5 : 0 ≤ y5 ∧ y5 < 4294967296) : Calls Try.prog 11 #[.agg #[.int .i32 x0, .int .u8 x1, .int .u16 x2, .int .i64 x3, .int .u32 x4, .int .u32 x5], .agg #[.int .i32 y0, .int .u8 y1, .int .u16 y2, .int .i64 y3, .int .u32 y4, .int .u32 y5], (.int .i64 0)] w (LawEnd w) := by
  have Hx0 := Lib.hid bx0
  have Hx2 := Lib.hid bx2
  have Hx3 := Lib.hid bx3
  have Hx4 := Lib.hid bx4
  have Hx5 := Lib.hid bx5
  have Hy0 := Lib.hid by0
  have Hy2 := Lib.hid by2
  have Hy3 := Lib.hid by3
  have Hy4 := Lib.hid by4
  have Hy5 := Lib.hid by5
  clear bx0 bx2 bx3 bx4 bx5 by0 by2 by3 by4 by5
  go_enter Try.func11, Try.ntmps11
  go_wp2_with fail
  go_region_held3 (fun w' => w'.cell? ⟨w.heap.size, 0, none⟩ = some (.int .i32 x0) ∧ w'.cell? ⟨w.heap.size, 1, none⟩ = some (.int .u8 x1) ∧ w'.cell? ⟨w.heap.size, 2, none⟩ = some (.int .u16 x2) ∧ w'.cell? ⟨w.heap.size, 3, none⟩ = some (.int .i64 x3) ∧ w'.cell? ⟨w.heap.size, 4, none⟩ = some (.int .u32 x4) ∧ w'.cell? ⟨w.heap.size, 5, none⟩ = some (.int .u32 x5) ∧ w'.cell? ⟨w.heap.size + 1, 0, none⟩ = some (.int .i32 y0) ∧ w'.cell? ⟨w.heap.size + 1, 1, none⟩ = some (.int .u8 y1) ∧ w'.cell? ⟨w.heap.size + 1, 2, none⟩ = some (.int .u16 y2) ∧ w'.cell? ⟨w.heap.size + 1, 3, none⟩ = some (.int .i64 y3) ∧ w'.cell? ⟨w.heap.size + 1, 4, none⟩ = some (.int .u32 y4) ∧ w'.cell? ⟨w.heap.size + 1, 5, none⟩ = some (.int .u32 y5))
    (first | go_keep | (go_split_ands; refine ⟨?_, ?_, ?_, ?_, ?_, ?_, ?_, ?_, ?_, ?_, ?_, ?_⟩ <;> (refine keep_cell hb ?_; first | assumption | (simp [go_sem]; done))))
    (first | (go_at_call 21; refine (relocationSet0 x0 x1 x2 x3 x4 x5 y0 y1 y2 y3 y4 y5 _ Hx0.out Hx2.out Hx3.out Hx4.out Hx5.out Hy0.out Hy2.out Hy3.out Hy4.out Hy5.out).mono ?_; rintro e w1 ⟨rfl, hb⟩) | (go_at_call 22; refine (relocationWith0 x0 x1 x2 x3 x4 x5 y0 y1 y2 y3 y4 y5 _).mono ?_; rintro e w1 ⟨rfl, hb⟩))
  go_wp2_with fail
  go_returns
  refine ⟨by simp, ?_⟩
  refine below_from ?_ hb
  refine below_from ?_ (by assumption)
  (repeat' (first | (with_reducible exact Below.refl _ _) | (with_reducible assumption) | (with_reducible refine below_drewN ?_ _) | (with_reducible refine Below.alloc ?_ ?_ _) | (with_reducible refine Below.drew ?_) | (with_reducible refine Below.setCell ?_ ?_ _) | go_size))

set_option maxHeartbeats 800000 in
theorem fnRelocationSet1 (x0 x1 x2 x3 x4 x5 y0 y1 y2 y3 y4 y5 : Int) (w : World) (bx0 : -2147483648 ≤ x0 ∧ x0 < 2147483648) (bx2 : 0 ≤ x2 ∧ x2 < 65536) (bx3 : -9223372036854775808 ≤ x3 ∧ x3 < 9223372036854775808) (bx4 : 0 ≤ x4 ∧ x4 < 4294967296) (bx5 : 0 ≤ x5 ∧ x5 < 4294967296) (by0 : -2147483648 ≤ y0 ∧ y0 < 2147483648) (by2 : 0 ≤ y2 ∧ y2 < 65536) (by3 : -9223372036854775808 ≤ y3 ∧ y3 < 9223372036854775808) (by4 : 0 ≤ y4 ∧ y4 < 4294967296) (by5 : 0 ≤ y5 ∧ y5 < 4294967296) : Calls Try.prog 11 #[.agg #[.int .i32 x0, .int .u8 x1, .int .u16 x2, .int .i64 x3, .int .u32 x4, .int .u32 x5], .agg #[.int .i32 y0, .int .u8 y1, .int .u16 y2, .int .i64 y3, .int .u32 y4, .int .u32 y5], (.int .i64 1)] w (LawEnd w) := by
  have Hx0 := Lib.hid bx0
  have Hx2 := Lib.hid bx2
  have Hx3 := Lib.hid bx3
  have Hx4 := Lib.hid bx4
  have Hx5 := Lib.hid bx5
  have Hy0 := Lib.hid by0
  have Hy2 := Lib.hid by2
  have Hy3 := Lib.hid by3
  have Hy4 := Lib.hid by4
  have Hy5 := Lib.hid by5
  clear bx0 bx2 bx3 bx4 bx5 by0 by2 by3 by4 by5
  go_enter Try.func11, Try.ntmps11
  go_wp2_with fail
  go_region_held3 (fun w' => w'.cell? ⟨w.heap.size, 0, none⟩ = some (.int .i32 x0) ∧ w'.cell? ⟨w.heap.size, 1, none⟩ = some (.int .u8 x1) ∧ w'.cell? ⟨w.heap.size, 2, none⟩ = some (.int .u16 x2) ∧ w'.cell? ⟨w.heap.size, 3, none⟩ = some (.int .i64 x3) ∧ w'.cell? ⟨w.heap.size, 4, none⟩ = some (.int .u32 x4) ∧ w'.cell? ⟨w.heap.size, 5, none⟩ = some (.int .u32 x5) ∧ w'.cell? ⟨w.heap.size + 1, 0, none⟩ = some (.int .i32 y0) ∧ w'.cell? ⟨w.heap.size + 1, 1, none⟩ = some (.int .u8 y1) ∧ w'.cell? ⟨w.heap.size + 1, 2, none⟩ = some (.int .u16 y2) ∧ w'.cell? ⟨w.heap.size + 1, 3, none⟩ = some (.int .i64 y3) ∧ w'.cell? ⟨w.heap.size + 1, 4, none⟩ = some (.int .u32 y4) ∧ w'.cell? ⟨w.heap.size + 1, 5, none⟩ = some (.int .u32 y5))
    (first | go_keep | (go_split_ands; refine ⟨?_, ?_, ?_, ?_, ?_, ?_, ?_, ?_, ?_, ?_, ?_, ?_⟩ <;> (refine keep_cell hb ?_; first | assumption | (simp [go_sem]; done))))
    (first | (go_at_call 21; refine (relocationSet1 x0 x1 x2 x3 x4 x5 y0 y1 y2 y3 y4 y5 _ Hx0.out Hx2.out Hx3.out Hx4.out Hx5.out Hy0.out Hy2.out Hy3.out Hy4.out Hy5.out).mono ?_; rintro e w1 ⟨rfl, hb⟩) | (go_at_call 22; refine (relocationWith1 x0 x1 x2 x3 x4 x5 y0 y1 y2 y3 y4 y5 _).mono ?_; rintro e w1 ⟨rfl, hb⟩))
  go_wp2_with fail
  go_returns
  refine ⟨by simp, ?_⟩
  refine below_from ?_ hb
  refine below_from ?_ (by assumption)
  (repeat' (first | (with_reducible exact Below.refl _ _) | (with_reducible assumption) | (with_reducible refine below_drewN ?_ _) | (with_reducible refine Below.alloc ?_ ?_ _) | (with_reducible refine Below.drew ?_) | (with_reducible refine Below.setCell ?_ ?_ _) | go_size))

set_option maxHeartbeats 800000 in
theorem fnRelocationSet2 (x0 x1 x2 x3 x4 x5 y0 y1 y2 y3 y4 y5 : Int) (w : World) (bx0 : -2147483648 ≤ x0 ∧ x0 < 2147483648) (bx2 : 0 ≤ x2 ∧ x2 < 65536) (bx3 : -9223372036854775808 ≤ x3 ∧ x3 < 9223372036854775808) (bx4 : 0 ≤ x4 ∧ x4 < 4294967296) (bx5 : 0 ≤ x5 ∧ x5 < 4294967296) (by0 : -2147483648 ≤ y0 ∧ y0 < 2147483648) (by2 : 0 ≤ y2 ∧ y2 < 65536) (by3 : -9223372036854775808 ≤ y3 ∧ y3 < 9223372036854775808) (by4 : 0 ≤ y4 ∧ y4 < 4294967296) (by5 : 0 ≤ y5 ∧ y5 < 4294967296) : Calls Try.prog 11 #[.agg #[.int .i32 x0, .int .u8 x1, .int .u16 x2, .int .i64 x3, .int .u32 x4, .int .u32 x5], .agg #[.int .i32 y0, .int .u8 y1, .int .u16 y2, .int .i64 y3, .int .u32 y4, .int .u32 y5], (.int .i64 2)] w (LawEnd w) := by
  have Hx0 := Lib.hid bx0
  have Hx2 := Lib.hid bx2
  have Hx3 := Lib.hid bx3
  have Hx4 := Lib.hid bx4
  have Hx5 := Lib.hid bx5
  have Hy0 := Lib.hid by0
  have Hy2 := Lib.hid by2
  have Hy3 := Lib.hid by3
  have Hy4 := Lib.hid by4
  have Hy5 := Lib.hid by5
  clear bx0 bx2 bx3 bx4 bx5 by0 by2 by3 by4 by5
  go_enter Try.func11, Try.ntmps11
  go_wp2_with fail
  go_region_held3 (fun w' => w'.cell? ⟨w.heap.size, 0, none⟩ = some (.int .i32 x0) ∧ w'.cell? ⟨w.heap.size, 1, none⟩ = some (.int .u8 x1) ∧ w'.cell? ⟨w.heap.size, 2, none⟩ = some (.int .u16 x2) ∧ w'.cell? ⟨w.heap.size, 3, none⟩ = some (.int .i64 x3) ∧ w'.cell? ⟨w.heap.size, 4, none⟩ = some (.int .u32 x4) ∧ w'.cell? ⟨w.heap.size, 5, none⟩ = some (.int .u32 x5) ∧ w'.cell? ⟨w.heap.size + 1, 0, none⟩ = some (.int .i32 y0) ∧ w'.cell? ⟨w.heap.size + 1, 1, none⟩ = some (.int .u8 y1) ∧ w'.cell? ⟨w.heap.size + 1, 2, none⟩ = some (.int .u16 y2) ∧ w'.cell? ⟨w.heap.size + 1, 3, none⟩ = some (.int .i64 y3) ∧ w'.cell? ⟨w.heap.size + 1, 4, none⟩ = some (.int .u32 y4) ∧ w'.cell? ⟨w.heap.size + 1, 5, none⟩ = some (.int .u32 y5))
    (first | go_keep | (go_split_ands; refine ⟨?_, ?_, ?_, ?_, ?_, ?_, ?_, ?_, ?_, ?_, ?_, ?_⟩ <;> (refine keep_cell hb ?_; first | assumption | (simp [go_sem]; done))))
    (first | (go_at_call 21; refine (relocationSet2 x0 x1 x2 x3 x4 x5 y0 y1 y2 y3 y4 y5 _ Hx0.out Hx2.out Hx3.out Hx4.out Hx5.out Hy0.out Hy2.out Hy3.out Hy4.out Hy5.out).mono ?_; rintro e w1 ⟨rfl, hb⟩) | (go_at_call 22; refine (relocationWith2 x0 x1 x2 x3 x4 x5 y0 y1 y2 y3 y4 y5 _).mono ?_; rintro e w1 ⟨rfl, hb⟩))
  go_wp2_with fail
  go_returns
  refine ⟨by simp, ?_⟩
  refine below_from ?_ hb
  refine below_from ?_ (by assumption)
  (repeat' (first | (with_reducible exact Below.refl _ _) | (with_reducible assumption) | (with_reducible refine below_drewN ?_ _) | (with_reducible refine Below.alloc ?_ ?_ _) | (with_reducible refine Below.drew ?_) | (with_reducible refine Below.setCell ?_ ?_ _) | go_size))

set_option maxHeartbeats 800000 in
theorem fnRelocationSet3 (x0 x1 x2 x3 x4 x5 y0 y1 y2 y3 y4 y5 : Int) (w : World) (bx0 : -2147483648 ≤ x0 ∧ x0 < 2147483648) (bx2 : 0 ≤ x2 ∧ x2 < 65536) (bx3 : -9223372036854775808 ≤ x3 ∧ x3 < 9223372036854775808) (bx4 : 0 ≤ x4 ∧ x4 < 4294967296) (bx5 : 0 ≤ x5 ∧ x5 < 4294967296) (by0 : -2147483648 ≤ y0 ∧ y0 < 2147483648) (by2 : 0 ≤ y2 ∧ y2 < 65536) (by3 : -9223372036854775808 ≤ y3 ∧ y3 < 9223372036854775808) (by4 : 0 ≤ y4 ∧ y4 < 4294967296) (by5 : 0 ≤ y5 ∧ y5 < 4294967296) : Calls Try.prog 11 #[.agg #[.int .i32 x0, .int .u8 x1, .int .u16 x2, .int .i64 x3, .int .u32 x4, .int .u32 x5], .agg #[.int .i32 y0, .int .u8 y1, .int .u16 y2, .int .i64 y3, .int .u32 y4, .int .u32 y5], (.int .i64 3)] w (LawEnd w) := by
  have Hx0 := Lib.hid bx0
  have Hx2 := Lib.hid bx2
  have Hx3 := Lib.hid bx3
  have Hx4 := Lib.hid bx4
  have Hx5 := Lib.hid bx5
  have Hy0 := Lib.hid by0
  have Hy2 := Lib.hid by2
  have Hy3 := Lib.hid by3
  have Hy4 := Lib.hid by4
  have Hy5 := Lib.hid by5
  clear bx0 bx2 bx3 bx4 bx5 by0 by2 by3 by4 by5
  go_enter Try.func11, Try.ntmps11
  go_wp2_with fail
  go_region_held3 (fun w' => w'.cell? ⟨w.heap.size, 0, none⟩ = some (.int .i32 x0) ∧ w'.cell? ⟨w.heap.size, 1, none⟩ = some (.int .u8 x1) ∧ w'.cell? ⟨w.heap.size, 2, none⟩ = some (.int .u16 x2) ∧ w'.cell? ⟨w.heap.size, 3, none⟩ = some (.int .i64 x3) ∧ w'.cell? ⟨w.heap.size, 4, none⟩ = some (.int .u32 x4) ∧ w'.cell? ⟨w.heap.size, 5, none⟩ = some (.int .u32 x5) ∧ w'.cell? ⟨w.heap.size + 1, 0, none⟩ = some (.int .i32 y0) ∧ w'.cell? ⟨w.heap.size + 1, 1, none⟩ = some (.int .u8 y1) ∧ w'.cell? ⟨w.heap.size + 1, 2, none⟩ = some (.int .u16 y2) ∧ w'.cell? ⟨w.heap.size + 1, 3, none⟩ = some (.int .i64 y3) ∧ w'.cell? ⟨w.heap.size + 1, 4, none⟩ = some (.int .u32 y4) ∧ w'.cell? ⟨w.heap.size + 1, 5, none⟩ = some (.int .u32 y5))
    (first | go_keep | (go_split_ands; refine ⟨?_, ?_, ?_, ?_, ?_, ?_, ?_, ?_, ?_, ?_, ?_, ?_⟩ <;> (refine keep_cell hb ?_; first | assumption | (simp [go_sem]; done))))
    (first | (go_at_call 21; refine (relocationSet3 x0 x1 x2 x3 x4 x5 y0 y1 y2 y3 y4 y5 _ Hx0.out Hx2.out Hx3.out Hx4.out Hx5.out Hy0.out Hy2.out Hy3.out Hy4.out Hy5.out).mono ?_; rintro e w1 ⟨rfl, hb⟩) | (go_at_call 22; refine (relocationWith3 x0 x1 x2 x3 x4 x5 y0 y1 y2 y3 y4 y5 _).mono ?_; rintro e w1 ⟨rfl, hb⟩))
  go_wp2_with fail
  go_returns
  refine ⟨by simp, ?_⟩
  refine below_from ?_ hb
  refine below_from ?_ (by assumption)
  (repeat' (first | (with_reducible exact Below.refl _ _) | (with_reducible assumption) | (with_reducible refine below_drewN ?_ _) | (with_reducible refine Below.alloc ?_ ?_ _) | (with_reducible refine Below.drew ?_) | (with_reducible refine Below.setCell ?_ ?_ _) | go_size))

set_option maxHeartbeats 800000 in
theorem fnRelocationSet4 (x0 x1 x2 x3 x4 x5 y0 y1 y2 y3 y4 y5 : Int) (w : World) (bx0 : -2147483648 ≤ x0 ∧ x0 < 2147483648) (bx2 : 0 ≤ x2 ∧ x2 < 65536) (bx3 : -9223372036854775808 ≤ x3 ∧ x3 < 9223372036854775808) (bx4 : 0 ≤ x4 ∧ x4 < 4294967296) (bx5 : 0 ≤ x5 ∧ x5 < 4294967296) (by0 : -2147483648 ≤ y0 ∧ y0 < 2147483648) (by2 : 0 ≤ y2 ∧ y2 < 65536) (by3 : -9223372036854775808 ≤ y3 ∧ y3 < 9223372036854775808) (by4 : 0 ≤ y4 ∧ y4 < 4294967296) (by5 : 0 ≤ y5 ∧ y5 < 4294967296) : Calls Try.prog 11 #[.agg #[.int .i32 x0, .int .u8 x1, .int .u16 x2, .int .i64 x3, .int .u32 x4, .int .u32 x5], .agg #[.int .i32 y0, .int .u8 y1, .int .u16 y2, .int .i64 y3, .int .u32 y4, .int .u32 y5], (.int .i64 4)] w (LawEnd w) := by
  have Hx0 := Lib.hid bx0
  have Hx2 := Lib.hid bx2
  have Hx3 := Lib.hid bx3
  have Hx4 := Lib.hid bx4
  have Hx5 := Lib.hid bx5
  have Hy0 := Lib.hid by0
  have Hy2 := Lib.hid by2
  have Hy3 := Lib.hid by3
  have Hy4 := Lib.hid by4
  have Hy5 := Lib.hid by5
  clear bx0 bx2 bx3 bx4 bx5 by0 by2 by3 by4 by5
  go_enter Try.func11, Try.ntmps11
  go_wp2_with fail
  go_region_held3 (fun w' => w'.cell? ⟨w.heap.size, 0, none⟩ = some (.int .i32 x0) ∧ w'.cell? ⟨w.heap.size, 1, none⟩ = some (.int .u8 x1) ∧ w'.cell? ⟨w.heap.size, 2, none⟩ = some (.int .u16 x2) ∧ w'.cell? ⟨w.heap.size, 3, none⟩ = some (.int .i64 x3) ∧ w'.cell? ⟨w.heap.size, 4, none⟩ = some (.int .u32 x4) ∧ w'.cell? ⟨w.heap.size, 5, none⟩ = some (.int .u32 x5) ∧ w'.cell? ⟨w.heap.size + 1, 0, none⟩ = some (.int .i32 y0) ∧ w'.cell? ⟨w.heap.size + 1, 1, none⟩ = some (.int .u8 y1) ∧ w'.cell? ⟨w.heap.size + 1, 2, none⟩ = some (.int .u16 y2) ∧ w'.cell? ⟨w.heap.size + 1, 3, none⟩ = some (.int .i64 y3) ∧ w'.cell? ⟨w.heap.size + 1, 4, none⟩ = some (.int .u32 y4) ∧ w'.cell? ⟨w.heap.size + 1, 5, none⟩ = some (.int .u32 y5))
    (first | go_keep | (go_split_ands; refine ⟨?_, ?_, ?_, ?_, ?_, ?_, ?_, ?_, ?_, ?_, ?_, ?_⟩ <;> (refine keep_cell hb ?_; first | assumption | (simp [go_sem]; done))))
    (first | (go_at_call 21; refine (relocationSet4 x0 x1 x2 x3 x4 x5 y0 y1 y2 y3 y4 y5 _ Hx0.out Hx2.out Hx3.out Hx4.out Hx5.out Hy0.out Hy2.out Hy3.out Hy4.out Hy5.out).mono ?_; rintro e w1 ⟨rfl, hb⟩) | (go_at_call 22; refine (relocationWith4 x0 x1 x2 x3 x4 x5 y0 y1 y2 y3 y4 y5 _).mono ?_; rintro e w1 ⟨rfl, hb⟩))
  go_wp2_with fail
  go_returns
  refine ⟨by simp, ?_⟩
  refine below_from ?_ hb
  refine below_from ?_ (by assumption)
  (repeat' (first | (with_reducible exact Below.refl _ _) | (with_reducible assumption) | (with_reducible refine below_drewN ?_ _) | (with_reducible refine Below.alloc ?_ ?_ _) | (with_reducible refine Below.drew ?_) | (with_reducible refine Below.setCell ?_ ?_ _) | go_size))

set_option maxHeartbeats 800000 in
theorem fnRelocationSet5 (x0 x1 x2 x3 x4 x5 y0 y1 y2 y3 y4 y5 : Int) (n : Int) (hn : ∀ c : Int, 0 ≤ c → c ≤ 4 → (n == c) = false) (w : World) (bx0 : -2147483648 ≤ x0 ∧ x0 < 2147483648) (bx2 : 0 ≤ x2 ∧ x2 < 65536) (bx3 : -9223372036854775808 ≤ x3 ∧ x3 < 9223372036854775808) (bx4 : 0 ≤ x4 ∧ x4 < 4294967296) (bx5 : 0 ≤ x5 ∧ x5 < 4294967296) (by0 : -2147483648 ≤ y0 ∧ y0 < 2147483648) (by2 : 0 ≤ y2 ∧ y2 < 65536) (by3 : -9223372036854775808 ≤ y3 ∧ y3 < 9223372036854775808) (by4 : 0 ≤ y4 ∧ y4 < 4294967296) (by5 : 0 ≤ y5 ∧ y5 < 4294967296) : Calls Try.prog 11 #[.agg #[.int .i32 x0, .int .u8 x1, .int .u16 x2, .int .i64 x3, .int .u32 x4, .int .u32 x5], .agg #[.int .i32 y0, .int .u8 y1, .int .u16 y2, .int .i64 y3, .int .u32 y4, .int .u32 y5], (.int .i64 n)] w (LawEnd w) := by
  have Hx0 := Lib.hid bx0
  have Hx2 := Lib.hid bx2
  have Hx3 := Lib.hid bx3
  have Hx4 := Lib.hid bx4
  have Hx5 := Lib.hid bx5
  have Hy0 := Lib.hid by0
  have Hy2 := Lib.hid by2
  have Hy3 := Lib.hid by3
  have Hy4 := Lib.hid by4
  have Hy5 := Lib.hid by5
  clear bx0 bx2 bx3 bx4 bx5 by0 by2 by3 by4 by5
  have HN := Lib.hid hn
  clear hn
  go_enter Try.func11, Try.ntmps11
  go_wp2_with fail
  go_region_held3 (fun w' => w'.cell? ⟨w.heap.size, 0, none⟩ = some (.int .i32 x0) ∧ w'.cell? ⟨w.heap.size, 1, none⟩ = some (.int .u8 x1) ∧ w'.cell? ⟨w.heap.size, 2, none⟩ = some (.int .u16 x2) ∧ w'.cell? ⟨w.heap.size, 3, none⟩ = some (.int .i64 x3) ∧ w'.cell? ⟨w.heap.size, 4, none⟩ = some (.int .u32 x4) ∧ w'.cell? ⟨w.heap.size, 5, none⟩ = some (.int .u32 x5) ∧ w'.cell? ⟨w.heap.size + 1, 0, none⟩ = some (.int .i32 y0) ∧ w'.cell? ⟨w.heap.size + 1, 1, none⟩ = some (.int .u8 y1) ∧ w'.cell? ⟨w.heap.size + 1, 2, none⟩ = some (.int .u16 y2) ∧ w'.cell? ⟨w.heap.size + 1, 3, none⟩ = some (.int .i64 y3) ∧ w'.cell? ⟨w.heap.size + 1, 4, none⟩ = some (.int .u32 y4) ∧ w'.cell? ⟨w.heap.size + 1, 5, none⟩ = some (.int .u32 y5))
    (first | go_keep | (go_split_ands; refine ⟨?_, ?_, ?_, ?_, ?_, ?_, ?_, ?_, ?_, ?_, ?_, ?_⟩ <;> (refine keep_cell hb ?_; first | assumption | (simp [go_sem]; done))))
    (first | (go_at_call 21; refine (relocationSet5 x0 x1 x2 x3 x4 x5 y0 y1 y2 y3 y4 y5 n HN.out _ Hx0.out Hx2.out Hx3.out Hx4.out Hx5.out Hy0.out Hy2.out Hy3.out Hy4.out Hy5.out).mono ?_; rintro e w1 ⟨rfl, hb⟩) | (go_at_call 22; refine (relocationWith5 x0 x1 x2 x3 x4 x5 y0 y1 y2 y3 y4 y5 _ n HN.out).mono ?_; rintro e w1 ⟨rfl, hb⟩))
  go_wp2_with fail
  go_returns
  refine ⟨by simp, ?_⟩
  refine below_from ?_ hb
  refine below_from ?_ (by assumption)
  (repeat' (first | (with_reducible exact Below.refl _ _) | (with_reducible assumption) | (with_reducible refine below_drewN ?_ _) | (with_reducible refine Below.alloc ?_ ?_ _) | (with_reducible refine Below.drew ?_) | (with_reducible refine Below.setCell ?_ ?_ _) | go_size))

theorem fnRelocationSet_any (x0 x1 x2 x3 x4 x5 y0 y1 y2 y3 y4 y5 n : Int) (w : World) (bx0 : -2147483648 ≤ x0 ∧ x0 < 2147483648) (_ : 0 ≤ x1 ∧ x1 < 256) (bx2 : 0 ≤ x2 ∧ x2 < 65536) (bx3 : -9223372036854775808 ≤ x3 ∧ x3 < 9223372036854775808) (bx4 : 0 ≤ x4 ∧ x4 < 4294967296) (bx5 : 0 ≤ x5 ∧ x5 < 4294967296) (by0 : -2147483648 ≤ y0 ∧ y0 < 2147483648) (_ : 0 ≤ y1 ∧ y1 < 256) (by2 : 0 ≤ y2 ∧ y2 < 65536) (by3 : -9223372036854775808 ≤ y3 ∧ y3 < 9223372036854775808) (by4 : 0 ≤ y4 ∧ y4 < 4294967296) (by5 : 0 ≤ y5 ∧ y5 < 4294967296) (_ : -9223372036854775808 ≤ n ∧ n < 9223372036854775808) : Calls Try.prog 11 #[.agg #[.int .i32 x0, .int .u8 x1, .int .u16 x2, .int .i64 x3, .int .u32 x4, .int .u32 x5], .agg #[.int .i32 y0, .int .u8 y1, .int .u16 y2, .int .i64 y3, .int .u32 y4, .int .u32 y5], .int .i64 n] w (LawEnd w) := by
  by_cases h0 : n = 0
  · subst h0
    exact fnRelocationSet0 x0 x1 x2 x3 x4 x5 y0 y1 y2 y3 y4 y5 w bx0 bx2 bx3 bx4 bx5 by0 by2 by3 by4 by5
  by_cases h1 : n = 1
  · subst h1
    exact fnRelocationSet1 x0 x1 x2 x3 x4 x5 y0 y1 y2 y3 y4 y5 w bx0 bx2 bx3 bx4 bx5 by0 by2 by3 by4 by5
  by_cases h2 : n = 2
  · subst h2
    exact fnRelocationSet2 x0 x1 x2 x3 x4 x5 y0 y1 y2 y3 y4 y5 w bx0 bx2 bx3 bx4 bx5 by0 by2 by3 by4 by5
  by_cases h3 : n = 3
  · subst h3
    exact fnRelocationSet3 x0 x1 x2 x3 x4 x5 y0 y1 y2 y3 y4 y5 w bx0 bx2 bx3 bx4 bx5 by0 by2 by3 by4 by5
  by_cases h4 : n = 4
  · subst h4
    exact fnRelocationSet4 x0 x1 x2 x3 x4 x5 y0 y1 y2 y3 y4 y5 w bx0 bx2 bx3 bx4 bx5 by0 by2 by3 by4 by5
  refine fnRelocationSet5 x0 x1 x2 x3 x4 x5 y0 y1 y2 y3 y4 y5 n (fun c h0 h5 => ?_) w bx0 bx2 bx3 bx4 bx5 by0 by2 by3 by4 by5
  rw [beq_eq_false_iff_ne]
  omega
end Go.Proofs.Ytnnhdoocklaeoaa
