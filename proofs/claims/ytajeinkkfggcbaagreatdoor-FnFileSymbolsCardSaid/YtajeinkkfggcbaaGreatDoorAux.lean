/- Auxiliary symbols and flags of references: set, and told. -/
import Derived.Test.YtajeinkkfggcbaaGreatDoorReloc
namespace Go.Proofs.YtajeinkkfggcbaaGreatDoor
open Go.RowKit

/-- The 9 cells. -/
def auxCells (s p y : Int) : Array Value := #[u8 s, u8 (p % 256), u8 (p / 256 % 256), u8 (p / 65536 % 256), u8 (p / 16777216 % 256), u8 (y % 256), u8 (y / 256 % 256), u8 (y / 65536 % 256), u8 (y / 16777216 % 256)]
section
variable (g : Nat) (t : TypeId) (cs : Array Value) (w : World) (hb : Blk w g t cs) (hs : cs.size = 9)
include hb hs
theorem aux_SetType (s : Int) : Calls Tryz.prog 100 #[.pointer (some ⟨g, 0, none⟩), .int .u8 s] w (Wr g t (cs.setIfInBounds 0 (u8 s)) w) := by
  obtain ⟨x0, c0⟩ := cell_in hb (i := 0) (by omega)
  have hf := hb.frozen
  have hr := Lib.hid (hb.set_ 0 (u8 s))
  go_enter Tryz.func100, Tryz.ntmps100
  go_wp2
  go_end0
  exact ⟨rfl, hr.out, by (repeat' (first | (with_reducible exact Fr.refl _ _) | (with_reducible assumption) | (with_reducible refine Fr.drewN ?_ _) | (with_reducible refine Fr.alloc ?_ _) | (with_reducible refine Fr.drew ?_) | (with_reducible refine Fr.setCell ?_ (.inl (by simp)) _) | (with_reducible refine Fr.setCell ?_ (.inr ?_) _) | go_size))⟩
theorem aux_SetSym (p y : Int) (p0 : 0 ≤ p) (p1 : p < 4294967296) (y0 : 0 ≤ y) (y1 : y < 4294967296) : Calls Tryz.prog 101 #[.pointer (some ⟨g, 0, none⟩), .agg #[.int .u32 p, .int .u32 y]] w (Wr g t (set4 (set4 cs 1 p) 5 y) w) := by
  have hlt := hb.lt
  have H := Lib.hid hb
  clear hb
  go_enter Tryz.func101, Tryz.ntmps101
  go_wp2_with fail
  go_region_held3 (fun w' => w'.cell? ⟨w.heap.size, 0, none⟩ = some (.int .u32 p) ∧ w'.cell? ⟨w.heap.size, 1, none⟩ = some (.int .u32 y))
    (first | go_keep | (go_split_ands; refine ⟨?_, ?_⟩ <;> (refine hf1.cell ?_ (by simp; omega); first | assumption | (simp [go_sem]; done))))
    (first | (go_at_call 73; refine (putLe32_blk g 1 _ _ t cs _ _ (H.out.alloc _).drew (by omega) (by omega) (by omega) (by omega)).mono ?_; rintro e w1 ⟨rfl, hb1, hf1⟩; have H1 := Lib.hid hb1; clear hb1))
  go_wp2_with fail
  go_region_held3 (fun w' => w'.cell? ⟨w.heap.size, 0, none⟩ = some (.int .u32 p) ∧ w'.cell? ⟨w.heap.size, 1, none⟩ = some (.int .u32 y))
    (first | go_keep | (go_split_ands; refine ⟨?_, ?_⟩ <;> (refine hf2.cell ?_ (by simp; omega); first | assumption | (simp [go_sem]; done))))
    (first | (go_at_call 73; refine (putLe32_blk g 5 _ _ t _ _ _ H1.out.drew (by omega) (by simp; omega) (by omega) (by omega)).mono ?_; rintro e w2 ⟨rfl, hb2, hf2⟩))
  go_wp2_with fail
  go_end0
  exact ⟨rfl, hb2, (Fr.trans1 (Fr.trans1 (by (repeat' (first | (with_reducible exact Fr.refl _ _) | (with_reducible assumption) | (with_reducible refine Fr.drewN ?_ _) | (with_reducible refine Fr.alloc ?_ _) | (with_reducible refine Fr.drew ?_) | (with_reducible refine Fr.setCell ?_ (.inl (by simp)) _) | (with_reducible refine Fr.setCell ?_ (.inr ?_) _) | go_size))) hf1).drew hf2)⟩
end
section
variable (g : Nat) (s p y : Int) (w : World) (hc : ∀ i, w.cell? ⟨g, i, none⟩ = (auxCells s p y)[i]?)
include hc
end

/-- The 10 cells. -/
def flagsCells (p y s t : Int) : Array Value := #[u8 (p % 256), u8 (p / 256 % 256), u8 (p / 65536 % 256), u8 (p / 16777216 % 256), u8 (y % 256), u8 (y / 256 % 256), u8 (y / 65536 % 256), u8 (y / 16777216 % 256), u8 s, u8 t]
section
variable (g : Nat) (t : TypeId) (cs : Array Value) (w : World) (hb : Blk w g t cs) (hs : cs.size = 10)
include hb hs
theorem flags_SetFlag (s : Int) : Calls Tryz.prog 79 #[.pointer (some ⟨g, 0, none⟩), .int .u8 s] w (Wr g t (cs.setIfInBounds 8 (u8 s)) w) := by
  obtain ⟨x0, c0⟩ := cell_in hb (i := 8) (by omega)
  have hf := hb.frozen
  have hr := Lib.hid (hb.set_ 8 (u8 s))
  go_enter Tryz.func79, Tryz.ntmps79
  go_wp2
  go_end0
  exact ⟨rfl, hr.out, by (repeat' (first | (with_reducible exact Fr.refl _ _) | (with_reducible assumption) | (with_reducible refine Fr.drewN ?_ _) | (with_reducible refine Fr.alloc ?_ _) | (with_reducible refine Fr.drew ?_) | (with_reducible refine Fr.setCell ?_ (.inl (by simp)) _) | (with_reducible refine Fr.setCell ?_ (.inr ?_) _) | go_size))⟩
theorem flags_SetFlag2 (s : Int) : Calls Tryz.prog 80 #[.pointer (some ⟨g, 0, none⟩), .int .u8 s] w (Wr g t (cs.setIfInBounds 9 (u8 s)) w) := by
  obtain ⟨x0, c0⟩ := cell_in hb (i := 9) (by omega)
  have hf := hb.frozen
  have hr := Lib.hid (hb.set_ 9 (u8 s))
  go_enter Tryz.func80, Tryz.ntmps80
  go_wp2
  go_end0
  exact ⟨rfl, hr.out, by (repeat' (first | (with_reducible exact Fr.refl _ _) | (with_reducible assumption) | (with_reducible refine Fr.drewN ?_ _) | (with_reducible refine Fr.alloc ?_ _) | (with_reducible refine Fr.drew ?_) | (with_reducible refine Fr.setCell ?_ (.inl (by simp)) _) | (with_reducible refine Fr.setCell ?_ (.inr ?_) _) | go_size))⟩
theorem flags_SetSym (p y : Int) (p0 : 0 ≤ p) (p1 : p < 4294967296) (y0 : 0 ≤ y) (y1 : y < 4294967296) : Calls Tryz.prog 78 #[.pointer (some ⟨g, 0, none⟩), .agg #[.int .u32 p, .int .u32 y]] w (Wr g t (set4 (set4 cs 0 p) 4 y) w) := by
  have hlt := hb.lt
  have H := Lib.hid hb
  clear hb
  go_enter Tryz.func78, Tryz.ntmps78
  go_wp2_with fail
  go_region_held3 (fun w' => w'.cell? ⟨w.heap.size, 0, none⟩ = some (.int .u32 p) ∧ w'.cell? ⟨w.heap.size, 1, none⟩ = some (.int .u32 y))
    (first | go_keep | (go_split_ands; refine ⟨?_, ?_⟩ <;> (refine hf1.cell ?_ (by simp; omega); first | assumption | (simp [go_sem]; done))))
    (first | (go_at_call 73; refine (putLe32_blk g 0 _ _ t cs _ _ (H.out.alloc _).drew (by omega) (by omega) (by omega) (by omega)).mono ?_; rintro e w1 ⟨rfl, hb1, hf1⟩; have H1 := Lib.hid hb1; clear hb1))
  go_wp2_with fail
  go_region_held3 (fun w' => w'.cell? ⟨w.heap.size, 0, none⟩ = some (.int .u32 p) ∧ w'.cell? ⟨w.heap.size, 1, none⟩ = some (.int .u32 y))
    (first | go_keep | (go_split_ands; refine ⟨?_, ?_⟩ <;> (refine hf2.cell ?_ (by simp; omega); first | assumption | (simp [go_sem]; done))))
    (first | (go_at_call 73; refine (putLe32_blk g 4 _ _ t _ _ _ H1.out.drew (by omega) (by simp; omega) (by omega) (by omega)).mono ?_; rintro e w2 ⟨rfl, hb2, hf2⟩))
  go_wp2_with fail
  go_end0
  exact ⟨rfl, hb2, (Fr.trans1 (Fr.trans1 (by (repeat' (first | (with_reducible exact Fr.refl _ _) | (with_reducible assumption) | (with_reducible refine Fr.drewN ?_ _) | (with_reducible refine Fr.alloc ?_ _) | (with_reducible refine Fr.drew ?_) | (with_reducible refine Fr.setCell ?_ (.inl (by simp)) _) | (with_reducible refine Fr.setCell ?_ (.inr ?_) _) | go_size))) hf1).drew hf2)⟩
end
section
variable (g : Nat) (p y s t : Int) (w : World) (hc : ∀ i, w.cell? ⟨g, i, none⟩ = (flagsCells p y s t)[i]?)
include hc
end

theorem aux_all (cs : Array Value) (hs : cs.size = 9) (s p y : Int) : set4 (set4 (cs.setIfInBounds 0 (u8 s)) 1 p) 5 y = auxCells s p y := by
  obtain ⟨z0, z1, z2, z3, z4, z5, z6, z7, z8, rfl⟩ : ∃ z0 z1 z2 z3 z4 z5 z6 z7 z8, cs = #[z0, z1, z2, z3, z4, z5, z6, z7, z8] := by
    obtain ⟨l⟩ := cs
    match l, hs with
    | [z0, z1, z2, z3, z4, z5, z6, z7, z8], _ => exact ⟨z0, z1, z2, z3, z4, z5, z6, z7, z8, rfl⟩
  simp [set4, auxCells]
abbrev auxVal (s p y : Int) : Value := .agg #[.int .u8 s, .int .u32 p, .int .u32 y]

theorem flags_all (cs : Array Value) (hs : cs.size = 10) (p y s t : Int) : ((set4 (set4 cs 0 p) 4 y).setIfInBounds 8 (u8 s)).setIfInBounds 9 (u8 t) = flagsCells p y s t := by
  obtain ⟨z0, z1, z2, z3, z4, z5, z6, z7, z8, z9, rfl⟩ : ∃ z0 z1 z2 z3 z4 z5 z6 z7 z8 z9, cs = #[z0, z1, z2, z3, z4, z5, z6, z7, z8, z9] := by
    obtain ⟨l⟩ := cs
    match l, hs with
    | [z0, z1, z2, z3, z4, z5, z6, z7, z8, z9], _ => exact ⟨z0, z1, z2, z3, z4, z5, z6, z7, z8, z9, rfl⟩
  simp [set4, flagsCells]
abbrev flagsVal (p y s t : Int) : Value := .agg #[.int .u32 p, .int .u32 y, .int .u8 s, .int .u8 t]

set_option maxHeartbeats 400000 in
theorem aux_any (s p y : Int) (w : World) (p0 : 0 ≤ p) (p1 : p < 4294967296) (y0 : 0 ≤ y) (y1 : y < 4294967296) : Calls Tryz.prog 84 #[auxVal s p y] w (RetNew 172 (auxCells s p y) w) := by
  unfold auxVal
  have bx : Blk (w.alloc (.cells #[.int .u8 s, .int .u32 p, .int .u32 y] 155)) w.heap.size _ _ := Blk.new _ _ _
  have E := Lib.hid (fun cs hs => aux_all cs hs s p y)
  go_enter Tryz.func84, Tryz.ntmps84
  go_wp2_with fail
  refine (aux_SetType (w.heap.size + 1) _ _ _ (Blk.new1 w _ _ _) rfl s).mono ?_
  rintro e w1 ⟨rfl, hb1, hf1⟩
  have bx1 := ((bx.alloc _).fr hf1 (by simp)).cell
  have bx1' := Lib.hid ((bx.alloc (.cells _ _)).fr hf1 (by simp))
  clear bx
  go_wp2_with fail
  refine (ref_any p y _).mono ?_
  rintro e w2 ⟨rfl, hb2⟩
  go_wp2_with fail
  refine (aux_SetSym (w.heap.size + 1) _ _ _ (hb1.here hb2) (by simp) p y p0 p1 y0 y1).mono ?_
  rintro e w3 ⟨rfl, hb3, hf3⟩
  rw [E.out _ (by simp)] at hb3
  clear bx1
  go_wp2_with fail
  go_ret
  have hf : Fr [] w w3 := Fr.trans (Fr.trans0 (Fr.trans (by (repeat' (first | (with_reducible exact Fr.refl _ _) | (with_reducible assumption) | (with_reducible refine Fr.drewN ?_ _) | (with_reducible refine Fr.alloc ?_ _) | (with_reducible refine Fr.drew ?_) | (with_reducible refine Fr.setCell ?_ (.inl (by simp)) _) | (with_reducible refine Fr.setCell ?_ (.inr ?_) _) | go_size))) hf1 (by simp)) hb2) hf3 (by simp)
  exact ⟨_, rfl, by simp, hb3, hf.below⟩

set_option maxHeartbeats 400000 in
theorem flags_any (p y s t : Int) (w : World) (p0 : 0 ≤ p) (p1 : p < 4294967296) (y0 : 0 ≤ y) (y1 : y < 4294967296) : Calls Tryz.prog 44 #[flagsVal p y s t] w (RetNew 149 (flagsCells p y s t) w) := by
  unfold flagsVal
  have bx : Blk (w.alloc (.cells #[.int .u32 p, .int .u32 y, .int .u8 s, .int .u8 t] 111)) w.heap.size _ _ := Blk.new _ _ _
  have E := Lib.hid (fun cs hs => flags_all cs hs p y s t)
  go_enter Tryz.func44, Tryz.ntmps44
  go_wp2_with fail
  refine (ref_any p y _).mono ?_
  rintro e w2 ⟨rfl, hb2⟩
  have bx2 := (bx.alloc (.cells _ _)).here hb2
  have nb2 := (Blk.new1 w _ _ _).here hb2
  clear bx
  go_wp2_with fail
  refine (flags_SetSym (w.heap.size + 1) _ _ _ nb2 rfl p y p0 p1 y0 y1).mono ?_
  rintro e w3 ⟨rfl, hb3, hf3⟩
  have bx3 := bx2.fr hf3 (by simp)
  have hc3 := bx3.cell
  clear bx2 nb2
  go_wp2_with fail
  refine (flags_SetFlag (w.heap.size + 1) _ _ _ hb3 (by simp) s).mono ?_
  rintro e w4 ⟨rfl, hb4, hf4⟩
  have hc4 := (bx3.fr hf4 (by simp)).cell
  clear hc3 bx3 hb3
  go_wp2_with fail
  refine (flags_SetFlag2 (w.heap.size + 1) _ _ _ hb4 (by simp) t).mono ?_
  rintro e w5 ⟨rfl, hb5, hf5⟩
  rw [E.out _ (by simp)] at hb5
  clear hc4 hb4
  go_wp2_with fail
  go_ret
  have hf : Fr [] w w5 := Fr.trans (Fr.trans (Fr.trans (Fr.trans0 (by (repeat' (first | (with_reducible exact Fr.refl _ _) | (with_reducible assumption) | (with_reducible refine Fr.drewN ?_ _) | (with_reducible refine Fr.alloc ?_ _) | (with_reducible refine Fr.drew ?_) | (with_reducible refine Fr.setCell ?_ (.inl (by simp)) _) | (with_reducible refine Fr.setCell ?_ (.inr ?_) _) | go_size))) hb2) hf3 (by simp)) hf4 (by simp)) hf5 (by simp)
  exact ⟨_, rfl, by simp, hb5, hf.below⟩
end Go.Proofs.YtajeinkkfggcbaaGreatDoor
