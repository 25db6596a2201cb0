/- Relocations: set, and told. -/
import Derived.Test.YtajeinkkfggcbaaGreatDoorPut
namespace Go.Proofs.YtajeinkkfggcbaaGreatDoor
open Go.RowKit

/-- The 23 cells of a relocation. -/
def relocCells (a s k d p y : Int) : Array Value := #[u8 (a % 256), u8 (a / 256 % 256), u8 (a / 65536 % 256), u8 (a / 16777216 % 256), u8 s, u8 (k % 256), u8 (k / 256 % 256),
  u8 (d % 256), u8 (d / 256 % 256), u8 (d / 65536 % 256), u8 (d / 16777216 % 256), u8 (d / 4294967296 % 256), u8 (d / 4294967296 / 256 % 256), u8 (d / 4294967296 / 65536 % 256), u8 (d / 4294967296 / 16777216 % 256),
  u8 (p % 256), u8 (p / 256 % 256), u8 (p / 65536 % 256), u8 (p / 16777216 % 256), u8 (y % 256), u8 (y / 256 % 256), u8 (y / 65536 % 256), u8 (y / 16777216 % 256)]
abbrev relocVal (a s k d p y : Int) : Value := .agg #[.int .i32 a, .int .u8 s, .int .u16 k, .int .i64 d, .int .u32 p, .int .u32 y]

theorem ref_any (p y : Int) (w : World) : Calls Tryz.prog 50 #[.agg #[.int .u32 p, .int .u32 y]] w (RetV (.agg #[.int .u32 p, .int .u32 y]) w) := by
  go_enter Tryz.func50, Tryz.ntmps50
  go_wp2
  exact bodyPost_ret (v := .agg #[.int .u32 p, .int .u32 y]) (by simp [results, Tryz.results50, go_sem]) rfl ⟨rfl, by (repeat' (first | (with_reducible exact Below.refl _ _) | (with_reducible assumption) | (with_reducible refine below_drewN ?_ _) | (with_reducible refine Below.alloc ?_ ?_ _) | (with_reducible refine Below.drew ?_) | (with_reducible refine Below.setCell ?_ ?_ _) | go_size))⟩
theorem told_any (p y : Int) (w : World) : Calls Tryz.prog 68 #[.agg #[.int .u32 p, .int .u32 y]] w (RetV (.agg #[.int .u32 p, .int .u32 y]) w) := by
  go_enter Tryz.func68, Tryz.ntmps68
  go_wp2
  exact bodyPost_ret (v := .agg #[.int .u32 p, .int .u32 y]) (by simp [results, Tryz.results68, go_sem]) rfl ⟨rfl, by (repeat' (first | (with_reducible exact Below.refl _ _) | (with_reducible assumption) | (with_reducible refine below_drewN ?_ _) | (with_reducible refine Below.alloc ?_ ?_ _) | (with_reducible refine Below.drew ?_) | (with_reducible refine Below.setCell ?_ ?_ _) | go_size))⟩

section
variable (g : Nat) (t : TypeId) (cs : Array Value) (w : World) (hb : Blk w g t cs) (hs : cs.size = 23)
include hb hs
theorem reloc_SetOff (a : Int) : Calls Tryz.prog 106 #[.pointer (some ⟨g, 0, none⟩), .int .i32 a] w (Wr g t (set4 cs 0 a) w) := by
  have E := Lib.hid (set4_mod cs 0 a)
  go_enter Tryz.func106, Tryz.ntmps106
  go_wp2_with fail
  refine (putLe32_blk g 0 _ _ t cs _ _ hb (by omega) (by omega) (by omega) (by omega)).mono ?_
  rintro e w1 ⟨rfl, hb1, hf1⟩
  go_wp2_with fail
  rw [E.out] at hb1
  go_end0
  exact ⟨rfl, hb1, hf1⟩
theorem reloc_SetSiz (s : Int) : Calls Tryz.prog 107 #[.pointer (some ⟨g, 0, none⟩), .int .u8 s] w (Wr g t (cs.setIfInBounds 4 (u8 s)) w) := by
  obtain ⟨x0, c0⟩ := cell_in hb (i := 4) (by omega)
  have hf := hb.frozen
  have hr := Lib.hid (hb.set_ 4 (u8 s))
  go_enter Tryz.func107, Tryz.ntmps107
  go_wp2
  go_end0
  exact ⟨rfl, hr.out, by (repeat' (first | (with_reducible exact Fr.refl _ _) | (with_reducible assumption) | (with_reducible refine Fr.drewN ?_ _) | (with_reducible refine Fr.alloc ?_ _) | (with_reducible refine Fr.drew ?_) | (with_reducible refine Fr.setCell ?_ (.inl (by simp)) _) | (with_reducible refine Fr.setCell ?_ (.inr ?_) _) | go_size))⟩
theorem reloc_SetType (k : Int) (k0 : 0 ≤ k) (k1 : k < 65536) : Calls Tryz.prog 108 #[.pointer (some ⟨g, 0, none⟩), .int .u16 k] w (Wr g t (set2 cs 5 k) w) := by
  go_enter Tryz.func108, Tryz.ntmps108
  go_wp2_with fail
  refine (putLe16_blk g 5 _ _ t cs _ _ hb (by omega) (by omega) (by omega) (by omega)).mono ?_
  rintro e w1 ⟨rfl, hb1, hf1⟩
  go_wp2_with fail
  go_end0
  exact ⟨rfl, hb1, hf1⟩
theorem reloc_SetAdd (d : Int) : Calls Tryz.prog 109 #[.pointer (some ⟨g, 0, none⟩), .int .i64 d] w (Wr g t (set8 cs 7 d) w) := by
  have E := Lib.hid (set8_mod cs 7 d)
  go_enter Tryz.func109, Tryz.ntmps109
  go_wp2_with fail
  rw [IntKind.wrap_u64]
  refine (putLe64_blk g 7 _ _ t cs _ _ hb (by omega) (by omega) (by omega) (by omega) (by omega)).mono ?_
  rintro e w1 ⟨rfl, hb1, hf1⟩
  go_wp2_with fail
  rw [E.out] at hb1
  go_end0
  exact ⟨rfl, hb1, hf1⟩
theorem reloc_SetSym (p y : Int) (p0 : 0 ≤ p) (p1 : p < 4294967296) (y0 : 0 ≤ y) (y1 : y < 4294967296) : Calls Tryz.prog 110 #[.pointer (some ⟨g, 0, none⟩), .agg #[.int .u32 p, .int .u32 y]] w (Wr g t (set4 (set4 cs 15 p) 19 y) w) := by
  have hlt := hb.lt
  have H := Lib.hid hb
  clear hb
  go_enter Tryz.func110, Tryz.ntmps110
  go_wp2_with fail
  go_region_held3 (fun w' => w'.cell? ⟨w.heap.size, 0, none⟩ = some (.int .u32 p) ∧ w'.cell? ⟨w.heap.size, 1, none⟩ = some (.int .u32 y))
    (first | go_keep | (go_split_ands; refine ⟨?_, ?_⟩ <;> (refine hf1.cell ?_ (by simp; omega); first | assumption | (simp [go_sem]; done))))
    (first | (go_at_call 73; refine (putLe32_blk g 15 _ _ t cs _ _ (H.out.alloc _).drew (by omega) (by omega) (by omega) (by omega)).mono ?_; rintro e w1 ⟨rfl, hb1, hf1⟩; have H1 := Lib.hid hb1; clear hb1))
  go_wp2_with fail
  go_region_held3 (fun w' => w'.cell? ⟨w.heap.size, 0, none⟩ = some (.int .u32 p) ∧ w'.cell? ⟨w.heap.size, 1, none⟩ = some (.int .u32 y))
    (first | go_keep | (go_split_ands; refine ⟨?_, ?_⟩ <;> (refine hf2.cell ?_ (by simp; omega); first | assumption | (simp [go_sem]; done))))
    (first | (go_at_call 73; refine (putLe32_blk g 19 _ _ t _ _ _ H1.out.drew (by omega) (by simp; omega) (by omega) (by omega)).mono ?_; rintro e w2 ⟨rfl, hb2, hf2⟩))
  go_wp2_with fail
  go_end0
  exact ⟨rfl, hb2, (Fr.trans1 (Fr.trans1 (by (repeat' (first | (with_reducible exact Fr.refl _ _) | (with_reducible assumption) | (with_reducible refine Fr.drewN ?_ _) | (with_reducible refine Fr.alloc ?_ _) | (with_reducible refine Fr.drew ?_) | (with_reducible refine Fr.setCell ?_ (.inl (by simp)) _) | (with_reducible refine Fr.setCell ?_ (.inr ?_) _) | go_size))) hf1).drew hf2)⟩
end

theorem setAll (cs : Array Value) (hs : cs.size = 23) (a s k d p y : Int) : set4 (set4 (set8 (set2 ((set4 cs 0 a).setIfInBounds 4 (u8 s)) 5 k) 7 d) 15 p) 19 y = relocCells a s k d p y := by
  obtain ⟨z0, z1, z2, z3, z4, z5, z6, z7, z8, z9, z10, z11, z12, z13, z14, z15, z16, z17, z18, z19, z20, z21, z22, rfl⟩ : ∃ z0 z1 z2 z3 z4 z5 z6 z7 z8 z9 z10 z11 z12 z13 z14 z15 z16 z17 z18 z19 z20 z21 z22, cs = #[z0, z1, z2, z3, z4, z5, z6, z7, z8, z9, z10, z11, z12, z13, z14, z15, z16, z17, z18, z19, z20, z21, z22] := by
    obtain ⟨l⟩ := cs
    match l, hs with
    | [z0, z1, z2, z3, z4, z5, z6, z7, z8, z9, z10, z11, z12, z13, z14, z15, z16, z17, z18, z19, z20, z21, z22], _ => exact ⟨z0, z1, z2, z3, z4, z5, z6, z7, z8, z9, z10, z11, z12, z13, z14, z15, z16, z17, z18, z19, z20, z21, z22, rfl⟩
  simp [set2, set4, set8, relocCells]

section
variable (g : Nat) (t : TypeId) (cs : Array Value) (w : World) (hb : Blk w g t cs) (hs : cs.size = 23)
include hb hs
theorem reloc_Set (a s k d p y : Int) (k0 : 0 ≤ k) (k1 : k < 65536) (p0 : 0 ≤ p) (p1 : p < 4294967296) (y0 : 0 ≤ y) (y1 : y < 4294967296) :
    Calls Tryz.prog 99 #[.pointer (some ⟨g, 0, none⟩), .int .i32 a, .int .u8 s, .int .u16 k, .int .i64 d, .agg #[.int .u32 p, .int .u32 y]] w (Wr g t (relocCells a s k d p y) w) := by
  have E := Lib.hid (setAll cs hs a s k d p y)
  have hlt := hb.lt
  have H0 := Lib.hid (hb.alloc (.cells #[.int .u32 p, .int .u32 y] 123))
  have HS := Lib.hid hs
  have hbx : Blk (w.alloc (.cells #[.int .u32 p, .int .u32 y] 123)) w.heap.size _ _ := Blk.new _ _ _
  have HX := Lib.hid hbx
  clear hb hs hbx
  go_enter Tryz.func99, Tryz.ntmps99
  go_wp2_with fail
  refine (reloc_SetOff g t cs _ H0.out HS.out a).mono ?_
  rintro e w1 ⟨rfl, hb1, hf1⟩
  have H1 := Lib.hid hb1
  clear hb1
  go_wp2_with fail
  refine (reloc_SetSiz g t _ _ H1.out (by simp [HS.out]) s).mono ?_
  rintro e w2 ⟨rfl, hb2, hf2⟩
  have H2 := Lib.hid hb2
  clear hb2
  go_wp2_with fail
  refine (reloc_SetType g t _ _ H2.out (by simp [HS.out]) k k0 k1).mono ?_
  rintro e w3 ⟨rfl, hb3, hf3⟩
  have H3 := Lib.hid hb3
  clear hb3
  go_wp2_with fail
  refine (reloc_SetAdd g t _ _ H3.out (by simp [HS.out]) d).mono ?_
  rintro e w4 ⟨rfl, hb4, hf4⟩
  have H4 := Lib.hid hb4
  clear hb4
  have hF := ((hf1.trans1 hf2).trans1 hf3).trans1 hf4
  have hx := (HX.out.fr hF (by simp; omega)).cell
  have hF' := Lib.hid (Fr.trans1 (by (repeat' (first | (with_reducible exact Fr.refl _ _) | (with_reducible assumption) | (with_reducible refine Fr.drewN ?_ _) | (with_reducible refine Fr.alloc ?_ _) | (with_reducible refine Fr.drew ?_) | (with_reducible refine Fr.setCell ?_ (.inl (by simp)) _) | (with_reducible refine Fr.setCell ?_ (.inr ?_) _) | go_size)) : Fr [g] w (w.alloc _)) hF)
  clear hf1 hf2 hf3 hf4 hF
  go_wp2_with fail
  refine (reloc_SetSym g t _ _ H4.out (by simp [HS.out]) p y p0 p1 y0 y1).mono ?_
  rintro e w5 ⟨rfl, hb5, hf5⟩
  rw [E.out] at hb5
  go_wp2_with fail
  go_end0
  exact ⟨rfl, hb5, hF'.out.trans1 hf5⟩
end

set_option maxHeartbeats 400000 in
theorem reloc_any (a s k d p y : Int) (w : World) (k0 : 0 ≤ k) (k1 : k < 65536) (p0 : 0 ≤ p) (p1 : p < 4294967296) (y0 : 0 ≤ y) (y1 : y < 4294967296) :
    Calls Tryz.prog 82 #[relocVal a s k d p y] w (RetNew 93 (relocCells a s k d p y) w) := by
  unfold relocVal
  go_enter Tryz.func82, Tryz.ntmps82
  go_wp2_with fail
  go_region_held3 (fun w' => w'.cell? ⟨w.heap.size, 0, none⟩ = some (.int .i32 a) ∧ w'.cell? ⟨w.heap.size, 1, none⟩ = some (.int .u8 s) ∧ w'.cell? ⟨w.heap.size, 2, none⟩ = some (.int .u16 k) ∧ w'.cell? ⟨w.heap.size, 3, none⟩ = some (.int .i64 d) ∧ w'.cell? ⟨w.heap.size, 4, none⟩ = some (.int .u32 p) ∧ w'.cell? ⟨w.heap.size, 5, none⟩ = some (.int .u32 y))
    (first | go_keep | (go_split_ands; refine ⟨?_, ?_, ?_, ?_, ?_, ?_⟩ <;> (refine keep_cell hb1 ?_; first | assumption | (simp [go_sem]; done))) | (go_split_ands; refine ⟨?_, ?_, ?_, ?_, ?_, ?_⟩ <;> (refine hf2.cell ?_ (by simp); first | assumption | (simp [go_sem]; done))))
    (first | (go_at_call 50; refine (ref_any p y _).mono ?_; rintro e w1 ⟨rfl, hb1⟩; have hz : w.heap.size + 1 < w1.heap.size := by (have := hb1.size; simp at this; omega)) | (go_at_call 99; refine (reloc_Set (w.heap.size + 1) _ _ _ ((Blk.new1 w _ _ _).drew.here hb1) rfl a s k d p y k0 k1 p0 p1 y0 y1).mono ?_; rintro e w2 ⟨rfl, hb2, hf2⟩; have H2 := Lib.hid hb2; clear hb2))
  go_wp2_with fail
  go_ret
  have hf : Fr [] w w2 := Fr.trans (Fr.trans0 (by (repeat' (first | (with_reducible exact Fr.refl _ _) | (with_reducible assumption) | (with_reducible refine Fr.drewN ?_ _) | (with_reducible refine Fr.alloc ?_ _) | (with_reducible refine Fr.drew ?_) | (with_reducible refine Fr.setCell ?_ (.inl (by simp)) _) | (with_reducible refine Fr.setCell ?_ (.inr ?_) _) | go_size))) hb1) hf2 (by simp)
  exact ⟨_, rfl, by simp, H2.out, hf.below⟩
end Go.Proofs.YtajeinkkfggcbaaGreatDoor
