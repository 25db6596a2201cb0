/- sha256: the sum. (printed by gen_psum.py) -/
import Derived.Laws.Externs
import Derived.Great.Walk
import Derived.Test.YtedjadicdodahaaGreatDoorPDigW
import Derived.Laws.Tables
namespace Go.Proofs.YtedjadicdodahaaGreatDoor
open Go.RowKit

def beS32 (cs : Array Value) (o : Nat) (v : Int) : Array Value := ((((cs.setIfInBounds (o) (.int .u8 (v / 16777216 % 256))).setIfInBounds (o + 1) (.int .u8 (v / 65536 % 256))).setIfInBounds (o + 2) (.int .u8 (v / 256 % 256))).setIfInBounds (o + 3) (.int .u8 (v % 256)))
theorem beS32_size (cs : Array Value) (o : Nat) (v : Int) : (beS32 cs o v).size = cs.size := by simp [beS32]
set_option maxRecDepth 100000 in
theorem beP32_any (g o m c : Nat) (t : TypeId) (cs : Array Value) (v : Int) (w : World) (h : Blk w g t cs) (hs : o + 4 ≤ cs.size) (hn : 4 ≤ m) :
    Calls Tryz.prog 175 #[.slice (some ⟨g, o, none⟩) m c, .int .u32 v] w fun e w' => e = .returned (.tuple #[]) ∧ Blk w' g t (beS32 cs o v) ∧ Fr [g] w w' := by
  obtain ⟨x0, c0⟩ : ∃ x, w.cell? ⟨g, o, none⟩ = some x := ⟨_, (h.cell (o)).trans (Array.getElem?_eq_getElem (by omega))⟩
  have f0 := h.frozen (o)
  obtain ⟨x1, c1⟩ : ∃ x, w.cell? ⟨g, o + 1, none⟩ = some x := ⟨_, (h.cell (o + 1)).trans (Array.getElem?_eq_getElem (by omega))⟩
  have f1 := h.frozen (o + 1)
  obtain ⟨x2, c2⟩ : ∃ x, w.cell? ⟨g, o + 2, none⟩ = some x := ⟨_, (h.cell (o + 2)).trans (Array.getElem?_eq_getElem (by omega))⟩
  have f2 := h.frozen (o + 2)
  obtain ⟨x3, c3⟩ : ∃ x, w.cell? ⟨g, o + 3, none⟩ = some x := ⟨_, (h.cell (o + 3)).trans (Array.getElem?_eq_getElem (by omega))⟩
  have f3 := h.frozen (o + 3)
  have n0 : ((3 : Nat) : Int) < m := by omega
  have k0 : (0 : Int) < m := by omega
  have k1 : (1 : Int) < m := by omega
  have k2 : (2 : Int) < m := by omega
  have k3 : (3 : Int) < m := by omega
  have H := Lib.hid h
  clear h
  go_enter Tryz.func175, Tryz.ntmps175
  go_wp2_with fail
  go_end0
  exact ⟨rfl, ((((H.out.set_ (o) _).set_ (o + 1) _).set_ (o + 2) _).set_ (o + 3) _), ((((Fr.refl _ _).setCell (.inl (by simp)) _).setCell (.inl (by simp)) _).setCell (.inl (by simp)) _).setCell (.inl (by simp)) _⟩
def beS64 (cs : Array Value) (o : Nat) (v : Int) : Array Value := ((((((((cs.setIfInBounds (o) (.int .u8 (v / 72057594037927936 % 256))).setIfInBounds (o + 1) (.int .u8 (v / 281474976710656 % 256))).setIfInBounds (o + 2) (.int .u8 (v / 1099511627776 % 256))).setIfInBounds (o + 3) (.int .u8 (v / 4294967296 % 256))).setIfInBounds (o + 4) (.int .u8 (v / 16777216 % 256))).setIfInBounds (o + 5) (.int .u8 (v / 65536 % 256))).setIfInBounds (o + 6) (.int .u8 (v / 256 % 256))).setIfInBounds (o + 7) (.int .u8 (v % 256)))
theorem beS64_size (cs : Array Value) (o : Nat) (v : Int) : (beS64 cs o v).size = cs.size := by simp [beS64]
set_option maxRecDepth 100000 in
theorem beP64_any (g o m c : Nat) (t : TypeId) (cs : Array Value) (v : Int) (w : World) (h : Blk w g t cs) (hs : o + 8 ≤ cs.size) (hn : 8 ≤ m) :
    Calls Tryz.prog 174 #[.slice (some ⟨g, o, none⟩) m c, .int .u64 v] w fun e w' => e = .returned (.tuple #[]) ∧ Blk w' g t (beS64 cs o v) ∧ Fr [g] w w' := by
  obtain ⟨x0, c0⟩ : ∃ x, w.cell? ⟨g, o, none⟩ = some x := ⟨_, (h.cell (o)).trans (Array.getElem?_eq_getElem (by omega))⟩
  have f0 := h.frozen (o)
  obtain ⟨x1, c1⟩ : ∃ x, w.cell? ⟨g, o + 1, none⟩ = some x := ⟨_, (h.cell (o + 1)).trans (Array.getElem?_eq_getElem (by omega))⟩
  have f1 := h.frozen (o + 1)
  obtain ⟨x2, c2⟩ : ∃ x, w.cell? ⟨g, o + 2, none⟩ = some x := ⟨_, (h.cell (o + 2)).trans (Array.getElem?_eq_getElem (by omega))⟩
  have f2 := h.frozen (o + 2)
  obtain ⟨x3, c3⟩ : ∃ x, w.cell? ⟨g, o + 3, none⟩ = some x := ⟨_, (h.cell (o + 3)).trans (Array.getElem?_eq_getElem (by omega))⟩
  have f3 := h.frozen (o + 3)
  obtain ⟨x4, c4⟩ : ∃ x, w.cell? ⟨g, o + 4, none⟩ = some x := ⟨_, (h.cell (o + 4)).trans (Array.getElem?_eq_getElem (by omega))⟩
  have f4 := h.frozen (o + 4)
  obtain ⟨x5, c5⟩ : ∃ x, w.cell? ⟨g, o + 5, none⟩ = some x := ⟨_, (h.cell (o + 5)).trans (Array.getElem?_eq_getElem (by omega))⟩
  have f5 := h.frozen (o + 5)
  obtain ⟨x6, c6⟩ : ∃ x, w.cell? ⟨g, o + 6, none⟩ = some x := ⟨_, (h.cell (o + 6)).trans (Array.getElem?_eq_getElem (by omega))⟩
  have f6 := h.frozen (o + 6)
  obtain ⟨x7, c7⟩ : ∃ x, w.cell? ⟨g, o + 7, none⟩ = some x := ⟨_, (h.cell (o + 7)).trans (Array.getElem?_eq_getElem (by omega))⟩
  have f7 := h.frozen (o + 7)
  have n0 : ((7 : Nat) : Int) < m := by omega
  have k0 : (0 : Int) < m := by omega
  have k1 : (1 : Int) < m := by omega
  have k2 : (2 : Int) < m := by omega
  have k3 : (3 : Int) < m := by omega
  have k4 : (4 : Int) < m := by omega
  have k5 : (5 : Int) < m := by omega
  have k6 : (6 : Int) < m := by omega
  have k7 : (7 : Int) < m := by omega
  have H := Lib.hid h
  clear h
  go_enter Tryz.func174, Tryz.ntmps174
  go_wp2_with fail
  go_end0
  exact ⟨rfl, ((((((((H.out.set_ (o) _).set_ (o + 1) _).set_ (o + 2) _).set_ (o + 3) _).set_ (o + 4) _).set_ (o + 5) _).set_ (o + 6) _).set_ (o + 7) _), ((((((((Fr.refl _ _).setCell (.inl (by simp)) _).setCell (.inl (by simp)) _).setCell (.inl (by simp)) _).setCell (.inl (by simp)) _).setCell (.inl (by simp)) _).setCell (.inl (by simp)) _).setCell (.inl (by simp)) _).setCell (.inl (by simp)) _⟩
set_option maxRecDepth 100000 in
theorem bepD32_any (g o m c : Nat) (t : TypeId) (cs : Array Value) (v : Int) (w : World) (h : Blk w g t cs) (hs : o + 4 ≤ cs.size) (hn : 4 ≤ m) :
    Calls Tryz.prog 172 #[.slice (some ⟨g, o, none⟩) m c, .int .u32 v] w fun e w' => e = .returned (.tuple #[]) ∧ Blk w' g t (beS32 cs o v) ∧ Fr [g] w w' := by
  have H := Lib.hid (beP32_any g o m c t cs v w h hs hn)
  clear h
  go_enter Tryz.func172, Tryz.ntmps172
  go_wp2_with fail
  refine H.out.mono ?_
  rintro e w1 ⟨rfl, h1, h2⟩
  have H1 := Lib.hid h1
  have H2 := Lib.hid h2
  clear h1 h2
  go_wp2_with fail
  go_end0
  exact ⟨rfl, H1.out, H2.out⟩
set_option maxRecDepth 100000 in
theorem bepD64_any (g o m c : Nat) (t : TypeId) (cs : Array Value) (v : Int) (w : World) (h : Blk w g t cs) (hs : o + 8 ≤ cs.size) (hn : 8 ≤ m) :
    Calls Tryz.prog 171 #[.slice (some ⟨g, o, none⟩) m c, .int .u64 v] w fun e w' => e = .returned (.tuple #[]) ∧ Blk w' g t (beS64 cs o v) ∧ Fr [g] w w' := by
  have H := Lib.hid (beP64_any g o m c t cs v w h hs hn)
  clear h
  go_enter Tryz.func171, Tryz.ntmps171
  go_wp2_with fail
  refine H.out.mono ?_
  rintro e w1 ⟨rfl, h1, h2⟩
  have H1 := Lib.hid h1
  have H2 := Lib.hid h2
  clear h1 h2
  go_wp2_with fail
  go_end0
  exact ⟨rfl, H1.out, H2.out⟩
def v0 : V8 := ⟨1779033703, 3144134277, 1013904242, 2773480762, 1359893119, 2600822924, 528734635, 1541459225⟩
def dg0 : Dg := ⟨v0, List.replicate 64 0, 0, 0⟩
theorem dg0_ok : dg0.Ok := ⟨by simp [dg0], by simp [dg0], by simp [dg0], by simp [dg0]⟩
abbrev zDg : Array Value := #[.int .u32 0, .int .u32 0, .int .u32 0, .int .u32 0, .int .u32 0, .int .u32 0, .int .u32 0, .int .u32 0, .int .u8 0, .int .u8 0, .int .u8 0, .int .u8 0, .int .u8 0, .int .u8 0, .int .u8 0, .int .u8 0, .int .u8 0, .int .u8 0, .int .u8 0, .int .u8 0, .int .u8 0, .int .u8 0, .int .u8 0, .int .u8 0, .int .u8 0, .int .u8 0, .int .u8 0, .int .u8 0, .int .u8 0, .int .u8 0, .int .u8 0, .int .u8 0, .int .u8 0, .int .u8 0, .int .u8 0, .int .u8 0, .int .u8 0, .int .u8 0, .int .u8 0, .int .u8 0, .int .u8 0, .int .u8 0, .int .u8 0, .int .u8 0, .int .u8 0, .int .u8 0, .int .u8 0, .int .u8 0, .int .u8 0, .int .u8 0, .int .u8 0, .int .u8 0, .int .u8 0, .int .u8 0, .int .u8 0, .int .u8 0, .int .u8 0, .int .u8 0, .int .u8 0, .int .u8 0, .int .u8 0, .int .u8 0, .int .u8 0, .int .u8 0, .int .u8 0, .int .u8 0, .int .u8 0, .int .u8 0, .int .u8 0, .int .u8 0, .int .u8 0, .int .u8 0, .int .i64 0, .int .u64 0, .bool false]
theorem zDg_eq : zDg = (⟨⟨0, 0, 0, 0, 0, 0, 0, 0⟩, List.replicate 64 0, 0, 0⟩ : Dg).arr := rfl
set_option maxRecDepth 100000 in
set_option maxHeartbeats 2000000 in
theorem digest_Reset (dg : Nat) (D : Dg) (hx : D.x.length = 64) (w : World) (h : Blk w dg 215 D.arr) : Calls Tryz.prog 111 #[.pointer (some ⟨dg, 0, none⟩)] w fun e w' => e = .returned (.tuple #[]) ∧ Blk w' dg 215 (⟨v0, D.x, 0, 0⟩ : Dg).arr ∧ Fr [dg] w w' := by
  obtain ⟨c72, c73, c74⟩ := D.at_nx hx
  have d0 : w.cell? ⟨dg, 0, none⟩ = some (.int .u32 D.v.a) := h.cell 0
  have f0 := h.frozen 0
  have d1 : w.cell? ⟨dg, 1, none⟩ = some (.int .u32 D.v.b) := h.cell 1
  have f1 := h.frozen 1
  have d2 : w.cell? ⟨dg, 2, none⟩ = some (.int .u32 D.v.c) := h.cell 2
  have f2 := h.frozen 2
  have d3 : w.cell? ⟨dg, 3, none⟩ = some (.int .u32 D.v.d) := h.cell 3
  have f3 := h.frozen 3
  have d4 : w.cell? ⟨dg, 4, none⟩ = some (.int .u32 D.v.e) := h.cell 4
  have f4 := h.frozen 4
  have d5 : w.cell? ⟨dg, 5, none⟩ = some (.int .u32 D.v.f) := h.cell 5
  have f5 := h.frozen 5
  have d6 : w.cell? ⟨dg, 6, none⟩ = some (.int .u32 D.v.g) := h.cell 6
  have f6 := h.frozen 6
  have d7 : w.cell? ⟨dg, 7, none⟩ = some (.int .u32 D.v.h) := h.cell 7
  have f7 := h.frozen 7
  have d72 : w.cell? ⟨dg, 72, none⟩ = some (.int .i64 D.nx) := by rw [h.cell, c72]
  have d73 : w.cell? ⟨dg, 73, none⟩ = some (.int .u64 D.len) := by rw [h.cell, c73]
  have d74 : w.cell? ⟨dg, 74, none⟩ = some (.bool false) := by rw [h.cell, c74]
  have f72 := h.frozen 72
  have f73 := h.frozen 73
  have b8 := (((((((h.set_ 0 (.int .u32 v0.a)).set_ 1 (.int .u32 v0.b)).set_ 2 (.int .u32 v0.c)).set_ 3 (.int .u32 v0.d)).set_ 4 (.int .u32 v0.e)).set_ 5 (.int .u32 v0.f)).set_ 6 (.int .u32 v0.g)).set_ 7 (.int .u32 v0.h)
  rw [show D.arr = (D.v.cells ++ D.rest).toArray from rfl, set8 D.v v0 D.rest] at b8
  have b9 := b8.set_ 72 (.int .i64 ((0 : Nat) : Int))
  rw [Dg.set_nx (⟨v0, D.x, D.nx, D.len⟩ : Dg) hx 0] at b9
  have b10 := b9.set_ 73 (.int .u64 ((0 : Nat) : Int))
  rw [Dg.set_len (⟨v0, D.x, 0, D.len⟩ : Dg) hx 0] at b10
  have B := Lib.hid b10
  clear h b8 b9 b10 c72 c73 c74
  go_enter Tryz.func111, Tryz.ntmps111
  go_wp2_with fail
  go_end0
  exact ⟨rfl, B.out, ((((((((((Fr.refl _ _).setCell (.inl (by simp)) _).setCell (.inl (by simp)) _).setCell (.inl (by simp)) _).setCell (.inl (by simp)) _).setCell (.inl (by simp)) _).setCell (.inl (by simp)) _).setCell (.inl (by simp)) _).setCell (.inl (by simp)) _).setCell (.inl (by simp)) _).setCell (.inl (by simp)) _⟩
set_option maxRecDepth 100000 in
theorem sha_new (w : World) : Calls Tryz.prog 99 #[] w fun e w' => e = .returned (.pointer (some ⟨w.heap.size, 0, none⟩)) ∧ Blk w' w.heap.size 215 dg0.arr ∧ Below w.heap.size w w' := by
  obtain ⟨w1, hw1⟩ : ∃ w1, w1 = w.alloc (.cells zDg 215) := ⟨_, rfl⟩
  have b1 : Blk w1 w.heap.size 215 (⟨⟨0, 0, 0, 0, 0, 0, 0, 0⟩, List.replicate 64 0, 0, 0⟩ : Dg).arr := by rw [← zDg_eq, hw1]; exact Blk.new _ _ _
  have RS := Lib.hid (digest_Reset w.heap.size _ (by simp) w1 b1)
  have W1 := Lib.hid hw1
  clear hw1 b1
  go_enter Tryz.func99, Tryz.ntmps99
  go_wp2_with (refine Go.Great.wpList_allocTo rfl (some 2) (by rfl) (.pointer (some ⟨w.heap.size, 0, none⟩)) (.cells zDg 215) (by as_aux_lemma => kernel_rfl) ?_; rw [← W1.out])
  refine RS.out.mono ?_
  rintro e w2 ⟨rfl, h1, h2⟩
  have H1 := Lib.hid h1
  have H2 := Lib.hid h2
  clear h1 h2
  go_wp2_with fail
  go_ret
  refine ⟨rfl, H1.out, ?_⟩
  have f1 : Fr [w.heap.size] w w2 := (show Fr [w.heap.size] w w1 from by rw [W1.out]; exact (Fr.refl _ _).alloc _).trans1 H2.out
  exact ⟨f1.os, f1.tape, f1.output, f1.size, fun k hk => f1.block k hk (by simp; omega)⟩
set_option maxRecDepth 100000 in
theorem sha256_new (w : World) : Calls Tryz.prog 64 #[] w fun e w' => e = .returned (.iface 175 (.pointer (some ⟨w.heap.size, 0, none⟩))) ∧ Blk w' w.heap.size 215 dg0.arr ∧ Below w.heap.size w w' := by
  have H := Lib.hid (sha_new w)
  go_enter Tryz.func64, Tryz.ntmps64
  go_wp2_with fail
  refine H.out.mono ?_
  rintro e w1 ⟨rfl, h1, h2⟩
  have H1 := Lib.hid h1
  have H2 := Lib.hid h2
  clear h1 h2
  go_wp2_with fail
  go_ret
  exact ⟨rfl, H1.out, H2.out⟩
end Go.Proofs.YtedjadicdodahaaGreatDoor

namespace Go.Proofs.YtedjadicdodahaaGreatDoor
open Go.RowKit

def padT (n : Nat) : Nat := if n % 64 < 56 then 56 - n % 64 else 120 - n % 64
def padF (t : Nat) (v : Int) (j : Nat) : Int :=
  if j = t + 7 then v % 256 else if j = t + 6 then v / 256 % 256 else if j = t + 5 then v / 65536 % 256 else if j = t + 4 then v / 16777216 % 256 else if j = t + 3 then v / 4294967296 % 256 else if j = t + 2 then v / 1099511627776 % 256 else if j = t + 1 then v / 281474976710656 % 256 else if j = t then v / 72057594037927936 % 256 else if j = 0 then 128 else 0
def padL (t : Nat) (v : Int) : List Int := (List.range (t + 8)).map (padF t v)
theorem padL_len (t : Nat) (v : Int) : (padL t v).length = t + 8 := by simp [padL]
abbrev z32 : Array Value := #[.int .u8 0, .int .u8 0, .int .u8 0, .int .u8 0, .int .u8 0, .int .u8 0, .int .u8 0, .int .u8 0, .int .u8 0, .int .u8 0, .int .u8 0, .int .u8 0, .int .u8 0, .int .u8 0, .int .u8 0, .int .u8 0, .int .u8 0, .int .u8 0, .int .u8 0, .int .u8 0, .int .u8 0, .int .u8 0, .int .u8 0, .int .u8 0, .int .u8 0, .int .u8 0, .int .u8 0, .int .u8 0, .int .u8 0, .int .u8 0, .int .u8 0, .int .u8 0]
abbrev z72 : Array Value := #[.int .u8 0, .int .u8 0, .int .u8 0, .int .u8 0, .int .u8 0, .int .u8 0, .int .u8 0, .int .u8 0, .int .u8 0, .int .u8 0, .int .u8 0, .int .u8 0, .int .u8 0, .int .u8 0, .int .u8 0, .int .u8 0, .int .u8 0, .int .u8 0, .int .u8 0, .int .u8 0, .int .u8 0, .int .u8 0, .int .u8 0, .int .u8 0, .int .u8 0, .int .u8 0, .int .u8 0, .int .u8 0, .int .u8 0, .int .u8 0, .int .u8 0, .int .u8 0, .int .u8 0, .int .u8 0, .int .u8 0, .int .u8 0, .int .u8 0, .int .u8 0, .int .u8 0, .int .u8 0, .int .u8 0, .int .u8 0, .int .u8 0, .int .u8 0, .int .u8 0, .int .u8 0, .int .u8 0, .int .u8 0, .int .u8 0, .int .u8 0, .int .u8 0, .int .u8 0, .int .u8 0, .int .u8 0, .int .u8 0, .int .u8 0, .int .u8 0, .int .u8 0, .int .u8 0, .int .u8 0, .int .u8 0, .int .u8 0, .int .u8 0, .int .u8 0, .int .u8 0, .int .u8 0, .int .u8 0, .int .u8 0, .int .u8 0, .int .u8 0, .int .u8 0, .int .u8 0]
set_option maxRecDepth 100000 in
theorem z72_at (j : Nat) (h : j < 72) : z72[j]? = some (.int .u8 0) := by
  have : z72 = (List.replicate 72 (Value.int .u8 0)).toArray := rfl
  rw [this, List.getElem?_toArray, List.getElem?_replicate, if_pos h]
set_option maxHeartbeats 4000000 in
theorem pad_gen (Z : Array Value) (hs : Z.size = 72) (hz : ∀ j, j < 72 → Z[j]? = some (.int .u8 0)) (t : Nat) (v : Int) (ht : 1 ≤ t) (ht2 : t ≤ 64) (j : Nat) (z : Int) (hj : (padL t v)[j]? = some z) : (beS64 (Z.setIfInBounds 0 (.int .u8 128)) t v)[j]? = some (.int .u8 z) := by
  unfold padL at hj
  rw [List.getElem?_map, Option.map_eq_some_iff] at hj
  obtain ⟨i, hi, rfl⟩ := hj
  obtain ⟨hlt, he⟩ := List.getElem?_eq_some_iff.1 hi
  rw [List.length_range] at hlt
  rw [List.getElem_range] at he
  subst he
  have hz := hz j (by omega)
  unfold beS64 padF
  simp only [Array.getElem?_setIfInBounds, Array.size_setIfInBounds, hs, hz]
  repeat' split
  all_goals first | rfl | (exfalso; omega)
theorem pad_at (t : Nat) (v : Int) (ht : 1 ≤ t) (ht2 : t ≤ 64) (j : Nat) (z : Int) (hj : (padL t v)[j]? = some z) : (beS64 (z72.setIfInBounds 0 (.int .u8 128)) t v)[j]? = some (.int .u8 z) :=
  pad_gen z72 rfl z72_at t v ht ht2 j z hj
end Go.Proofs.YtedjadicdodahaaGreatDoor

namespace Go.Proofs.YtedjadicdodahaaGreatDoor
open Go.RowKit

def sumOf (v : V8) : Array Value := (beS32 (beS32 (beS32 (beS32 (beS32 (beS32 (beS32 (beS32 z32 0 v.a) 4 v.b) 8 v.c) 12 v.d) 16 v.e) 20 v.f) 24 v.g) 28 v.h)
def sumA (K : List Int) (D : Dg) : Array Value := sumOf (D.wr K (padL (padT D.len) ((D.len : Int) * 8))).v
theorem beS32_one (cs : Array Value) (o : Nat) (v : Int) (h : cs.all (·.oneCell') = true) : (beS32 cs o v).all (·.oneCell') = true := by
  rw [Array.all_eq_true_iff_forall_mem] at h ⊢
  intro x hx
  unfold beS32 at hx
  rcases Array.mem_or_eq_of_mem_setIfInBounds hx with hx | rfl
  · rcases Array.mem_or_eq_of_mem_setIfInBounds hx with hx | rfl
    · rcases Array.mem_or_eq_of_mem_setIfInBounds hx with hx | rfl
      · rcases Array.mem_or_eq_of_mem_setIfInBounds hx with hx | rfl
        · exact h x hx
        · rfl
      · rfl
    · rfl
  · rfl
theorem sumOf_one (v : V8) : (sumOf v).all (·.oneCell') = true := by
  unfold sumOf
  exact beS32_one _ _ _ (beS32_one _ _ _ (beS32_one _ _ _ (beS32_one _ _ _ (beS32_one _ _ _ (beS32_one _ _ _ (beS32_one _ _ _ (beS32_one _ _ _ (by rw [← Array.all_toList]; rfl))))))))
theorem sumOf_size (v : V8) : (sumOf v).size = 32 := by simp [sumOf, beS32_size]
set_option maxRecDepth 1000000 in
set_option maxHeartbeats 8000000 in
theorem checkSum_any (K : List Int) (D : Dg) (dg : Nat) (w : World) (hK : K.length = 64) (hD : D.Ok) (hl : D.len ≤ 10000000000)
    (hd : Blk w dg 215 D.arr) (hk : Blk w 10 250 (K.map (Value.int .u32)).toArray) :
    Calls Tryz.prog 167 #[.pointer (some ⟨dg, 0, none⟩)] w fun e w' => e = .returned (.agg (sumA K D)) ∧ Fr [dg] w w' ∧ w'.cell? ⟨dg, 74, none⟩ = some (.bool false) := by
  obtain ⟨w1, hw1⟩ : ∃ w1, w1 = w.alloc (.cells z32 242) := ⟨_, rfl⟩
  obtain ⟨w2, hw2⟩ : ∃ w2, w2 = w1.alloc (.cells z72 247) := ⟨_, rfl⟩
  have b1 : Below w.heap.size w w1 := by rw [hw1]; exact Below.alloc (Below.refl _ _) (Nat.le_refl _) _
  have b2 : Below w.heap.size w w2 := by rw [hw2]; exact Below.alloc b1 b1.size _
  have s1 : w1.heap.size = w.heap.size + 1 := by rw [hw1]; simp
  have R1 := Lib.hid (show Blk w2 w.heap.size 242 z32 from by rw [hw2, hw1]; exact (Blk.new _ _ _).alloc _)
  have t2 : Blk w2 (w.heap.size + 1) 247 z72 := by rw [← s1, hw2]; exact Blk.new _ _ _
  have d2 := hd.here b2
  have k2 := hk.here b2
  have hdl := hd.lt
  obtain ⟨c72, c73, c74⟩ := D.at_nx hD.x
  have e73 : w1.cell? ⟨dg, 73, none⟩ = some (.int .u64 D.len) := by rw [(hd.here b1).cell, c73]
  have x0 : w2.cell? ⟨w.heap.size + 1, 0, none⟩ = some (.int .u8 0) := t2.cell 0
  have g0 := t2.frozen 0
  have t3 := t2.set_ 0 (.int .u8 128)
  obtain ⟨w3, hw3⟩ : ∃ w3, w3 = w2.setCell ⟨w.heap.size + 1, 0, none⟩ (.int .u8 128) := ⟨_, rfl⟩
  rw [← hw3] at t3
  have f3 : Fr [w.heap.size + 1] w2 w3 := by rw [hw3]; exact (Fr.refl _ _).setCell (.inl (by simp)) _
  obtain ⟨t, ht⟩ : ∃ t, t = padT D.len := ⟨_, rfl⟩
  have ht1 : 1 ≤ t ∧ t ≤ 64 ∧ (D.len + (t + 8)) % 64 = 0 := by
    rw [ht]
    unfold padT
    split <;> omega
  have S1 := Lib.hid s1
  have e73b : w3.cell? ⟨dg, 73, none⟩ = some (.int .u64 D.len) := (f3.cell (show w2.cell? ⟨dg, 73, none⟩ = _ from by rw [d2.cell, c73]) (by simp; omega))
  have W1 := Lib.hid hw1
  have W2 := Lib.hid hw2
  have W3 := Lib.hid hw3
  have T3 := Lib.hid t3
  have F3 := Lib.hid f3
  have HT := Lib.hid ht
  have HKL := Lib.hid hk.lt
  have PUT := Lib.hid (bepD64_any (w.heap.size + 1) t 8 (72 - t) 247 _ ((D.len : Int) * 8) w3 t3 (by simp only [Array.size_setIfInBounds]; show t + 8 ≤ 72; omega) (Nat.le_refl _))
  clear s1 hw1 hw2 hw3 t2 t3 f3 hd hk c72 c73 c74
  by_cases h56 : D.len % 64 < 56
  · have ht2 : t = 56 - D.len % 64 := by rw [ht]; unfold padT; rw [if_pos h56]
    have ht3 : (56 : Int) - (D.len : Int) % 64 = (t : Int) := by omega
    have h57 : (D.len : Int) % 64 < 56 := by omega
    have u0 : IntKind.u64.wrap ((t : Int) + 8) = ((t + 8 : Nat) : Int) := by rw [IntKind.wrap_u64]; omega
    have u1 : (0 : Int) ≤ ((t + 8 : Nat) : Int) := by omega
    have u2 : ((t + 8 : Nat) : Int) ≤ 72 := by omega
    have u3 : ((t : Int) + 8) ≤ 72 := by omega
    have u4 : (0 : Int) ≤ (t : Int) + 8 := by omega
    have u5 : ((t : Int) + 8).toNat = t + 8 := by omega
    clear ht ht2
    go_enter Tryz.func167, Tryz.ntmps167
    go_wp2_with (first | (refine Go.Great.wpList_allocTo rfl (some 2) (by rfl) (.pointer (some ⟨w.heap.size, 0, none⟩)) (.cells z32 242) (by as_aux_lemma => kernel_rfl) ?_; rw [← W1.out]) | (refine Go.Great.wpList_allocTo rfl (some 4) (by rfl) (.pointer (some ⟨w1.heap.size, 0, none⟩)) (.cells z72 247) (by as_aux_lemma => kernel_rfl) ?_; rw [← W2.out, S1.out]))
    rw [← W3.out]
    refine PUT.out.mono ?_
    rintro e w4 ⟨rfl, t4, f4⟩
    have PS4 := Lib.hid (show PS w4 dg (padL t ((D.len : Int) * 8)) (.slice (some ⟨w.heap.size + 1, 0, none⟩) (padL t ((D.len : Int) * 8)).length 72) from
      ⟨w.heap.size + 1, 0, 72, rfl, by rw [padL_len]; omega, by rw [padL_len]; omega, by omega, fun j z hj => by rw [Nat.zero_add, t4.cell]; exact pad_at t _ ht1.1 ht1.2.1 j z hj⟩)
    rw [padL_len] at PS4
    have d4 := (d2.fr F3.out (by simp; omega)).fr f4 (by simp; omega)
    have hkn : 10 ≠ w.heap.size + 1 := by have := HKL.out; omega
    have k4 := (k2.fr F3.out (by simpa using hkn)).fr f4 (by simpa using hkn)
    have WR := Lib.hid (digest_Write K (padL t ((D.len : Int) * 8)) D dg _ (t + 8) w4 hK (padL_len _ _) hD (by omega) d4 k4 PS4.out)
    have L4 := Lib.hid (show Below w.heap.size w w4 from by
      have h9 := ((Fr.refl [w.heap.size + 1] w2).trans1 F3.out).trans1 f4
      exact b2.trans ⟨h9.os, h9.tape, h9.output, Nat.le_trans (by have := h9.size; omega) (Nat.le_refl _), fun k hk => h9.block k (by have := b2.size; omega) (by simp; omega)⟩)
    have R4 := Lib.hid ((R1.out.fr F3.out (by simp)).fr f4 (by simp))
    clear t4 f4 d4 k4 PS4 e73 e73b x0 g0
    go_wp2_with fail
    refine WR.out.mono ?_
    rintro e w5 ⟨rfl, b5, f5⟩
    obtain ⟨D1, hD1⟩ : ∃ D1, D1 = D.wr K (padL t ((D.len : Int) * 8)) := ⟨_, rfl⟩
    rw [← hD1] at b5
    obtain ⟨o1, o2⟩ := Dg.wr_ok hD K (padL t ((D.len : Int) * 8)) (by rw [padL_len]; omega)
    rw [← hD1, padL_len] at o2
    rw [← hD1] at o1
    have nx0 : D1.nx = 0 := by rw [o1.mod, o2]; exact ht1.2.2
    obtain ⟨c72, _, c74⟩ := D1.at_nx o1.x
    rw [nx0] at c72
    have e72 : w5.cell? ⟨dg, 72, none⟩ = some (.int .i64 0) := by rw [b5.cell, c72]; rfl
    have HD1 := Lib.hid hD1
    obtain ⟨gb, hgb⟩ : ∃ gb, gb = w5.heap.size := ⟨_, rfl⟩
    obtain ⟨w6, hw6⟩ : ∃ w6, w6 = w5.alloc (.cells z32 242) := ⟨_, rfl⟩
    have W6 := Lib.hid hw6
    have y0 := Lib.hid (show Blk w6 gb 242 z32 from by rw [hgb, hw6]; exact Blk.new _ _ _)
    have hdgb : dg < gb := by rw [hgb]; exact b5.lt
    have B6 := Lib.hid (show Blk w6 dg 215 D1.arr from by rw [hw6]; exact b5.alloc _)
    have E74 := Lib.hid c74
    have hrgb : w.heap.size < gb := by rw [hgb]; have := f5.size; have := L4.out.size; have := R4.out.lt; omega
    have FF0 := Lib.hid (show Fr [dg] w w6 from by rw [hw6]; exact ((Fr.of_below L4.out).trans1 f5).alloc _)
    have RR0 := Lib.hid (show Blk w6 w.heap.size 242 z32 from by rw [hw6]; exact (R4.out.fr f5 (by simp; omega)).alloc _)
    have HGB := Lib.hid hgb
    clear hD1 hw6 b5 f5 o1 o2 c72 c74 nx0 WR hgb
    go_wp2_with (refine Go.Great.wpList_allocTo rfl (some 7) (by rfl) (.pointer (some ⟨gb, 0, none⟩)) (.cells z32 242) (by rw [HGB.out]; as_aux_lemma => kernel_rfl) ?_; rw [← W6.out])
    clear e72
    obtain ⟨v, hv⟩ : ∃ v, v = D1.v := ⟨_, rfl⟩
    have HV := Lib.hid hv
    clear hv
    have a0 : w6.cell? ⟨dg, 0, none⟩ = some (.int .u32 v.a) := by rw [B6.out.cell, HV.out]; rfl
    have P0 := Lib.hid (bepD32_any gb 0 32 32 242 z32 v.a w6.drew y0.out.drew (by decide) (by omega))
    go_region_held3 (fun W => W.cell? ⟨dg, 0, none⟩ = some (.int .u32 v.a)) (first | exact a0 | exact q0 | go_keep)
      (first | (go_at_call 172; refine P0.out.mono ?_; rintro e w7 ⟨rfl, z0, h0⟩; have q0 : w7.cell? ⟨dg, 0, none⟩ = some (.int .u32 v.a) := h0.cell a0 (by simp; omega)))
    have Y0 := Lib.hid z0
    have B7 := Lib.hid (B6.out.drew.fr h0 (by simp; omega))
    have FF1 := Lib.hid (show Fr [dg] w w7 from FF0.out.drew.trans h0 (by simp; have := FF0.out.size; have := hdgb; have := hrgb; omega))
    have RR1 := Lib.hid (RR0.out.drew.fr h0 (by simp; omega))
    clear a0 q0 z0 h0 P0 y0 FF0 RR0 B6
    go_wp2_with fail
    have a1 : w7.cell? ⟨dg, 1, none⟩ = some (.int .u32 v.b) := by rw [B7.out.cell, HV.out]; rfl
    have P1 := Lib.hid (bepD32_any gb 4 28 28 242 (beS32 z32 0 v.a) v.b w7.drew Y0.out.drew (by simp [beS32_size]) (by omega))
    go_region_held3 (fun W => W.cell? ⟨dg, 1, none⟩ = some (.int .u32 v.b)) (first | exact a1 | exact q1 | go_keep)
      (first | (go_at_call 172; refine P1.out.mono ?_; rintro e w8 ⟨rfl, z1, h1⟩; have q1 : w8.cell? ⟨dg, 1, none⟩ = some (.int .u32 v.b) := h1.cell a1 (by simp; omega)))
    have Y1 := Lib.hid z1
    have B8 := Lib.hid (B7.out.drew.fr h1 (by simp; omega))
    have FF2 := Lib.hid (show Fr [dg] w w8 from FF1.out.drew.trans h1 (by simp; have := FF1.out.size; have := hdgb; have := hrgb; omega))
    have RR2 := Lib.hid (RR1.out.drew.fr h1 (by simp; omega))
    clear a1 q1 z1 h1 P1 Y0 FF1 RR1 B7
    go_wp2_with fail
    have a2 : w8.cell? ⟨dg, 2, none⟩ = some (.int .u32 v.c) := by rw [B8.out.cell, HV.out]; rfl
    have P2 := Lib.hid (bepD32_any gb 8 24 24 242 (beS32 (beS32 z32 0 v.a) 4 v.b) v.c w8.drew Y1.out.drew (by simp [beS32_size]) (by omega))
    go_region_held3 (fun W => W.cell? ⟨dg, 2, none⟩ = some (.int .u32 v.c)) (first | exact a2 | exact q2 | go_keep)
      (first | (go_at_call 172; refine P2.out.mono ?_; rintro e w9 ⟨rfl, z2, h2⟩; have q2 : w9.cell? ⟨dg, 2, none⟩ = some (.int .u32 v.c) := h2.cell a2 (by simp; omega)))
    have Y2 := Lib.hid z2
    have B9 := Lib.hid (B8.out.drew.fr h2 (by simp; omega))
    have FF3 := Lib.hid (show Fr [dg] w w9 from FF2.out.drew.trans h2 (by simp; have := FF2.out.size; have := hdgb; have := hrgb; omega))
    have RR3 := Lib.hid (RR2.out.drew.fr h2 (by simp; omega))
    clear a2 q2 z2 h2 P2 Y1 FF2 RR2 B8
    go_wp2_with fail
    have a3 : w9.cell? ⟨dg, 3, none⟩ = some (.int .u32 v.d) := by rw [B9.out.cell, HV.out]; rfl
    have P3 := Lib.hid (bepD32_any gb 12 20 20 242 (beS32 (beS32 (beS32 z32 0 v.a) 4 v.b) 8 v.c) v.d w9.drew Y2.out.drew (by simp [beS32_size]) (by omega))
    go_region_held3 (fun W => W.cell? ⟨dg, 3, none⟩ = some (.int .u32 v.d)) (first | exact a3 | exact q3 | go_keep)
      (first | (go_at_call 172; refine P3.out.mono ?_; rintro e w10 ⟨rfl, z3, h3⟩; have q3 : w10.cell? ⟨dg, 3, none⟩ = some (.int .u32 v.d) := h3.cell a3 (by simp; omega)))
    have Y3 := Lib.hid z3
    have B10 := Lib.hid (B9.out.drew.fr h3 (by simp; omega))
    have FF4 := Lib.hid (show Fr [dg] w w10 from FF3.out.drew.trans h3 (by simp; have := FF3.out.size; have := hdgb; have := hrgb; omega))
    have RR4 := Lib.hid (RR3.out.drew.fr h3 (by simp; omega))
    clear a3 q3 z3 h3 P3 Y2 FF3 RR3 B9
    go_wp2_with fail
    have a4 : w10.cell? ⟨dg, 4, none⟩ = some (.int .u32 v.e) := by rw [B10.out.cell, HV.out]; rfl
    have P4 := Lib.hid (bepD32_any gb 16 16 16 242 (beS32 (beS32 (beS32 (beS32 z32 0 v.a) 4 v.b) 8 v.c) 12 v.d) v.e w10.drew Y3.out.drew (by simp [beS32_size]) (by omega))
    go_region_held3 (fun W => W.cell? ⟨dg, 4, none⟩ = some (.int .u32 v.e)) (first | exact a4 | exact q4 | go_keep)
      (first | (go_at_call 172; refine P4.out.mono ?_; rintro e w11 ⟨rfl, z4, h4⟩; have q4 : w11.cell? ⟨dg, 4, none⟩ = some (.int .u32 v.e) := h4.cell a4 (by simp; omega)))
    have Y4 := Lib.hid z4
    have B11 := Lib.hid (B10.out.drew.fr h4 (by simp; omega))
    have FF5 := Lib.hid (show Fr [dg] w w11 from FF4.out.drew.trans h4 (by simp; have := FF4.out.size; have := hdgb; have := hrgb; omega))
    have RR5 := Lib.hid (RR4.out.drew.fr h4 (by simp; omega))
    clear a4 q4 z4 h4 P4 Y3 FF4 RR4 B10
    go_wp2_with fail
    have a5 : w11.cell? ⟨dg, 5, none⟩ = some (.int .u32 v.f) := by rw [B11.out.cell, HV.out]; rfl
    have P5 := Lib.hid (bepD32_any gb 20 12 12 242 (beS32 (beS32 (beS32 (beS32 (beS32 z32 0 v.a) 4 v.b) 8 v.c) 12 v.d) 16 v.e) v.f w11.drew Y4.out.drew (by simp [beS32_size]) (by omega))
    go_region_held3 (fun W => W.cell? ⟨dg, 5, none⟩ = some (.int .u32 v.f)) (first | exact a5 | exact q5 | go_keep)
      (first | (go_at_call 172; refine P5.out.mono ?_; rintro e w12 ⟨rfl, z5, h5⟩; have q5 : w12.cell? ⟨dg, 5, none⟩ = some (.int .u32 v.f) := h5.cell a5 (by simp; omega)))
    have Y5 := Lib.hid z5
    have B12 := Lib.hid (B11.out.drew.fr h5 (by simp; omega))
    have FF6 := Lib.hid (show Fr [dg] w w12 from FF5.out.drew.trans h5 (by simp; have := FF5.out.size; have := hdgb; have := hrgb; omega))
    have RR6 := Lib.hid (RR5.out.drew.fr h5 (by simp; omega))
    clear a5 q5 z5 h5 P5 Y4 FF5 RR5 B11
    go_wp2_with fail
    have a6 : w12.cell? ⟨dg, 6, none⟩ = some (.int .u32 v.g) := by rw [B12.out.cell, HV.out]; rfl
    have P6 := Lib.hid (bepD32_any gb 24 8 8 242 (beS32 (beS32 (beS32 (beS32 (beS32 (beS32 z32 0 v.a) 4 v.b) 8 v.c) 12 v.d) 16 v.e) 20 v.f) v.g w12.drew Y5.out.drew (by simp [beS32_size]) (by omega))
    go_region_held3 (fun W => W.cell? ⟨dg, 6, none⟩ = some (.int .u32 v.g)) (first | exact a6 | exact q6 | go_keep)
      (first | (go_at_call 172; refine P6.out.mono ?_; rintro e w13 ⟨rfl, z6, h6⟩; have q6 : w13.cell? ⟨dg, 6, none⟩ = some (.int .u32 v.g) := h6.cell a6 (by simp; omega)))
    have Y6 := Lib.hid z6
    have B13 := Lib.hid (B12.out.drew.fr h6 (by simp; omega))
    have FF7 := Lib.hid (show Fr [dg] w w13 from FF6.out.drew.trans h6 (by simp; have := FF6.out.size; have := hdgb; have := hrgb; omega))
    have RR7 := Lib.hid (RR6.out.drew.fr h6 (by simp; omega))
    clear a6 q6 z6 h6 P6 Y5 FF6 RR6 B12
    have e74 : w13.cell? ⟨dg, 74, none⟩ = some (.bool false) := by rw [B13.out.cell]; exact E74.out
    go_wp2_with fail
    clear e74
    have a7 : w13.cell? ⟨dg, 7, none⟩ = some (.int .u32 v.h) := by rw [B13.out.cell, HV.out]; rfl
    have P7 := Lib.hid (bepD32_any gb 28 4 4 242 (beS32 (beS32 (beS32 (beS32 (beS32 (beS32 (beS32 z32 0 v.a) 4 v.b) 8 v.c) 12 v.d) 16 v.e) 20 v.f) 24 v.g) v.h w13.drew Y6.out.drew (by simp [beS32_size]) (by omega))
    go_region_held3 (fun W => W.cell? ⟨dg, 7, none⟩ = some (.int .u32 v.h)) (first | exact a7 | exact q7 | go_keep)
      (first | (go_at_call 172; refine P7.out.mono ?_; rintro e w14 ⟨rfl, z7, h7⟩; have q7 : w14.cell? ⟨dg, 7, none⟩ = some (.int .u32 v.h) := h7.cell a7 (by simp; omega)))
    have Y7 := Lib.hid z7
    have B14 := Lib.hid (B13.out.drew.fr h7 (by simp; omega))
    have FF8 := Lib.hid (show Fr [dg] w w14 from FF7.out.drew.trans h7 (by simp; have := FF7.out.size; have := hdgb; have := hrgb; omega))
    have RR8 := Lib.hid (RR7.out.drew.fr h7 (by simp; omega))
    clear a7 q7 z7 h7 P7 Y6 FF7 RR7 B13
    obtain ⟨S, hS⟩ : ∃ S, S = sumOf v := ⟨_, rfl⟩
    have YS := Lib.hid (show Blk w14 gb 242 S from by rw [hS]; exact Y7.out)
    have SS := Lib.hid (show (Tryz.prog.info? 242).map (·.size) = some S.size from by rw [hS, sumOf_size]; kernel_rfl)
    have SZ := Lib.hid (show z32.size = S.size from by rw [hS, sumOf_size]; rfl)
    have SO := Lib.hid (show S.all (·.oneCell') = true from by rw [hS]; exact sumOf_one v)
    obtain ⟨wz, hwz⟩ : ∃ wz, wz = w14.setRow w.heap.size S := ⟨_, rfl⟩
    have HWZ := Lib.hid hwz
    have HSA := Lib.hid (show S = sumA K D from by rw [hS, HV.out, HD1.out, HT.out]; rfl)
    clear hS hwz
    go_wp2_with (first | (refine wpList_load_row rfl 242 (.tmp 7) rfl gb rfl 242 S (0, 0) _ YS.out Tryz.underlying242 rfl SS.out ?_) | (refine wpList_store_row rfl 242 (.tmp 2) (.tmp 103) rfl w.heap.size S (by rfl) (by rfl) 242 z32 RR8.out SS.out SZ.out SO.out ?_; rw [← HWZ.out]))
    have RZ := Lib.hid (show Blk wz w.heap.size 242 S from by rw [HWZ.out]; exact setRow_heap _ _ _ _ _ _ RR8.out)
    refine bodyPost_ret (v := .agg S) (results_cell_row rfl _ _ w.heap.size 242 S (0, 0) _ rfl RZ.out Tryz.underlying242 rfl SS.out) rfl ?_
    rw [HSA.out]
    refine ⟨rfl, ?_, ?_⟩
    · rw [HWZ.out]
      exact fr_setRow FF8.out (.inr (Nat.le_refl _)) _
    · have h74 := B14.out.cell 74
      rw [E74.out] at h74
      rw [HWZ.out]
      exact (World.cell?_of_block (a := ⟨dg, 74, none⟩) (setRow_other _ _ _ _ (by show dg ≠ w.heap.size; omega))).trans h74
  · have ht2 : t = 120 - D.len % 64 := by rw [ht]; unfold padT; rw [if_neg h56]
    have ht3 : (120 : Int) - (D.len : Int) % 64 = (t : Int) := by omega
    have h57 : ¬ (D.len : Int) % 64 < 56 := by omega
    have u0 : IntKind.u64.wrap ((t : Int) + 8) = ((t + 8 : Nat) : Int) := by rw [IntKind.wrap_u64]; omega
    have u1 : (0 : Int) ≤ ((t + 8 : Nat) : Int) := by omega
    have u2 : ((t + 8 : Nat) : Int) ≤ 72 := by omega
    have u3 : ((t : Int) + 8) ≤ 72 := by omega
    have u4 : (0 : Int) ≤ (t : Int) + 8 := by omega
    have u5 : ((t : Int) + 8).toNat = t + 8 := by omega
    clear ht ht2
    go_enter Tryz.func167, Tryz.ntmps167
    go_wp2_with (first | (refine Go.Great.wpList_allocTo rfl (some 2) (by rfl) (.pointer (some ⟨w.heap.size, 0, none⟩)) (.cells z32 242) (by as_aux_lemma => kernel_rfl) ?_; rw [← W1.out]) | (refine Go.Great.wpList_allocTo rfl (some 4) (by rfl) (.pointer (some ⟨w1.heap.size, 0, none⟩)) (.cells z72 247) (by as_aux_lemma => kernel_rfl) ?_; rw [← W2.out, S1.out]))
    rw [← W3.out]
    refine PUT.out.mono ?_
    rintro e w4 ⟨rfl, t4, f4⟩
    have PS4 := Lib.hid (show PS w4 dg (padL t ((D.len : Int) * 8)) (.slice (some ⟨w.heap.size + 1, 0, none⟩) (padL t ((D.len : Int) * 8)).length 72) from
      ⟨w.heap.size + 1, 0, 72, rfl, by rw [padL_len]; omega, by rw [padL_len]; omega, by omega, fun j z hj => by rw [Nat.zero_add, t4.cell]; exact pad_at t _ ht1.1 ht1.2.1 j z hj⟩)
    rw [padL_len] at PS4
    have d4 := (d2.fr F3.out (by simp; omega)).fr f4 (by simp; omega)
    have hkn : 10 ≠ w.heap.size + 1 := by have := HKL.out; omega
    have k4 := (k2.fr F3.out (by simpa using hkn)).fr f4 (by simpa using hkn)
    have WR := Lib.hid (digest_Write K (padL t ((D.len : Int) * 8)) D dg _ (t + 8) w4 hK (padL_len _ _) hD (by omega) d4 k4 PS4.out)
    have L4 := Lib.hid (show Below w.heap.size w w4 from by
      have h9 := ((Fr.refl [w.heap.size + 1] w2).trans1 F3.out).trans1 f4
      exact b2.trans ⟨h9.os, h9.tape, h9.output, Nat.le_trans (by have := h9.size; omega) (Nat.le_refl _), fun k hk => h9.block k (by have := b2.size; omega) (by simp; omega)⟩)
    have R4 := Lib.hid ((R1.out.fr F3.out (by simp)).fr f4 (by simp))
    clear t4 f4 d4 k4 PS4 e73 e73b x0 g0
    go_wp2_with fail
    refine WR.out.mono ?_
    rintro e w5 ⟨rfl, b5, f5⟩
    obtain ⟨D1, hD1⟩ : ∃ D1, D1 = D.wr K (padL t ((D.len : Int) * 8)) := ⟨_, rfl⟩
    rw [← hD1] at b5
    obtain ⟨o1, o2⟩ := Dg.wr_ok hD K (padL t ((D.len : Int) * 8)) (by rw [padL_len]; omega)
    rw [← hD1, padL_len] at o2
    rw [← hD1] at o1
    have nx0 : D1.nx = 0 := by rw [o1.mod, o2]; exact ht1.2.2
    obtain ⟨c72, _, c74⟩ := D1.at_nx o1.x
    rw [nx0] at c72
    have e72 : w5.cell? ⟨dg, 72, none⟩ = some (.int .i64 0) := by rw [b5.cell, c72]; rfl
    have HD1 := Lib.hid hD1
    obtain ⟨gb, hgb⟩ : ∃ gb, gb = w5.heap.size := ⟨_, rfl⟩
    obtain ⟨w6, hw6⟩ : ∃ w6, w6 = w5.alloc (.cells z32 242) := ⟨_, rfl⟩
    have W6 := Lib.hid hw6
    have y0 := Lib.hid (show Blk w6 gb 242 z32 from by rw [hgb, hw6]; exact Blk.new _ _ _)
    have hdgb : dg < gb := by rw [hgb]; exact b5.lt
    have B6 := Lib.hid (show Blk w6 dg 215 D1.arr from by rw [hw6]; exact b5.alloc _)
    have E74 := Lib.hid c74
    have hrgb : w.heap.size < gb := by rw [hgb]; have := f5.size; have := L4.out.size; have := R4.out.lt; omega
    have FF0 := Lib.hid (show Fr [dg] w w6 from by rw [hw6]; exact ((Fr.of_below L4.out).trans1 f5).alloc _)
    have RR0 := Lib.hid (show Blk w6 w.heap.size 242 z32 from by rw [hw6]; exact (R4.out.fr f5 (by simp; omega)).alloc _)
    have HGB := Lib.hid hgb
    clear hD1 hw6 b5 f5 o1 o2 c72 c74 nx0 WR hgb
    go_wp2_with (refine Go.Great.wpList_allocTo rfl (some 7) (by rfl) (.pointer (some ⟨gb, 0, none⟩)) (.cells z32 242) (by rw [HGB.out]; as_aux_lemma => kernel_rfl) ?_; rw [← W6.out])
    clear e72
    obtain ⟨v, hv⟩ : ∃ v, v = D1.v := ⟨_, rfl⟩
    have HV := Lib.hid hv
    clear hv
    have a0 : w6.cell? ⟨dg, 0, none⟩ = some (.int .u32 v.a) := by rw [B6.out.cell, HV.out]; rfl
    have P0 := Lib.hid (bepD32_any gb 0 32 32 242 z32 v.a w6.drew y0.out.drew (by decide) (by omega))
    go_region_held3 (fun W => W.cell? ⟨dg, 0, none⟩ = some (.int .u32 v.a)) (first | exact a0 | exact q0 | go_keep)
      (first | (go_at_call 172; refine P0.out.mono ?_; rintro e w7 ⟨rfl, z0, h0⟩; have q0 : w7.cell? ⟨dg, 0, none⟩ = some (.int .u32 v.a) := h0.cell a0 (by simp; omega)))
    have Y0 := Lib.hid z0
    have B7 := Lib.hid (B6.out.drew.fr h0 (by simp; omega))
    have FF1 := Lib.hid (show Fr [dg] w w7 from FF0.out.drew.trans h0 (by simp; have := FF0.out.size; have := hdgb; have := hrgb; omega))
    have RR1 := Lib.hid (RR0.out.drew.fr h0 (by simp; omega))
    clear a0 q0 z0 h0 P0 y0 FF0 RR0 B6
    go_wp2_with fail
    have a1 : w7.cell? ⟨dg, 1, none⟩ = some (.int .u32 v.b) := by rw [B7.out.cell, HV.out]; rfl
    have P1 := Lib.hid (bepD32_any gb 4 28 28 242 (beS32 z32 0 v.a) v.b w7.drew Y0.out.drew (by simp [beS32_size]) (by omega))
    go_region_held3 (fun W => W.cell? ⟨dg, 1, none⟩ = some (.int .u32 v.b)) (first | exact a1 | exact q1 | go_keep)
      (first | (go_at_call 172; refine P1.out.mono ?_; rintro e w8 ⟨rfl, z1, h1⟩; have q1 : w8.cell? ⟨dg, 1, none⟩ = some (.int .u32 v.b) := h1.cell a1 (by simp; omega)))
    have Y1 := Lib.hid z1
    have B8 := Lib.hid (B7.out.drew.fr h1 (by simp; omega))
    have FF2 := Lib.hid (show Fr [dg] w w8 from FF1.out.drew.trans h1 (by simp; have := FF1.out.size; have := hdgb; have := hrgb; omega))
    have RR2 := Lib.hid (RR1.out.drew.fr h1 (by simp; omega))
    clear a1 q1 z1 h1 P1 Y0 FF1 RR1 B7
    go_wp2_with fail
    have a2 : w8.cell? ⟨dg, 2, none⟩ = some (.int .u32 v.c) := by rw [B8.out.cell, HV.out]; rfl
    have P2 := Lib.hid (bepD32_any gb 8 24 24 242 (beS32 (beS32 z32 0 v.a) 4 v.b) v.c w8.drew Y1.out.drew (by simp [beS32_size]) (by omega))
    go_region_held3 (fun W => W.cell? ⟨dg, 2, none⟩ = some (.int .u32 v.c)) (first | exact a2 | exact q2 | go_keep)
      (first | (go_at_call 172; refine P2.out.mono ?_; rintro e w9 ⟨rfl, z2, h2⟩; have q2 : w9.cell? ⟨dg, 2, none⟩ = some (.int .u32 v.c) := h2.cell a2 (by simp; omega)))
    have Y2 := Lib.hid z2
    have B9 := Lib.hid (B8.out.drew.fr h2 (by simp; omega))
    have FF3 := Lib.hid (show Fr [dg] w w9 from FF2.out.drew.trans h2 (by simp; have := FF2.out.size; have := hdgb; have := hrgb; omega))
    have RR3 := Lib.hid (RR2.out.drew.fr h2 (by simp; omega))
    clear a2 q2 z2 h2 P2 Y1 FF2 RR2 B8
    go_wp2_with fail
    have a3 : w9.cell? ⟨dg, 3, none⟩ = some (.int .u32 v.d) := by rw [B9.out.cell, HV.out]; rfl
    have P3 := Lib.hid (bepD32_any gb 12 20 20 242 (beS32 (beS32 (beS32 z32 0 v.a) 4 v.b) 8 v.c) v.d w9.drew Y2.out.drew (by simp [beS32_size]) (by omega))
    go_region_held3 (fun W => W.cell? ⟨dg, 3, none⟩ = some (.int .u32 v.d)) (first | exact a3 | exact q3 | go_keep)
      (first | (go_at_call 172; refine P3.out.mono ?_; rintro e w10 ⟨rfl, z3, h3⟩; have q3 : w10.cell? ⟨dg, 3, none⟩ = some (.int .u32 v.d) := h3.cell a3 (by simp; omega)))
    have Y3 := Lib.hid z3
    have B10 := Lib.hid (B9.out.drew.fr h3 (by simp; omega))
    have FF4 := Lib.hid (show Fr [dg] w w10 from FF3.out.drew.trans h3 (by simp; have := FF3.out.size; have := hdgb; have := hrgb; omega))
    have RR4 := Lib.hid (RR3.out.drew.fr h3 (by simp; omega))
    clear a3 q3 z3 h3 P3 Y2 FF3 RR3 B9
    go_wp2_with fail
    have a4 : w10.cell? ⟨dg, 4, none⟩ = some (.int .u32 v.e) := by rw [B10.out.cell, HV.out]; rfl
    have P4 := Lib.hid (bepD32_any gb 16 16 16 242 (beS32 (beS32 (beS32 (beS32 z32 0 v.a) 4 v.b) 8 v.c) 12 v.d) v.e w10.drew Y3.out.drew (by simp [beS32_size]) (by omega))
    go_region_held3 (fun W => W.cell? ⟨dg, 4, none⟩ = some (.int .u32 v.e)) (first | exact a4 | exact q4 | go_keep)
      (first | (go_at_call 172; refine P4.out.mono ?_; rintro e w11 ⟨rfl, z4, h4⟩; have q4 : w11.cell? ⟨dg, 4, none⟩ = some (.int .u32 v.e) := h4.cell a4 (by simp; omega)))
    have Y4 := Lib.hid z4
    have B11 := Lib.hid (B10.out.drew.fr h4 (by simp; omega))
    have FF5 := Lib.hid (show Fr [dg] w w11 from FF4.out.drew.trans h4 (by simp; have := FF4.out.size; have := hdgb; have := hrgb; omega))
    have RR5 := Lib.hid (RR4.out.drew.fr h4 (by simp; omega))
    clear a4 q4 z4 h4 P4 Y3 FF4 RR4 B10
    go_wp2_with fail
    have a5 : w11.cell? ⟨dg, 5, none⟩ = some (.int .u32 v.f) := by rw [B11.out.cell, HV.out]; rfl
    have P5 := Lib.hid (bepD32_any gb 20 12 12 242 (beS32 (beS32 (beS32 (beS32 (beS32 z32 0 v.a) 4 v.b) 8 v.c) 12 v.d) 16 v.e) v.f w11.drew Y4.out.drew (by simp [beS32_size]) (by omega))
    go_region_held3 (fun W => W.cell? ⟨dg, 5, none⟩ = some (.int .u32 v.f)) (first | exact a5 | exact q5 | go_keep)
      (first | (go_at_call 172; refine P5.out.mono ?_; rintro e w12 ⟨rfl, z5, h5⟩; have q5 : w12.cell? ⟨dg, 5, none⟩ = some (.int .u32 v.f) := h5.cell a5 (by simp; omega)))
    have Y5 := Lib.hid z5
    have B12 := Lib.hid (B11.out.drew.fr h5 (by simp; omega))
    have FF6 := Lib.hid (show Fr [dg] w w12 from FF5.out.drew.trans h5 (by simp; have := FF5.out.size; have := hdgb; have := hrgb; omega))
    have RR6 := Lib.hid (RR5.out.drew.fr h5 (by simp; omega))
    clear a5 q5 z5 h5 P5 Y4 FF5 RR5 B11
    go_wp2_with fail
    have a6 : w12.cell? ⟨dg, 6, none⟩ = some (.int .u32 v.g) := by rw [B12.out.cell, HV.out]; rfl
    have P6 := Lib.hid (bepD32_any gb 24 8 8 242 (beS32 (beS32 (beS32 (beS32 (beS32 (beS32 z32 0 v.a) 4 v.b) 8 v.c) 12 v.d) 16 v.e) 20 v.f) v.g w12.drew Y5.out.drew (by simp [beS32_size]) (by omega))
    go_region_held3 (fun W => W.cell? ⟨dg, 6, none⟩ = some (.int .u32 v.g)) (first | exact a6 | exact q6 | go_keep)
      (first | (go_at_call 172; refine P6.out.mono ?_; rintro e w13 ⟨rfl, z6, h6⟩; have q6 : w13.cell? ⟨dg, 6, none⟩ = some (.int .u32 v.g) := h6.cell a6 (by simp; omega)))
    have Y6 := Lib.hid z6
    have B13 := Lib.hid (B12.out.drew.fr h6 (by simp; omega))
    have FF7 := Lib.hid (show Fr [dg] w w13 from FF6.out.drew.trans h6 (by simp; have := FF6.out.size; have := hdgb; have := hrgb; omega))
    have RR7 := Lib.hid (RR6.out.drew.fr h6 (by simp; omega))
    clear a6 q6 z6 h6 P6 Y5 FF6 RR6 B12
    have e74 : w13.cell? ⟨dg, 74, none⟩ = some (.bool false) := by rw [B13.out.cell]; exact E74.out
    go_wp2_with fail
    clear e74
    have a7 : w13.cell? ⟨dg, 7, none⟩ = some (.int .u32 v.h) := by rw [B13.out.cell, HV.out]; rfl
    have P7 := Lib.hid (bepD32_any gb 28 4 4 242 (beS32 (beS32 (beS32 (beS32 (beS32 (beS32 (beS32 z32 0 v.a) 4 v.b) 8 v.c) 12 v.d) 16 v.e) 20 v.f) 24 v.g) v.h w13.drew Y6.out.drew (by simp [beS32_size]) (by omega))
    go_region_held3 (fun W => W.cell? ⟨dg, 7, none⟩ = some (.int .u32 v.h)) (first | exact a7 | exact q7 | go_keep)
      (first | (go_at_call 172; refine P7.out.mono ?_; rintro e w14 ⟨rfl, z7, h7⟩; have q7 : w14.cell? ⟨dg, 7, none⟩ = some (.int .u32 v.h) := h7.cell a7 (by simp; omega)))
    have Y7 := Lib.hid z7
    have B14 := Lib.hid (B13.out.drew.fr h7 (by simp; omega))
    have FF8 := Lib.hid (show Fr [dg] w w14 from FF7.out.drew.trans h7 (by simp; have := FF7.out.size; have := hdgb; have := hrgb; omega))
    have RR8 := Lib.hid (RR7.out.drew.fr h7 (by simp; omega))
    clear a7 q7 z7 h7 P7 Y6 FF7 RR7 B13
    obtain ⟨S, hS⟩ : ∃ S, S = sumOf v := ⟨_, rfl⟩
    have YS := Lib.hid (show Blk w14 gb 242 S from by rw [hS]; exact Y7.out)
    have SS := Lib.hid (show (Tryz.prog.info? 242).map (·.size) = some S.size from by rw [hS, sumOf_size]; kernel_rfl)
    have SZ := Lib.hid (show z32.size = S.size from by rw [hS, sumOf_size]; rfl)
    have SO := Lib.hid (show S.all (·.oneCell') = true from by rw [hS]; exact sumOf_one v)
    obtain ⟨wz, hwz⟩ : ∃ wz, wz = w14.setRow w.heap.size S := ⟨_, rfl⟩
    have HWZ := Lib.hid hwz
    have HSA := Lib.hid (show S = sumA K D from by rw [hS, HV.out, HD1.out, HT.out]; rfl)
    clear hS hwz
    go_wp2_with (first | (refine wpList_load_row rfl 242 (.tmp 7) rfl gb rfl 242 S (0, 0) _ YS.out Tryz.underlying242 rfl SS.out ?_) | (refine wpList_store_row rfl 242 (.tmp 2) (.tmp 103) rfl w.heap.size S (by rfl) (by rfl) 242 z32 RR8.out SS.out SZ.out SO.out ?_; rw [← HWZ.out]))
    have RZ := Lib.hid (show Blk wz w.heap.size 242 S from by rw [HWZ.out]; exact setRow_heap _ _ _ _ _ _ RR8.out)
    refine bodyPost_ret (v := .agg S) (results_cell_row rfl _ _ w.heap.size 242 S (0, 0) _ rfl RZ.out Tryz.underlying242 rfl SS.out) rfl ?_
    rw [HSA.out]
    refine ⟨rfl, ?_, ?_⟩
    · rw [HWZ.out]
      exact fr_setRow FF8.out (.inr (Nat.le_refl _)) _
    · have h74 := B14.out.cell 74
      rw [E74.out] at h74
      rw [HWZ.out]
      exact (World.cell?_of_block (a := ⟨dg, 74, none⟩) (setRow_other _ _ _ _ (by show dg ≠ w.heap.size; omega))).trans h74
end Go.Proofs.YtedjadicdodahaaGreatDoor
