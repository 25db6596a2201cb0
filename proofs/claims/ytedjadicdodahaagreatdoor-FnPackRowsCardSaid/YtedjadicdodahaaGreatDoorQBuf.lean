/- bytes.Buffer: the row of its bytes told; nothing else turns. (printed by gen_pbuf.py) -/
import Derived.Deep.RegionWith
import Derived.Lib.SlBytesConst
import Derived.Lib.BufferSrc
import Derived.Lib.BufferWrite
import Derived.Laws.IdiomCopy
import Derived.Laws.CopyRow
import Derived.BigCall
import Derived.BigGuard
import Derived.Test.YtedjadicdodahaaGreatDoorQOwn
import Derived.Test.YtedjadicdodahaaGreatDoorShelf
namespace Go.Proofs.YtedjadicdodahaaGreatDoor
open Go.RowKit

/-- What grow leaves: the new row is the next block. -/
def Grown (T : TypeId) (R : Nat → Option Value) (b q l n : Nat) (xs : List Value) (w : World) (e : Ending) (w' : World) : Prop :=
  e = .returned (.int .i64 l) ∧ ∃ lr cap2 cells, LibA.Three w' b q T R (.slice (some ⟨w.heap.size, 0, none⟩) (l + n) cap2) (.int .i64 0) (.int .i8 lr) ∧ w'.heap[w.heap.size]? = some (.cells cells 5 (0, 0)) ∧
    cells.size = cap2 ∧ cells.toList.take l = xs ∧ l + n ≤ cap2 ∧ cap2 ≤ maxLen ∧ Fr [b] w w'

set_option maxHeartbeats 12800000 in
set_option maxRecDepth 100000 in
theorem buf_grow_rowl (T : TypeId) (R : Nat → Option Value) (b q g l cap n : Nat) (lr : Int) (cur : Array Value) (bs : List Value) (w : World) (hl0 : 1 ≤ l) 
    (hbk : LibA.Three w b q T R (.slice (some ⟨g, 0, none⟩) l cap) (.int .i64 0) (.int .i8 lr)) (hl : bs.length = l) (hg : w.heap[g]? = some (.cells cur 5 (0, 0))) (hlc : l ≤ cap) (hcm : cap ≤ maxLen) (hcs : cur.size = cap) (htake : cur.toList.take l = bs) (hgb : g ≠ b)
    (h1 : ∀ v ∈ bs, v.oneCell' = true) (hn : 1 ≤ n) (hroom : cap - l < n) (hlim : l + n ≤ 140737488355328) :
    Calls Tryz.prog 95 #[.pointer (some ⟨b, q, none⟩), .int .i64 n] w (Grown T R b q l n bs w) := by
  have hIs : LibA.IsBuffer T R 5 0 b q bs w := ⟨Nat.zero_le _, _, _, hbk, ⟨by rw [hl, Nat.mul_one], .inr ⟨g, cap, cur, by rw [hl], Nat.zero_le _, hg, by omega, hcm, by omega, by rw [hl, Nat.mul_one]; exact htake⟩⟩, by simp [Value.ownBlock]; exact hgb⟩
  have hnil : ∀ W, (binOp .eql 70 (.slice (some ⟨g, 0, none⟩) l cap) (.slice none 0 0)).run Tryz.prog W = .ok (.bool false) W := fun W => Lib.run_eql_slice_some_nil W _ _ _ Tryz.underlying70
  have mixed : Tryz.prog.follows .mixedOrders = true := by kernel_rfl
  go_enter Tryz.func95, Tryz.ntmps95
  go_wp2_with (go_at_call 107; refine (Tryz.Buffer_Len_at T R 0 b q bs _ hIs).mono ?_)
  rintro e W0 ⟨rfl, k, hW0⟩
  rw [hl]
  have hbk0 : LibA.Three W0 b q T R (.slice (some ⟨g, 0, none⟩) l cap) (.int .i64 0) (.int .i8 lr) := by rw [hW0]; exact hbk
  have hg0 : W0.heap[g]? = some (.cells cur 5 (0, 0)) := by rw [hW0]; exact hg
  have c0 : W0.cell? ⟨b, q, none⟩ = some (.slice (some ⟨g, 0, none⟩) l cap) := hbk0.c0
  have c1 : W0.cell? ⟨b, q + 1, none⟩ = some (.int .i64 0) := hbk0.c1
  have f0 : W0.frozen? ⟨b, q, none⟩ = false := hbk0.f q
  have f1 : W0.frozen? ⟨b, q + 1, none⟩ = false := hbk0.f (q + 1)
  have HW0 := Lib.hid hW0
  have HTK := Lib.hid htake
  have h1' : ∀ v ∈ cur.toList.take l, v.oneCell' = true := by rw [htake]; exact h1
  clear hW0 hIs htake
  have hcm' := hcm
  unfold maxLen at hcm'
  go_wp2_with (go_at_call 94; refine (Tryz.Buffer_tryGrow_none_at b q _ l cap n _ c0 hlc hcm hroom).mono ?_; rintro e w' ⟨rfl, rfl⟩)
  have hc2 : cap ≤ 140737488355328 := by omega
  have hbW := hbk0.lt
  have hwn : IntKind.i64.wrap (n : Int) = n := by rw [IntKind.wrap_i64]; omega
  go_region_with_o (
      go_at_call 109
      refine (Tryz.bytes_growSlice_row g l cap n cur _ ?_ hcs hlc hn hlim hc2 h1').mono ?_
      exact hg0
      rintro e w2 ⟨cap2, cells, rfl, hN, hcsz, htk, hcap2, hcm2, hbel⟩
      have hbk2 : LibA.Three w2 b q T R (.slice (some ⟨g, 0, none⟩) l cap) (.int .i64 0) (.int .i8 lr) := hbk0.of_heap (hbel.block b hbW)
      have d0 : w2.cell? ⟨b, q, none⟩ = some (.slice (some ⟨g, 0, none⟩) l cap) := hbk2.c0
      have d1 : w2.cell? ⟨b, q + 1, none⟩ = some (.int .i64 0) := hbk2.c1
      have e0 : w2.frozen? ⟨b, q, none⟩ = false := hbk2.f q
      have e1 : w2.frozen? ⟨b, q + 1, none⟩ = false := hbk2.f (q + 1))
  all_goals (
    go_wp2
    go_ret
    have hsz0 : w'.heap.size = w.heap.size := by rw [HW0.out]; rfl
    have hf0 : Fr [b] w w2 := (show Fr [b] w w'.drew from by rw [HW0.out]; exact ⟨rfl, rfl, rfl, Nat.le_refl _, fun _ _ _ => rfl⟩).trans0 hbel
    have hNb : w'.heap.size ≠ b := by omega
    refine ⟨rfl, lr, cap2, cells, ?_, ?_, hcsz, htk.trans HTK.out, hcap2, hcm2, ?_⟩
    · rw [← hsz0]
      exact ((hbk2.set0 _).set1 _).set0 _
    · rw [← hsz0, Below.heap_setCell _ _ _ _ hNb, Below.heap_setCell _ _ _ _ hNb, Below.heap_setCell _ _ _ _ hNb]
      exact hN
    · exact ((hf0.setCell (.inl (by simp)) _).setCell (.inl (by simp)) _).setCell (.inl (by simp)) _)
end Go.Proofs.YtedjadicdodahaaGreatDoor

namespace Go.Proofs.YtedjadicdodahaaGreatDoor
open Go.RowKit


set_option maxHeartbeats 12800000 in
set_option maxRecDepth 100000 in
theorem buf_grow_row0 (T : TypeId) (R : Nat → Option Value) (b q g cap n : Nat) (lr : Int) (cur : Array Value) (bs : List Value) (w : World) 
    (hbk : LibA.Three w b q T R (.slice (some ⟨g, 0, none⟩) 0 cap) (.int .i64 0) (.int .i8 lr)) (hl : bs.length = 0) (hg : w.heap[g]? = some (.cells cur 5 (0, 0))) (hlc : 0 ≤ cap) (hcm : cap ≤ maxLen) (hcs : cur.size = cap) (htake : cur.toList.take 0 = bs) (hgb : g ≠ b)
    (h1 : ∀ v ∈ bs, v.oneCell' = true) (hn : 1 ≤ n) (hroom : cap - 0 < n) (hlim : 0 + n ≤ 140737488355328) :
    Calls Tryz.prog 95 #[.pointer (some ⟨b, q, none⟩), .int .i64 n] w (Grown T R b q 0 n bs w) := by
  have hIs : LibA.IsBuffer T R 5 0 b q bs w := ⟨Nat.zero_le _, _, _, hbk, ⟨by rw [hl, Nat.mul_one], .inr ⟨g, cap, cur, by rw [hl], Nat.zero_le _, hg, by omega, hcm, by omega, by rw [hl, Nat.mul_one]; exact htake⟩⟩, by simp [Value.ownBlock]; exact hgb⟩
  have hnil : ∀ W, (binOp .eql 70 (.slice (some ⟨g, 0, none⟩) 0 cap) (.slice none 0 0)).run Tryz.prog W = .ok (.bool false) W := fun W => Lib.run_eql_slice_some_nil W _ _ _ Tryz.underlying70
  have mixed : Tryz.prog.follows .mixedOrders = true := by kernel_rfl
  go_enter Tryz.func95, Tryz.ntmps95
  go_wp2_with (go_at_call 107; refine (Tryz.Buffer_Len_at T R 0 b q bs _ hIs).mono ?_)
  rintro e W0 ⟨rfl, k, hW0⟩
  rw [hl]
  have hbk0 : LibA.Three W0 b q T R (.slice (some ⟨g, 0, none⟩) 0 cap) (.int .i64 0) (.int .i8 lr) := by rw [hW0]; exact hbk
  have hg0 : W0.heap[g]? = some (.cells cur 5 (0, 0)) := by rw [hW0]; exact hg
  have c0 : W0.cell? ⟨b, q, none⟩ = some (.slice (some ⟨g, 0, none⟩) 0 cap) := hbk0.c0
  have c1 : W0.cell? ⟨b, q + 1, none⟩ = some (.int .i64 0) := hbk0.c1
  have f0 : W0.frozen? ⟨b, q, none⟩ = false := hbk0.f q
  have f1 : W0.frozen? ⟨b, q + 1, none⟩ = false := hbk0.f (q + 1)
  have HW0 := Lib.hid hW0
  have HTK := Lib.hid htake
  have h1' : ∀ v ∈ cur.toList.take 0, v.oneCell' = true := by rw [htake]; exact h1
  clear hW0 hIs htake
  have hcm' := hcm
  unfold maxLen at hcm'
  go_wp2_with (go_at_call 94; refine (Tryz.Buffer_tryGrow_none_at b q _ 0 cap n _ c0 hlc hcm hroom).mono ?_; rintro e w' ⟨rfl, rfl⟩)
  have hc2 : cap ≤ 140737488355328 := by omega
  have hbW := hbk0.lt
  have hwn : IntKind.i64.wrap (n : Int) = n := by rw [IntKind.wrap_i64]; omega
  go_region_with_o (
      go_at_call 109
      refine (Tryz.bytes_growSlice_row g 0 cap n cur _ ?_ hcs hlc hn hlim hc2 h1').mono ?_
      exact hg0
      rintro e w2 ⟨cap2, cells, rfl, hN, hcsz, htk, hcap2, hcm2, hbel⟩
      have hbk2 : LibA.Three w2 b q T R (.slice (some ⟨g, 0, none⟩) 0 cap) (.int .i64 0) (.int .i8 lr) := hbk0.of_heap (hbel.block b hbW)
      have d0 : w2.cell? ⟨b, q, none⟩ = some (.slice (some ⟨g, 0, none⟩) 0 cap) := hbk2.c0
      have d1 : w2.cell? ⟨b, q + 1, none⟩ = some (.int .i64 0) := hbk2.c1
      have e0 : w2.frozen? ⟨b, q, none⟩ = false := hbk2.f q
      have e1 : w2.frozen? ⟨b, q + 1, none⟩ = false := hbk2.f (q + 1))
  all_goals (
    go_wp2
    go_ret
    have hsz0 : w'.heap.size = w.heap.size := by rw [HW0.out]; rfl
    have hf0 : Fr [b] w w2 := (show Fr [b] w w'.drew from by rw [HW0.out]; exact ⟨rfl, rfl, rfl, Nat.le_refl _, fun _ _ _ => rfl⟩).trans0 hbel
    have hNb : w'.heap.size ≠ b := by omega
    refine ⟨rfl, lr, cap2, cells, ?_, ?_, hcsz, htk.trans HTK.out, hcap2, hcm2, ?_⟩
    · rw [← hsz0]
      exact by simpa using ((hbk2.set0 _).set1 _).set0 _
    · rw [← hsz0, Below.heap_setCell _ _ _ _ hNb, Below.heap_setCell _ _ _ _ hNb, Below.heap_setCell _ _ _ _ hNb]
      exact hN
    · exact ((hf0.setCell (.inl (by simp)) _).setCell (.inl (by simp)) _).setCell (.inl (by simp)) _)
end Go.Proofs.YtedjadicdodahaaGreatDoor

namespace Go.Proofs.YtedjadicdodahaaGreatDoor
open Go.RowKit

theorem Tryz.infoU8p : (Tryz.prog.info? 5).map (fun i => (i.zero, i.size, i.bytes)) = some (some (.int .u8 0), 1, 1) := by kernel_rfl

set_option maxHeartbeats 12800000 in
set_option maxRecDepth 100000 in
theorem buf_grow_nil_small (T : TypeId) (R : Nat → Option Value) (b q n : Nat) (lr : Int) (w : World)
    (hbk : LibA.Three w b q T R (.slice none 0 0) (.int .i64 0) (.int .i8 lr)) (hn : 1 ≤ n) (h64 : n ≤ 64) :
    Calls Tryz.prog 95 #[.pointer (some ⟨b, q, none⟩), .int .i64 n] w (Grown T R b q 0 n [] w) := by
  obtain ⟨i0, hi, hz0, hz1, hz2⟩ := info_parts Tryz.infoU8p
  obtain ⟨M, hM⟩ : ∃ M, M = madeCells (Value.int .u8 0).cells ((64 : Int).toNat * i0.size) := ⟨_, rfl⟩
  have hMs : M.size = 64 := by rw [hM, size_madeCells, hz1]; rfl
  have hmk : ∀ W : World, (Instr.makeSlice 70 (.int .i64 (n : Int)) (.int .i64 64)).run Tryz.prog W = .ok (.slice (some ⟨W.heap.size, 0, none⟩) n 64) (W.alloc (.cells M 5)) := fun W => by
    have h := run_makeSlice (P := Tryz.prog) W 70 5 i0 (.int .u8 0) Tryz.underlying70 hi hz0 .i64 .i64 (n : Int) 64 (by omega) (by omega) (by rw [hz1]; decide) (by rw [hz2]; decide) (by decide)
    rw [← hM] at h
    simpa using h
  clear hM
  have hIs : LibA.IsBuffer T R 5 0 b q [] w := ⟨Nat.zero_le _, _, _, hbk, World.ownsRow_nil _ _ _ _, by simp [Value.ownBlock]⟩
  have hnil : ∀ W, (binOp .eql 70 (.slice none 0 0) (.slice none 0 0)).run Tryz.prog W = .ok (.bool true) W := fun W => Lib.run_eql_slice_nil_nil W _ _ Tryz.underlying70
  go_enter Tryz.func95, Tryz.ntmps95
  go_wp2_with (go_at_call 107; refine (Tryz.Buffer_Len_at T R 0 b q [] _ hIs).mono ?_)
  rintro e W0 ⟨rfl, k, hW0⟩
  have hbk0 : LibA.Three W0 b q T R (.slice none 0 0) (.int .i64 0) (.int .i8 lr) := by rw [hW0]; exact hbk
  have c0 : W0.cell? ⟨b, q, none⟩ = some (.slice none 0 0) := hbk0.c0
  have c1 : W0.cell? ⟨b, q + 1, none⟩ = some (.int .i64 0) := hbk0.c1
  have f0 : W0.frozen? ⟨b, q, none⟩ = false := hbk0.f q
  have f1 : W0.frozen? ⟨b, q + 1, none⟩ = false := hbk0.f (q + 1)
  have hbW0 := hbk0.lt
  have c0a : ∀ o, (W0.alloc o).cell? ⟨b, q, none⟩ = some (.slice none 0 0) := fun o => (World.cell?_of_block (a := ⟨b, q, none⟩) (Below.heap_alloc W0 o b hbW0)).trans c0
  have f0a : ∀ o, (W0.alloc o).frozen? ⟨b, q, none⟩ = false := fun o => (World.frozen?_of_block (a := ⟨b, q, none⟩) (Below.heap_alloc W0 o b hbW0)).trans f0
  have HW0 := Lib.hid hW0
  clear hW0 hIs
  go_wp2_with (go_at_call 94; refine (Tryz.Buffer_tryGrow_none_at b q _ 0 0 n _ c0 (Nat.le_refl _) (Nat.zero_le _) (by omega)).mono ?_; rintro e w' ⟨rfl, rfl⟩)
  go_ret
  have hsz0 : w'.heap.size = w.heap.size := by rw [HW0.out]; rfl
  have hf0 : Fr [b] w w' := by rw [HW0.out]; exact ⟨rfl, rfl, rfl, Nat.le_refl _, fun _ _ _ => rfl⟩
  have hsz : (w'.setCell ⟨b, q, none⟩ (.slice (some ⟨w'.heap.size, 0, none⟩) n 64)).heap.size = w'.heap.size := by simp [World.setCell]
  refine ⟨rfl, lr, 64, M, ?_, ?_, hMs, by simp, by omega, by unfold maxLen; omega, ?_⟩
  · rw [← hsz0, Nat.zero_add]
    exact (hbk0.set0 (.slice (some ⟨w'.heap.size, 0, none⟩) n 64)).of_heap (Below.heap_alloc _ _ b (by rw [hsz]; exact hbW0))
  · have h := heap_alloc_new (w'.setCell ⟨b, q, none⟩ (.slice (some ⟨w'.heap.size, 0, none⟩) n 64)) (.cells M 5)
    rw [hsz, hsz0] at h
    rw [← hsz0] at h ⊢
    exact h
  · exact (hf0.setCell (.inl (by simp)) _).alloc _

set_option maxHeartbeats 12800000 in
set_option maxRecDepth 100000 in
theorem buf_grow_nil_big (T : TypeId) (R : Nat → Option Value) (b q n : Nat) (lr : Int) (w : World)
    (hbk : LibA.Three w b q T R (.slice none 0 0) (.int .i64 0) (.int .i8 lr)) (h64 : 64 < n) (hlim : n ≤ 140737488355328) :
    Calls Tryz.prog 95 #[.pointer (some ⟨b, q, none⟩), .int .i64 n] w (Grown T R b q 0 n [] w) := by
  have hn : 1 ≤ n := by omega
  have hIs : LibA.IsBuffer T R 5 0 b q [] w := ⟨Nat.zero_le _, _, _, hbk, World.ownsRow_nil _ _ _ _, by simp [Value.ownBlock]⟩
  have hnil : ∀ W, (binOp .eql 70 (.slice none 0 0) (.slice none 0 0)).run Tryz.prog W = .ok (.bool true) W := fun W => Lib.run_eql_slice_nil_nil W _ _ Tryz.underlying70
  have mixed : Tryz.prog.follows .mixedOrders = true := by kernel_rfl
  go_enter Tryz.func95, Tryz.ntmps95
  go_wp2_with (go_at_call 107; refine (Tryz.Buffer_Len_at T R 0 b q [] _ hIs).mono ?_)
  rintro e W0 ⟨rfl, k, hW0⟩
  have hbk0 : LibA.Three W0 b q T R (.slice none 0 0) (.int .i64 0) (.int .i8 lr) := by rw [hW0]; exact hbk
  have c0 : W0.cell? ⟨b, q, none⟩ = some (.slice none 0 0) := hbk0.c0
  have c1 : W0.cell? ⟨b, q + 1, none⟩ = some (.int .i64 0) := hbk0.c1
  have f0 : W0.frozen? ⟨b, q, none⟩ = false := hbk0.f q
  have f1 : W0.frozen? ⟨b, q + 1, none⟩ = false := hbk0.f (q + 1)
  have HW0 := Lib.hid hW0
  clear hW0 hIs
  go_wp2_with (go_at_call 94; refine (Tryz.Buffer_tryGrow_none_at b q _ 0 0 n _ c0 (Nat.le_refl _) (Nat.zero_le _) (by omega)).mono ?_; rintro e w' ⟨rfl, rfl⟩)
  have hbW := hbk0.lt
  have hwn : IntKind.i64.wrap (n : Int) = n := by rw [IntKind.wrap_i64]; omega
  go_region_with_o (
      go_at_call 109
      refine (Tryz.bytes_growSlice_nil n _ hn hlim).mono ?_
      rintro e w2 ⟨cap2, cells, rfl, hN, hcsz, hcap2, hcm2, hbel⟩
      have hbk2 : LibA.Three w2 b q T R (.slice none 0 0) (.int .i64 0) (.int .i8 lr) := hbk0.of_heap (hbel.block b hbW)
      have d0 : w2.cell? ⟨b, q, none⟩ = some (.slice none 0 0) := hbk2.c0
      have d1 : w2.cell? ⟨b, q + 1, none⟩ = some (.int .i64 0) := hbk2.c1
      have e0 : w2.frozen? ⟨b, q, none⟩ = false := hbk2.f q
      have e1 : w2.frozen? ⟨b, q + 1, none⟩ = false := hbk2.f (q + 1))
  all_goals (
    go_wp2
    go_ret
    have hsz0 : w'.heap.size = w.heap.size := by rw [HW0.out]; rfl
    have hf0 : Fr [b] w w2 := (show Fr [b] w w'.drew from by rw [HW0.out]; exact ⟨rfl, rfl, rfl, Nat.le_refl _, fun _ _ _ => rfl⟩).trans0 hbel
    have hNb : w'.heap.size ≠ b := by omega
    refine ⟨rfl, lr, cap2, cells, ?_, ?_, hcsz, by simp, by omega, hcm2, ?_⟩
    · rw [← hsz0]
      exact by simpa using ((hbk2.set0 _).set1 _).set0 _
    · rw [← hsz0, Below.heap_setCell _ _ _ _ hNb, Below.heap_setCell _ _ _ _ hNb, Below.heap_setCell _ _ _ _ hNb]
      exact hN
    · exact ((hf0.setCell (.inl (by simp)) _).setCell (.inl (by simp)) _).setCell (.inl (by simp)) _)
end Go.Proofs.YtedjadicdodahaaGreatDoor

namespace Go.Proofs.YtedjadicdodahaaGreatDoor
open Go.RowKit

/-- What a method that writes leaves of a buffer: it holds bs. -/
def Bput (T : TypeId) (R : Nat → Option Value) (b q : Nat) (F : List Nat) (bs : List UInt8) (v : Value) (w : World) (e : Ending) (w' : World) : Prop :=
  e = .returned v ∧ ∃ F', Bf T R b q F' bs w' ∧ Stp (b :: F) w (b :: F') w'
/-- Room for n bytes behind bs has been made. -/
structure Mid (T : TypeId) (R : Nat → Option Value) (b q g cap n : Nat) (cur : Array Value) (lr : Int) (F : List Nat) (bs : List UInt8) (w w1 : World) : Prop where
  th : LibA.Three w1 b q T R (.slice (some ⟨g, 0, none⟩) (bs.length + n) cap) (.int .i64 0) (.int .i8 lr)
  own : g ∈ F ∨ w.heap.size ≤ g
  ne : g ≠ b
  row : w1.heap[g]? = some (.cells cur 5 (0, 0))
  size : cur.size = cap
  pre : cur.toList.take bs.length = Lib.byteCells bs
  le : bs.length + n ≤ cap
  cm : cap ≤ maxLen
  fr : Fr [b] w w1
section
variable {T : TypeId} {R : Nat → Option Value} {b q : Nat} {F : List Nat} {bs : List UInt8} {w : World}
theorem Bf.setLast (h : Bf T R b q F bs w) (x : Int) : Bf T R b q F bs (w.setCell ⟨b, q + 2, none⟩ (.int .i8 x)) := by
  obtain ⟨lr, ⟨h0, h⟩ | ⟨g, cap, cur, h, hg, hgb, hh, r⟩⟩ := h
  · exact ⟨x, .inl ⟨h0, h.set2 _⟩⟩
  · exact ⟨x, .inr ⟨g, cap, cur, h.set2 _, hg, hgb, (Below.heap_setCell _ _ _ _ hgb).trans hh, r⟩⟩
theorem Bf.last (h : Bf T R b q F bs w) : ∃ lr, w.cell? ⟨b, q + 2, none⟩ = some (.int .i8 lr) ∧ w.frozen? ⟨b, q + 2, none⟩ = false := by
  obtain ⟨lr, ⟨_, h⟩ | ⟨g, cap, cur, h, _⟩⟩ := h
  · exact ⟨lr, h.c2, h.f _⟩
  · exact ⟨lr, h.c2, h.f _⟩
/-- tryGrowByReslice: there is room, or nothing turns. -/
theorem buf_try (h : Bf T R b q F bs w) (n : Nat) (hn : 1 ≤ n) : Calls Tryz.prog 94 #[.pointer (some ⟨b, q, none⟩), .int .i64 n] w fun e w' =>
    (e = .returned (.tuple #[.int .i64 bs.length, .bool true]) ∧ ∃ g cap cur lr, Mid T R b q g cap n cur lr F bs w w') ∨ (e = .returned (.tuple #[.int .i64 0, .bool false]) ∧ w' = w ∧ LibA.NoRoom b q n w) := by
  obtain ⟨lr, ⟨rfl, h⟩ | ⟨g, cap, cur, h, hg, hgb, hh, hl, hm, hs, ht⟩⟩ := h
  · exact (Tryz.Buffer_tryGrow_none_at b q none 0 0 n w h.c0 (Nat.le_refl _) (Nat.zero_le _) (by omega)).mono fun e w' ⟨h1, h2⟩ => .inr ⟨h1, h2, ⟨_, _, _, h.c0, by omega⟩⟩
  · by_cases hr : n ≤ cap - bs.length
    · exact (Tryz.Buffer_tryGrow_room_at b q _ bs.length cap n w h.c0 (h.f q) hl hm hr).mono fun e w' ⟨h1, h2⟩ => .inl ⟨h1, g, cap, cur, lr, by
        subst h2
        exact ⟨h.set0 _, .inl hg, hgb, (Below.heap_setCell _ _ _ _ hgb).trans hh, hs, ht, by omega, hm, (Fr.refl _ _).setCell (.inl (by simp)) _⟩⟩
    · exact (Tryz.Buffer_tryGrow_none_at b q _ bs.length cap n w h.c0 hl hm (by omega)).mono fun e w' ⟨h1, h2⟩ => .inr ⟨h1, h2, ⟨_, _, _, h.c0, by omega⟩⟩
/-- grow: where there is no room. -/
theorem buf_grow (h : Bf T R b q F bs w) (n : Nat) (hn : 1 ≤ n) (hr : LibA.NoRoom b q n w) (hlim : bs.length + n ≤ 140737488355328) : Calls Tryz.prog 95 #[.pointer (some ⟨b, q, none⟩), .int .i64 n] w fun e w' =>
    e = .returned (.int .i64 bs.length) ∧ ∃ g cap cur lr, Mid T R b q g cap n cur lr F bs w w' := by
  have hbl := h.lt
  have key : ∀ (e : Ending) (w' : World), Grown T R b q bs.length n (Lib.byteCells bs) w e w' → e = .returned (.int .i64 bs.length) ∧ ∃ g cap cur lr, Mid T R b q g cap n cur lr F bs w w' := fun e w' ⟨h1, lr, cap2, cells, h2, h3, h4, h5, h6, h7, h8⟩ =>
    ⟨h1, w.heap.size, cap2, cells, lr, h2, .inr (Nat.le_refl _), by omega, h3, h4, h5, h6, h7, h8⟩
  obtain ⟨ao, l0, c0, hc, hlt⟩ := hr
  obtain ⟨lr, ⟨rfl, h⟩ | ⟨g, cap, cur, h, hg, hgb, hh, hl, hm, hs, ht⟩⟩ := h
  · by_cases h64 : n ≤ 64
    · exact (buf_grow_nil_small T R b q n lr w h hn h64).mono key
    · exact (buf_grow_nil_big T R b q n lr w h (by omega) (by simpa using hlim)).mono key
  · have hcc := h.c0
    rw [hc] at hcc
    injection hcc with hcc
    injection hcc with _ e1 e2
    rw [e1, e2] at hlt
    rcases Nat.eq_zero_or_pos bs.length with h0 | h0
    · have hbs : bs = [] := List.eq_nil_of_length_eq_zero h0
      subst hbs
      exact (buf_grow_row0 T R b q g cap n lr cur (Lib.byteCells []) w h rfl hh hl hm hs ht hgb (byteCells_one _) hn hlt hlim).mono key
    · exact (buf_grow_rowl T R b q g bs.length cap n lr cur (Lib.byteCells bs) w h0 h (byteCells_length bs) hh hl hm hs ht hgb (byteCells_one _) hn hlt hlim).mono key
theorem take_drop_fill (xs : List Value) (l n : Nat) (ys : List Value) (hy : ys.length = n) (hl : l ≤ xs.length) : (xs.take l ++ ys ++ xs.drop (l + n)).take (l + n) = xs.take l ++ ys := by
  have : (xs.take l ++ ys).length = l + n := by rw [List.length_append, List.length_take, hy, Nat.min_eq_left hl]
  rw [List.take_append_of_le_length (by omega), List.take_of_length_le (by omega)]
/-- The bytes have been copied behind. -/
theorem Mid.wrote {g cap n : Nat} {cur : Array Value} {lr : Int} {w1 : World} (h : Mid T R b q g cap n cur lr F bs w w1) (ys : List UInt8) (hy : ys.length = n) :
    Bf T R b q [g] (bs ++ ys) (w1.setRow g (cur.toList.take bs.length ++ Lib.byteCells ys ++ cur.toList.drop (bs.length + n)).toArray) ∧ Stp (b :: F) w (b :: [g]) (w1.setRow g (cur.toList.take bs.length ++ Lib.byteCells ys ++ cur.toList.drop (bs.length + n)).toArray) := by
  have hl : cur.toList.length = cap := by rw [Array.length_toList]; exact h.size
  have hle := h.le
  refine ⟨⟨lr, .inr ⟨g, cap, _, ?_, by simp, h.ne, setRow_heap _ _ _ _ _ _ h.row, by rw [List.length_append, hy]; exact hle, h.cm, ?_, ?_⟩⟩, ?_, ?_⟩
  · rw [List.length_append, hy]
    exact h.th.of_heap (setRow_other _ _ _ _ (Ne.symm h.ne))
  · simp only [List.size_toArray, List.length_append, List.length_take, List.length_drop, byteCells_length, hl, hy]
    omega
  · rw [List.toList_toArray, List.length_append, hy, take_drop_fill _ _ _ _ (by rw [byteCells_length]; exact hy) (by omega), h.pre, byteCells_append]
  · exact fr_setRow (h.fr.mono (by simp)) (h.own.imp (List.mem_cons_of_mem _) id) _
  · intro k hk
    simp only [List.mem_cons, List.not_mem_nil, or_false] at hk
    rcases hk with rfl | rfl
    · exact .inl (by simp)
    · exact h.own.imp (List.mem_cons_of_mem _) id
theorem setRow_eq_setCell (w : World) (g l : Nat) (cur : Array Value) (e : TypeId) (v : Value) (hg : w.heap[g]? = some (.cells cur e (0, 0))) (hl : l < cur.size) : w.setCell ⟨g, l, none⟩ v = w.setRow g (cur.toList.take l ++ [v] ++ cur.toList.drop (l + 1)).toArray := by
  have hlt : g < w.heap.size := Lib.lt_of_heap hg
  have hgg : w.heap[g] = .cells cur e (0, 0) := by
    rw [Array.getElem?_eq_getElem hlt] at hg
    exact Option.some.inj hg
  have hc : (cur.setIfInBounds l v) = (cur.toList.take l ++ [v] ++ cur.toList.drop (l + 1)).toArray := by
    rw [← Array.toList_inj, Array.toList_setIfInBounds, List.set_eq_take_append_cons_drop, if_pos (by simpa using hl)]
    simp
  unfold World.setCell World.setRow
  congr 1
  apply Array.ext_getElem?
  intro i
  simp only [Array.getElem?_modify]
  split
  · rename_i hi
    subst hi
    rw [hg]
    simp [hc]
  · rfl
end
set_option maxHeartbeats 3200000 in
set_option maxRecDepth 100000 in
theorem buf_Write (T : TypeId) (R : Nat → Option Value) (b q : Nat) (F : List Nat) (bs ys : List UInt8) (a : Addr) (n c : Nat) (w : World) (h : Bf T R b q F bs w) (hn : ys.length = n) (h1 : 1 ≤ n) (hab : a.block ≠ b) (hsrc : ∀ j v, (Lib.byteCells ys)[j]? = some v → w.cell? (a.add j) = some v) (hlim : bs.length + n ≤ 140737488355328) :
    Calls Tryz.prog 106 #[.pointer (some ⟨b, q, none⟩), .slice (some a) n c] w (Bput T R b q F (bs ++ ys) (.tuple #[.int .i64 n, .nilIface]) w) := by
  obtain ⟨lr0, c2, f2⟩ := h.last
  have H0 := Lib.hid (h.setLast 0)
  have F0 := Lib.hid (show Fr [b] w (w.setCell ⟨b, q + 2, none⟩ (.int .i8 0)) from (Fr.refl _ _).setCell (.inl (by simp)) _)
  have SZ := Lib.hid (show (w.setCell ⟨b, q + 2, none⟩ (.int .i8 0)).heap.size = w.heap.size from by simp [World.setCell])
  have HS := Lib.hid hsrc
  have hinfo : (Tryz.prog.info? 5).map (·.size) = some 1 := by kernel_rfl
  clear hsrc
  clear h
  go_enter Tryz.func106, Tryz.ntmps106
  go_wp2_with (go_at_call 94; refine (buf_try H0.out n h1).mono ?_)
  rintro e W1 (⟨rfl, g, cap, cur, lr, M⟩ | ⟨rfl, rfl, hnr⟩)
  · have MM := Lib.hid M
    have FW := Lib.hid (F0.out.trans1 M.fr)
    have d0 := M.th.c0
    have le := M.le
    have cm := M.cm
    unfold maxLen at cm
    have hne : ¬ cap = bs.length := by omega
    have hsrc1 : ∀ j v, (Lib.byteCells ys)[j]? = some v → W1.cell? (a.add j) = some v := fun j v hj => FW.out.cell (HS.out j v hj) (by rw [Lib.block_add]; simpa using hab)
    have hcp := run_copy_row (P := Tryz.prog) W1 70 70 3 5 g bs.length n (cap - bs.length) a n c cur 5 (Lib.byteCells ys) Tryz.underlying70 hinfo M.row (by rw [byteCells_length, hn]; exact (Nat.min_self n).symm) hsrc1 (by rw [byteCells_length, hn]; have := M.size; omega) (byteCells_one _)
    rw [byteCells_length, hn] at hcp
    clear hsrc1
    clear M c2 f2
    go_wp2
    go_ret2
    have MO : Mid T R b q g cap n cur lr F bs w W1 := { MM.out with own := by have h := MM.out.own; rwa [SZ.out] at h, fr := FW.out }
    obtain ⟨r1, r2⟩ := MO.wrote ys hn
    rw [List.append_assoc] at r1 r2
    exact ⟨rfl, [g], r1, r2⟩
  · have NR := Lib.hid hnr
    clear hnr
    go_wp2_with fail
    refine (buf_grow H0.out n h1 NR.out hlim).mono ?_
    rintro e W1 ⟨rfl, g, cap, cur, lr, M⟩
    have MM := Lib.hid M
    have FW := Lib.hid (F0.out.trans1 M.fr)
    have d0 := M.th.c0
    have le := M.le
    have cm := M.cm
    unfold maxLen at cm
    have hne : ¬ cap = bs.length := by omega
    have hsrc1 : ∀ j v, (Lib.byteCells ys)[j]? = some v → W1.cell? (a.add j) = some v := fun j v hj => FW.out.cell (HS.out j v hj) (by rw [Lib.block_add]; simpa using hab)
    have hcp := run_copy_row (P := Tryz.prog) W1 70 70 3 5 g bs.length n (cap - bs.length) a n c cur 5 (Lib.byteCells ys) Tryz.underlying70 hinfo M.row (by rw [byteCells_length, hn]; exact (Nat.min_self n).symm) hsrc1 (by rw [byteCells_length, hn]; have := M.size; omega) (byteCells_one _)
    rw [byteCells_length, hn] at hcp
    clear hsrc1
    clear M c2 f2
    go_wp2
    go_ret2
    have MO : Mid T R b q g cap n cur lr F bs w W1 := { MM.out with own := by have h := MM.out.own; rwa [SZ.out] at h, fr := FW.out }
    obtain ⟨r1, r2⟩ := MO.wrote ys hn
    rw [List.append_assoc] at r1 r2
    exact ⟨rfl, [g], r1, r2⟩
set_option maxHeartbeats 3200000 in
set_option maxRecDepth 100000 in
theorem buf_WriteByte (T : TypeId) (R : Nat → Option Value) (b q : Nat) (F : List Nat) (bs : List UInt8) (z : UInt8) (w : World) (h : Bf T R b q F bs w) (hlim : bs.length + 1 ≤ 140737488355328) :
    Calls Tryz.prog 60 #[.pointer (some ⟨b, q, none⟩), .int .u8 (z.toNat : Int)] w (Bput T R b q F (bs ++ [z]) .nilIface w) := by
  obtain ⟨lr0, c2, f2⟩ := h.last
  have H0 := Lib.hid (h.setLast 0)
  have F0 := Lib.hid (show Fr [b] w (w.setCell ⟨b, q + 2, none⟩ (.int .i8 0)) from (Fr.refl _ _).setCell (.inl (by simp)) _)
  have SZ := Lib.hid (show (w.setCell ⟨b, q + 2, none⟩ (.int .i8 0)).heap.size = w.heap.size from by simp [World.setCell])
  clear h
  go_enter Tryz.func60, Tryz.ntmps60
  go_wp2_with (go_at_call 94; refine (buf_try H0.out 1 (by omega)).mono ?_)
  rintro e W1 (⟨rfl, g, cap, cur, lr, M⟩ | ⟨rfl, rfl, hnr⟩)
  · have MM := Lib.hid M
    have FW := Lib.hid (F0.out.trans1 M.fr)
    have d0 := M.th.c0
    have le := M.le
    have cm := M.cm
    unfold maxLen at cm
    have hne : ¬ cap = bs.length := by omega
    have hrow := M.row
    have hcz := M.size
    obtain ⟨cv, cl⟩ : ∃ cv, W1.cell? ⟨g, bs.length, none⟩ = some cv := ⟨cur[bs.length]'(by omega), by rw [cell_of_row W1 g bs.length cur _ (0, 0) hrow]; simp [show bs.length < cur.size by omega]⟩
    have fl : W1.frozen? ⟨g, bs.length, none⟩ = false := Lib.frozen_of_heap hrow _
    have hSR := Lib.hid (setRow_eq_setCell W1 g bs.length cur _ (.int .u8 (z.toNat : Int)) hrow (by omega))
    clear hrow hcz
    clear M c2 f2
    go_wp2
    go_ret
    have MO : Mid T R b q g cap 1 cur lr F bs w W1 := { MM.out with own := by have h := MM.out.own; rwa [SZ.out] at h, fr := FW.out }
    obtain ⟨r1, r2⟩ := MO.wrote [z] rfl
    have e : Lib.byteCells [z] = [.int .u8 (z.toNat : Int)] := rfl
    rw [e, ← hSR.out] at r1 r2
    exact ⟨rfl, [g], r1, r2⟩
  · have NR := Lib.hid hnr
    clear hnr
    go_wp2_with fail
    refine (buf_grow H0.out 1 (by omega) NR.out hlim).mono ?_
    rintro e W1 ⟨rfl, g, cap, cur, lr, M⟩
    have MM := Lib.hid M
    have FW := Lib.hid (F0.out.trans1 M.fr)
    have d0 := M.th.c0
    have le := M.le
    have cm := M.cm
    unfold maxLen at cm
    have hne : ¬ cap = bs.length := by omega
    have hrow := M.row
    have hcz := M.size
    obtain ⟨cv, cl⟩ : ∃ cv, W1.cell? ⟨g, bs.length, none⟩ = some cv := ⟨cur[bs.length]'(by omega), by rw [cell_of_row W1 g bs.length cur _ (0, 0) hrow]; simp [show bs.length < cur.size by omega]⟩
    have fl : W1.frozen? ⟨g, bs.length, none⟩ = false := Lib.frozen_of_heap hrow _
    have hSR := Lib.hid (setRow_eq_setCell W1 g bs.length cur _ (.int .u8 (z.toNat : Int)) hrow (by omega))
    clear hrow hcz
    clear M c2 f2
    go_wp2
    go_ret
    have MO : Mid T R b q g cap 1 cur lr F bs w W1 := { MM.out with own := by have h := MM.out.own; rwa [SZ.out] at h, fr := FW.out }
    obtain ⟨r1, r2⟩ := MO.wrote [z] rfl
    have e : Lib.byteCells [z] = [.int .u8 (z.toNat : Int)] := rfl
    rw [e, ← hSR.out] at r1 r2
    exact ⟨rfl, [g], r1, r2⟩
end Go.Proofs.YtedjadicdodahaaGreatDoor

namespace Go.Proofs.YtedjadicdodahaaGreatDoor
open Go.RowKit

theorem str_len (s : ByteArray) : s.data.toList.length = s.size := by simp
theorem str_eq (s : ByteArray) : (⟨s.data.toList.toArray⟩ : ByteArray) = s := by cases s; simp
set_option maxHeartbeats 3200000 in
set_option maxRecDepth 100000 in
theorem buf_WriteStringP (T : TypeId) (R : Nat → Option Value) (b q : Nat) (F : List Nat) (bs : List UInt8) (s : ByteArray) (w : World) (h : Bf T R b q F bs w) (h1 : 1 ≤ s.size) (hlim : bs.length + s.size ≤ 140737488355328) :
    Calls Tryz.prog 148 #[.pointer (some ⟨b, q, none⟩), .string s] w (Bput T R b q F (bs ++ s.data.toList) (.tuple #[.int .i64 s.size, .nilIface]) w) := by
  obtain ⟨lr0, c2, f2⟩ := h.last
  have H0 := Lib.hid (h.setLast 0)
  have F0 := Lib.hid (show Fr [b] w (w.setCell ⟨b, q + 2, none⟩ (.int .i8 0)) from (Fr.refl _ _).setCell (.inl (by simp)) _)
  have SZ := Lib.hid (show (w.setCell ⟨b, q + 2, none⟩ (.int .i8 0)).heap.size = w.heap.size from by simp [World.setCell])
  have hinfo : (Tryz.prog.info? 5).map (·.size) = some 1 := by kernel_rfl
  clear h
  go_enter Tryz.func148, Tryz.ntmps148
  go_wp2_with (go_at_call 94; refine (buf_try H0.out s.size h1).mono ?_)
  rintro e W1 (⟨rfl, g, cap, cur, lr, M⟩ | ⟨rfl, rfl, hnr⟩)
  · have MM := Lib.hid M
    have FW := Lib.hid (F0.out.trans1 M.fr)
    have d0 := M.th.c0
    have le := M.le
    have cm := M.cm
    unfold maxLen at cm
    have hne : ¬ cap = bs.length := by omega
    have hcp := Lib.run_copy_row_string (P := Tryz.prog) W1 70 9 3 5 g bs.length s.size (cap - bs.length) s cur 5 Tryz.underlying70 hinfo M.row (Nat.le_refl _) (by have := M.size; omega)
    clear M c2 f2
    go_wp2
    go_ret2
    have MO : Mid T R b q g cap s.size cur lr F bs w W1 := { MM.out with own := by have h := MM.out.own; rwa [SZ.out] at h, fr := FW.out }
    obtain ⟨r1, r2⟩ := MO.wrote s.data.toList (str_len s)
    rw [List.append_assoc] at r1 r2
    exact ⟨rfl, [g], r1, r2⟩
  · have NR := Lib.hid hnr
    clear hnr
    go_wp2_with fail
    refine (buf_grow H0.out s.size h1 NR.out hlim).mono ?_
    rintro e W1 ⟨rfl, g, cap, cur, lr, M⟩
    have MM := Lib.hid M
    have FW := Lib.hid (F0.out.trans1 M.fr)
    have d0 := M.th.c0
    have le := M.le
    have cm := M.cm
    unfold maxLen at cm
    have hne : ¬ cap = bs.length := by omega
    have hcp := Lib.run_copy_row_string (P := Tryz.prog) W1 70 9 3 5 g bs.length s.size (cap - bs.length) s cur 5 Tryz.underlying70 hinfo M.row (Nat.le_refl _) (by have := M.size; omega)
    clear M c2 f2
    go_wp2
    go_ret2
    have MO : Mid T R b q g cap s.size cur lr F bs w W1 := { MM.out with own := by have h := MM.out.own; rwa [SZ.out] at h, fr := FW.out }
    obtain ⟨r1, r2⟩ := MO.wrote s.data.toList (str_len s)
    rw [List.append_assoc] at r1 r2
    exact ⟨rfl, [g], r1, r2⟩
set_option maxHeartbeats 3200000 in
set_option maxRecDepth 100000 in
theorem buf_WriteString0 (T : TypeId) (R : Nat → Option Value) (b q : Nat) (F : List Nat) (bs : List UInt8) (s : ByteArray) (w : World) (h : Bf T R b q F bs w) (hs0 : s.size = 0) :
    Calls Tryz.prog 148 #[.pointer (some ⟨b, q, none⟩), .string s] w (Bput T R b q F bs (.tuple #[.int .i64 0, .nilIface]) w) := by
  have hinfo : (Tryz.prog.info? 5).map (·.size) = some 1 := by kernel_rfl
  have hce : ∀ d dLen dCap W, (Builtin.copy_ #[70, 9] 3 #[.slice d dLen dCap, .string s]).run Tryz.prog W = .ok (goInt 0) W := fun d dLen dCap W => Lib.run_copy_empty_string W 70 9 3 5 d dLen dCap s Tryz.underlying70 (by rw [hinfo]; rfl) hs0
  obtain ⟨lr0, c2, f2⟩ := h.last
  have H0 := h.setLast 0
  have F0 : Fr [b] w (w.setCell ⟨b, q + 2, none⟩ (.int .i8 0)) := (Fr.refl _ _).setCell (.inl (by simp)) _
  obtain ⟨ao, l, cap, T0, hlc, hcm, HN0⟩ : ∃ ao l cap, (∃ lr, LibA.Three (w.setCell ⟨b, q + 2, none⟩ (.int .i8 0)) b q T R (.slice ao l cap) (.int .i64 0) (.int .i8 lr)) ∧ l ≤ cap ∧ cap ≤ maxLen ∧ ((ao = none ∧ l = 0 ∧ cap = 0) ∨ ∃ g, ao = some ⟨g, 0, none⟩) := by
    obtain ⟨lr, ⟨_, h⟩ | ⟨g, cap, cur, h, _, _, _, hl, hm, _⟩⟩ := H0
    · exact ⟨none, 0, 0, ⟨_, h⟩, Nat.le_refl _, Nat.zero_le _, .inl ⟨rfl, rfl, rfl⟩⟩
    · exact ⟨_, _, _, ⟨_, h⟩, hl, hm, .inr ⟨g, rfl⟩⟩
  obtain ⟨lr, T0⟩ := T0
  have TRY := Lib.hid (show Calls Tryz.prog 94 #[.pointer (some ⟨b, q, none⟩), .int .i64 0] (w.setCell ⟨b, q + 2, none⟩ (.int .i8 0)) (fun e w' => e = .returned (.tuple #[.int .i64 l, .bool true]) ∧ w' = (w.setCell ⟨b, q + 2, none⟩ (.int .i8 0)).setCell ⟨b, q, none⟩ (.slice ao (l + 0) cap)) from Tryz.Buffer_tryGrow_room_at b q ao l cap 0 _ T0.c0 (T0.f q) hlc hcm (Nat.zero_le _))
  obtain ⟨w1, hw1⟩ : ∃ w1, w1 = (w.setCell ⟨b, q + 2, none⟩ (.int .i8 0)).setCell ⟨b, q, none⟩ (.slice ao (l + 0) cap) := ⟨_, rfl⟩
  have T1 : LibA.Three w1 b q T R (.slice ao l cap) (.int .i64 0) (.int .i8 lr) := by rw [hw1]; exact T0.set0 _
  have FIN : Hid (Bput T R b q F bs (.tuple #[.int .i64 0, .nilIface]) w (.returned (.tuple #[.int .i64 0, .nilIface])) w1) := Lib.hid ⟨rfl, F, by
    rw [hw1]
    show Bf T R b q F bs ((w.setCell ⟨b, q + 2, none⟩ (.int .i8 0)).setCell ⟨b, q, none⟩ (.slice ao l cap))
    obtain ⟨lr2, ⟨e0, h⟩ | ⟨g, cap2, cur, h, hg, hgb, hh, r⟩⟩ := H0
    · have e1 := T0.c0.symm.trans h.c0
      injection e1 with e1
      rw [e1]
      exact ⟨lr2, .inl ⟨e0, h.set0 _⟩⟩
    · have e1 := T0.c0.symm.trans h.c0
      injection e1 with e1
      rw [e1]
      exact ⟨lr2, .inr ⟨g, cap2, cur, h.set0 _, hg, hgb, (Below.heap_setCell _ _ _ _ hgb).trans hh, r⟩⟩, by
    rw [hw1]
    exact Stp.of_fr ((F0.mono (by simp)).setCell (.inl (by simp)) _)⟩
  have HN := Lib.hid hw1.symm
  clear h H0 F0 T0 hw1
  rcases HN0 with ⟨rfl, rfl, rfl⟩ | ⟨g, rfl⟩
  · skip
    have d0 := T1.c0
    have cm := hcm
    unfold maxLen at cm
    go_enter Tryz.func148, Tryz.ntmps148
    go_wp2_with fail
    refine (TRY.out).mono ?_
    rintro e W1 ⟨rfl, hW1⟩
    rw [hW1, HN.out]
    clear hW1
    go_wp2
    all_goals (go_ret2; first | exact FIN.out | (have h := FIN.out; rw [hs0]; exact h))
  · skip
    have d0 := T1.c0
    have cm := hcm
    unfold maxLen at cm
    go_enter Tryz.func148, Tryz.ntmps148
    go_wp2_with fail
    refine (TRY.out).mono ?_
    rintro e W1 ⟨rfl, hW1⟩
    rw [hW1, HN.out]
    clear hW1
    go_wp2
    all_goals (go_ret2; first | exact FIN.out | (have h := FIN.out; rw [hs0]; exact h))

theorem buf_WriteString (T : TypeId) (R : Nat → Option Value) (b q : Nat) (F : List Nat) (bs : List UInt8) (s : ByteArray) (w : World) (h : Bf T R b q F bs w) (hlim : bs.length + s.size ≤ 140737488355328) :
    Calls Tryz.prog 148 #[.pointer (some ⟨b, q, none⟩), .string s] w (Bput T R b q F (bs ++ s.data.toList) (.tuple #[.int .i64 s.size, .nilIface]) w) := by
  rcases Nat.eq_zero_or_pos s.size with h0 | h0
  · have := buf_WriteString0 T R b q F bs s w h h0
    rw [h0, List.eq_nil_of_length_eq_zero ((str_len s).trans h0), List.append_nil]
    exact this
  · exact buf_WriteStringP T R b q F bs s w h h0 hlim

set_option maxRecDepth 100000 in
theorem buf_Reset (T : TypeId) (R : Nat → Option Value) (b q : Nat) (F : List Nat) (bs : List UInt8) (w : World) (h : Bf T R b q F bs w) :
    Calls Tryz.prog 108 #[.pointer (some ⟨b, q, none⟩)] w (Bput T R b q F [] (.tuple #[]) w) := by
  obtain ⟨lr, ⟨rfl, h⟩ | ⟨g, cap, cur, h, hg, hgb, hh, hl, hm, hs, ht⟩⟩ := h
  · have c0 := h.c0
    have c1 := h.c1
    have c2 := h.c2
    have f0 := h.f q
    have f1 := h.f (q + 1)
    have f2 := h.f (q + 2)
    have H := Lib.hid h
    clear h
    go_enter Tryz.func108, Tryz.ntmps108
    go_wp2
    go_end0
    exact ⟨rfl, F, ⟨0, .inl ⟨rfl, ((H.out.set0 _).set1 _).set2 _⟩⟩, Stp.of_fr ((((Fr.refl _ _).setCell (.inl (by simp)) _).setCell (.inl (by simp)) _).setCell (.inl (by simp)) _)⟩
  · have c0 := h.c0
    have c1 := h.c1
    have c2 := h.c2
    have f0 := h.f q
    have f1 := h.f (q + 1)
    have f2 := h.f (q + 2)
    have H := Lib.hid h
    have HH := Lib.hid hh
    unfold maxLen at hm
    clear h hh ht
    go_enter Tryz.func108, Tryz.ntmps108
    go_wp2
    go_end0
    exact ⟨rfl, F, ⟨0, .inr ⟨g, cap, cur, ((H.out.set0 _).set1 _).set2 _, hg, hgb, by rw [Below.heap_setCell _ _ _ _ hgb, Below.heap_setCell _ _ _ _ hgb, Below.heap_setCell _ _ _ _ hgb]; exact HH.out, Nat.zero_le _, by unfold maxLen; omega, hs, rfl⟩⟩, Stp.of_fr ((((Fr.refl _ _).setCell (.inl (by simp)) _).setCell (.inl (by simp)) _).setCell (.inl (by simp)) _)⟩
theorem buf_Len (T : TypeId) (R : Nat → Option Value) (b q : Nat) (F : List Nat) (bs : List UInt8) (w : World) (h : Bf T R b q F bs w) : Calls Tryz.prog 107 #[.pointer (some ⟨b, q, none⟩)] w (RetQ (.int .i64 bs.length) w) := by
  have h1 := Tryz.Buffer_Len_at T R 0 b q (Lib.byteCells bs) w h.is
  rw [byteCells_length] at h1
  exact h1
theorem buf_String (T : TypeId) (R : Nat → Option Value) (b q : Nat) (F : List Nat) (bs : List UInt8) (w : World) (h : Bf T R b q F bs w) : Calls Tryz.prog 31 #[.pointer (some ⟨b, q, none⟩)] w (RetQ (.string ⟨bs.toArray⟩) w) :=
  Tryz.Buffer_String_at T R 0 b q bs w h.is
end Go.Proofs.YtedjadicdodahaaGreatDoor
