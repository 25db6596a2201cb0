/- Footprints: which blocks a step may turn, and which are owned behind it. -/
import Derived.Lib.BufferAt
import Derived.Test.YtedjadicdodahaaGreatDoorMem
import Derived.Test.YtedjadicdodahaaGreatDoorSlB
import Derived.Test.YtedjadicdodahaaGreatDoorQPk
import Derived.Maps.OwnSet
import Derived.Maps.OwnOps
import Derived.Maps.Views
import Derived.DeepKeys4
namespace Go.Proofs.YtedjadicdodahaaGreatDoor
open Go.RowKit

/-- Only the blocks G, and what is new, have turned; what is owned behind was owned, or is new. -/
structure Stp (G : List Nat) (w : World) (G' : List Nat) (w' : World) : Prop where
  fr : Fr G w w'
  grow : ∀ k ∈ G', k ∈ G ∨ w.heap.size ≤ k

section
variable {G G' G'' F : List Nat} {a b w w' w'' : World}
theorem Stp.refl (G : List Nat) (w : World) : Stp G w G w := ⟨Fr.refl _ _, fun _ h => .inl h⟩
theorem Stp.size (h : Stp G w G' w') : w.heap.size ≤ w'.heap.size := h.fr.size
theorem Stp.trans (h : Stp G a G' b) (k : Stp G' b G'' w) : Stp G a G'' w :=
  ⟨h.fr.trans k.fr h.grow, fun j hj => by
    rcases k.grow j hj with h1 | h1
    · exact h.grow j h1
    · exact .inr (Nat.le_trans h.size h1)⟩
theorem Stp.below (h : Stp G a G' b) (k : Below b.heap.size b w) : Stp G a G' w := ⟨h.fr.trans0 k, h.grow⟩
theorem Stp.of_below (h : Below w.heap.size w w') : Stp G w G w' := ⟨Fr.of_below h, fun _ h => .inl h⟩
theorem Stp.of_fr (h : Fr G w w') : Stp G w G w' := ⟨h, fun _ h => .inl h⟩
theorem Fr.mono (h : Fr G w w') (hs : ∀ k ∈ G, k ∈ F) : Fr F w w' := ⟨h.os, h.tape, h.output, h.size, fun k hk hn => h.block k hk (fun hm => hn (hs k hm))⟩
/-- A part of what is owned. -/
theorem Stp.part (h : Stp G w G' w') (hs : ∀ k ∈ G, k ∈ F) : Stp F w (G' ++ F) w' :=
  ⟨h.fr.mono hs, fun k hk => by
    rcases List.mem_append.1 hk with h1 | h1
    · rcases h.grow k h1 with h2 | h2
      · exact .inl (hs k h2)
      · exact .inr h2
    · exact .inl h1⟩
theorem Stp.less (h : Stp G w G' w') (hs : ∀ k ∈ G'', k ∈ G' ∨ k ∈ G ∨ w.heap.size ≤ k) : Stp G w G'' w' :=
  ⟨h.fr, fun k hk => by
    rcases hs k hk with h1 | h1
    · exact h.grow k h1
    · exact h1⟩
theorem Stp.left (h : Stp G w G' w') : Stp (G ++ F) w (G' ++ F) w' :=
  ⟨h.fr.mono (fun k hk => List.mem_append_left _ hk), fun k hk => by
    rcases List.mem_append.1 hk with h1 | h1
    · exact (h.grow k h1).imp (List.mem_append_left _) id
    · exact .inl (List.mem_append_right _ h1)⟩
theorem Stp.right (h : Stp G w G' w') : Stp (F ++ G) w (F ++ G') w' :=
  ⟨h.fr.mono (fun k hk => List.mem_append_right _ hk), fun k hk => by
    rcases List.mem_append.1 hk with h1 | h1
    · exact .inl (List.mem_append_left _ h1)
    · exact (h.grow k h1).imp (List.mem_append_right _) id⟩
theorem Stp.cons {k : Nat} (h : Stp G w G' w') : Stp (k :: G) w (k :: G') w' := Stp.right (F := [k]) h
/-- What stands apart stays apart. -/
theorem Stp.apart (h : Stp G w G' w') (hd : ∀ k ∈ F, k ∉ G) (hl : ∀ k ∈ F, k < w.heap.size) : ∀ k ∈ F, k ∉ G' := fun k hk hm => by
  rcases h.grow k hm with h1 | h1
  · exact hd k hk h1
  · have := hl k hk; omega
theorem Stp.drewN (h : Stp G a G' b) (n : Nat) : Stp G a G' (b.drewN n) := ⟨h.fr.drewN n, h.grow⟩
theorem Stp.drew (h : Stp G a G' b) : Stp G a G' b.drew := ⟨h.fr.drew, h.grow⟩
theorem Stp.alloc (h : Stp G a G' b) (o : Obj) : Stp G a G' (b.alloc o) := ⟨h.fr.alloc o, h.grow⟩
theorem Stp.setCell (h : Stp G a G' b) {p : Addr} (hp : p.block ∈ G ∨ a.heap.size ≤ p.block) (v : Value) : Stp G a G' (b.setCell p v) := ⟨h.fr.setCell hp v, h.grow⟩
theorem Blk.stp {g : Nat} {t : TypeId} {cs : Array Value} (hb : Blk w g t cs) (h : Stp G w G' w') (hn : g ∉ G) : Blk w' g t cs := hb.fr h.fr hn
theorem Stp.cell (h : Stp G w G' w') {p : Addr} {v : Value} (hc : w.cell? p = some v) (hn : p.block ∉ G) : w'.cell? p = some v := h.fr.cell hc hn
/-- To below: what is owned is all new. -/
theorem Stp.to_below {B : Nat} (h : Stp G w G' w') (hb : Below B a w) (hG : ∀ k ∈ G, B ≤ k) (hB : B ≤ w.heap.size) : Below B a w' :=
  hb.trans ⟨h.fr.os, h.fr.tape, h.fr.output, h.fr.size, fun k hk => h.fr.block k (by omega) (fun hm => by have := hG k hm; omega)⟩
theorem fr_setRow {g : Nat} (h : Fr G a w) (hg : g ∈ G ∨ a.heap.size ≤ g) (cs : Array Value) : Fr G a (w.setRow g cs) :=
  ⟨h.os, h.tape, h.output, by simpa using h.size, fun k hk hn => (setRow_other _ _ _ _ (by
    rintro rfl
    rcases hg with h1 | h1
    · exact hn h1
    · omega)).trans (h.block k hk hn)⟩
end
theorem fr_of_grown {w w' : World} {G : List Nat} {row : Option Nat} (h : w.grownBy w' row) (hr : ∀ k, row = some k → k ∈ G) : Fr G w w' :=
  ⟨h.os, h.tape, h.output, h.size, fun k hk hn => h.block k hk (fun e => hn (hr k e.symm))⟩

/-- A buffer at place q of block b (a struct of type T whose other cells are R) that holds the bytes bs, its row among F. -/
def Bf (T : TypeId) (R : Nat → Option Value) (b q : Nat) (F : List Nat) (bs : List UInt8) (w : World) : Prop :=
  ∃ lr, (bs = [] ∧ LibA.Three w b q T R (.slice none 0 0) (.int .i64 0) (.int .i8 lr)) ∨
    ∃ g cap cur, LibA.Three w b q T R (.slice (some ⟨g, 0, none⟩) bs.length cap) (.int .i64 0) (.int .i8 lr) ∧ g ∈ F ∧ g ≠ b ∧ w.heap[g]? = some (.cells cur 5 (0, 0)) ∧ bs.length ≤ cap ∧ cap ≤ maxLen ∧ cur.size = cap ∧ cur.toList.take bs.length = Lib.byteCells bs
section
variable {T : TypeId} {R : Nat → Option Value} {b q : Nat} {F G G' : List Nat} {bs : List UInt8} {w w' : World}
theorem Bf.lt (h : Bf T R b q F bs w) : b < w.heap.size := by
  obtain ⟨lr, ⟨_, h⟩ | ⟨g, cap, cur, h, _⟩⟩ := h <;> exact h.lt
theorem Bf.is (h : Bf T R b q F bs w) : LibA.IsBuffer T R 5 0 b q (Lib.byteCells bs) w := by
  obtain ⟨lr, ⟨rfl, h⟩ | ⟨g, cap, cur, h, _, hg, hh, hl, hm, hs, ht⟩⟩ := h
  · exact LibA.zero_isBuffer (Nat.zero_le _) h
  · rw [← ht]
    exact LibA.isBuffer_mk (Nat.zero_le _) h (Nat.zero_le _) hh hl hm hs hg
theorem Bf.mono {F' : List Nat} (h : Bf T R b q F bs w) (hs : ∀ k ∈ F, k ∈ F') : Bf T R b q F' bs w := by
  obtain ⟨lr, h | ⟨g, cap, cur, h, hF, r⟩⟩ := h
  · exact ⟨lr, .inl h⟩
  · exact ⟨lr, .inr ⟨g, cap, cur, h, hs g hF, r⟩⟩
/-- Its row alone. -/
theorem Bf.tight (h : Bf T R b q F bs w) : ∃ F', (∀ k ∈ F', k ∈ F ∧ k < w.heap.size ∧ k ≠ b) ∧ Bf T R b q F' bs w := by
  obtain ⟨lr, h | ⟨g, cap, cur, h, hF, hg, hh, r⟩⟩ := h
  · exact ⟨[], by simp, lr, .inl h⟩
  · exact ⟨[g], by simp; exact ⟨hF, Lib.lt_of_heap hh, hg⟩, lr, .inr ⟨g, cap, cur, h, by simp, hg, hh, r⟩⟩
theorem Bf.fr (h : Bf T R b q F bs w) (k : Fr G w w') (hb : b ∉ G) (hF : ∀ j ∈ F, j ∉ G) : Bf T R b q F bs w' := by
  have hlt := h.lt
  obtain ⟨lr, ⟨h0, h⟩ | ⟨g, cap, cur, h, hg, hgb, hh, r⟩⟩ := h
  · exact ⟨lr, .inl ⟨h0, h.of_heap (k.block b hlt hb)⟩⟩
  · exact ⟨lr, .inr ⟨g, cap, cur, h.of_heap (k.block b hlt hb), hg, hgb, (k.block g (Lib.lt_of_heap hh) (hF g hg)).trans hh, r⟩⟩
theorem Bf.here (h : Bf T R b q F bs w) (k : Below w.heap.size w w') : Bf T R b q F bs w' := h.fr (Fr.of_below (gs := []) k) (by simp) (by simp)
theorem Bf.new {lr : Int} (h : LibA.Three w b q T R (.slice none 0 0) (.int .i64 0) (.int .i8 lr)) : Bf T R b q [] [] w := ⟨lr, .inl ⟨rfl, h⟩⟩
end
theorem byteCells_append (a b : List UInt8) : Lib.byteCells (a ++ b) = Lib.byteCells a ++ Lib.byteCells b := by simp [Lib.byteCells]
theorem byteCells_length (a : List UInt8) : (Lib.byteCells a).length = a.length := by simp [Lib.byteCells]
theorem byteCells_one (a : List UInt8) : ∀ v ∈ Lib.byteCells a, v.oneCell' = true := by
  intro v hv
  simp only [Lib.byteCells, List.mem_map] at hv
  obtain ⟨z, _, rfl⟩ := hv
  rfl
end Go.Proofs.YtedjadicdodahaaGreatDoor

namespace Go.Proofs.YtedjadicdodahaaGreatDoor
open Go.RowKit

/-- What was owned, and what is new. -/
def grow (own : Nat → Prop) (w : World) : Nat → Prop := fun k => own k ∨ w.heap.size ≤ k
/-- Nothing but what is owned, and what is new, has turned. -/
structure Kp (own : Nat → Prop) (w w' : World) : Prop where
  os : w'.os = w.os
  tape : w'.tape = w.tape
  output : w'.output = w.output
  size : w.heap.size ≤ w'.heap.size
  block : ∀ k, k < w.heap.size → ¬ own k → w'.heap[k]? = w.heap[k]?
section
variable {own : Nat → Prop} {a b c w w' : World} {G : List Nat}
theorem Kp.refl (own : Nat → Prop) (w : World) : Kp own w w := ⟨rfl, rfl, rfl, Nat.le_refl _, fun _ _ _ => rfl⟩
theorem Kp.of_fr (h : Fr G w w') (hG : ∀ k ∈ G, own k ∨ w.heap.size ≤ k) : Kp own w w' :=
  ⟨h.os, h.tape, h.output, h.size, fun k hk hn => h.block k hk (fun hm => by
    rcases hG k hm with h1 | h1
    · exact hn h1
    · omega)⟩
theorem Kp.trans (h : Kp own a b) (k : Kp (grow own a) b c) : Kp own a c :=
  ⟨k.os.trans h.os, k.tape.trans h.tape, k.output.trans h.output, Nat.le_trans h.size k.size, fun i hi hn => (k.block i (Nat.lt_of_lt_of_le hi h.size) (fun hm => by
    rcases hm with h1 | h1
    · exact hn h1
    · omega)).trans (h.block i hi hn)⟩
theorem Kp.trans' (h : Kp own a b) (k : Kp own b c) : Kp own a c :=
  ⟨k.os.trans h.os, k.tape.trans h.tape, k.output.trans h.output, Nat.le_trans h.size k.size, fun i hi hn => (k.block i (Nat.lt_of_lt_of_le hi h.size) hn).trans (h.block i hi hn)⟩
theorem Kp.mono {own' : Nat → Prop} (h : Kp own w w') (hs : ∀ k, own k → own' k) : Kp own' w w' := ⟨h.os, h.tape, h.output, h.size, fun k hk hn => h.block k hk (fun hm => hn (hs k hm))⟩
theorem Kp.here (h : Kp own a b) (k : Below b.heap.size b c) : Kp own a c := h.trans' ⟨k.os, k.tape, k.output, k.size, fun i hi _ => k.block i hi⟩
theorem Kp.of_below (k : Below w.heap.size w w') : Kp own w w' := (Kp.refl own w).here k
theorem Kp.drewN (h : Kp own a b) (n : Nat) : Kp own a (b.drewN n) := h.here (below_drewN (Below.refl _ _) n)
theorem Kp.alloc (h : Kp own a b) (o : Obj) : Kp own a (b.alloc o) := h.here (Below.alloc (Below.refl _ _) (Nat.le_refl _) o)
theorem Kp.setCell (h : Kp own a b) {p : Addr} (hp : own p.block ∨ a.heap.size ≤ p.block) (v : Value) : Kp own a (b.setCell p v) :=
  ⟨h.os, h.tape, h.output, by simpa [World.setCell] using h.size, fun i hi hn => (Below.heap_setCell b p v i (by
    rintro rfl
    rcases hp with hp | hp
    · exact hn hp
    · omega)).trans (h.block i hi hn)⟩
theorem Kp.grown (h : Kp own a b) {row : Option Nat} (k : b.grownBy c row) (hr : ∀ i, row = some i → own i ∨ a.heap.size ≤ i) : Kp own a c :=
  ⟨k.os.trans h.os, k.tape.trans h.tape, k.output.trans h.output, Nat.le_trans h.size k.size, fun i hi hn => (k.block i (Nat.lt_of_lt_of_le hi h.size) (fun e => by
    rcases hr i e.symm with h1 | h1
    · exact hn h1
    · omega)).trans (h.block i hi hn)⟩
/-- What is owned is all new. -/
theorem Kp.below {B : Nat} (h : Kp own w w') (hb : Below B a w) (hown : ∀ k, own k → B ≤ k) (hB : B ≤ w.heap.size) : Below B a w' :=
  hb.trans ⟨h.os, h.tape, h.output, h.size, fun k hk => h.block k (by omega) (fun hm => by have := hown k hm; omega)⟩
theorem Kp.cell (h : Kp own w w') {p : Addr} {v : Value} (hc : w.cell? p = some v) (hn : ¬ own p.block) : w'.cell? p = some v :=
  (World.cell?_of_block (w := w) (h.block p.block (World.block_lt_of_cell? w _ hc) hn)).trans hc
theorem Blk.kp {g : Nat} {t : TypeId} {cs : Array Value} (hb : Blk w g t cs) (h : Kp own w w') (hn : ¬ own g) : Blk w' g t cs := (h.block g hb.lt hn).trans hb
theorem grow_of (own : Nat → Prop) (w : World) (k : Nat) (h : own k) : grow own w k := .inl h
theorem grow_grow {own : Nat → Prop} {w w1 : World} (hs : w.heap.size ≤ w1.heap.size) (k : Nat) (h : grow (grow own w) w1 k) : grow own w k := by
  rcases h with h | h
  · exact h
  · exact .inr (Nat.le_trans hs h)
theorem grow_le {own : Nat → Prop} {w w1 : World} (hs : w.heap.size ≤ w1.heap.size) (k : Nat) (h : grow own w1 k) : grow own w k := h.imp id (Nat.le_trans hs)
theorem grow_ge {own : Nat → Prop} {w : World} {B : Nat} (h : ∀ k, own k → B ≤ k) (hB : B ≤ w.heap.size) : ∀ k, grow own w k → B ≤ k := fun k hk => by
  rcases hk with h1 | h1
  · exact h k h1
  · omega
end

/-- The tag of a block of cells. -/
def tag (w : World) (g : Nat) : Option TypeId := match w.heap[g]? with
  | some (.cells _ t _) => some t
  | _ => none
section
variable {own own' : Nat → Prop} {w w' : World} {g : Nat} {t e : TypeId} {cs : Array Value} {G : List Nat}
theorem tag_of {fz : Nat × Nat} (h : w.heap[g]? = some (.cells cs t fz)) : tag w g = some t := by unfold tag; rw [h]
theorem Blk.tag (h : Blk w g t cs) : Proofs.YtedjadicdodahaaGreatDoor.tag w g = some t := tag_of h
/-- What is framed has another tag. -/
theorem not_in_tag (h : tag w g = some t) (hG : ∀ k ∈ G, tag w k ≠ some t) : g ∉ G := fun hm => hG g hm h

/-- A row of the call's own. -/
structure Row (own : Nat → Prop) (e : TypeId) (size : Nat) (v : Value) (n : Nat) (xs : List Value) (w : World) : Prop where
  row : w.ownsRow 0 e size v n xs
  own : ∀ k, v.ownBlock = some k → own k
variable {size n : Nat} {v : Value} {xs : List Value}
theorem Row.tag (h : Row own e size v n xs w) {k : Nat} (hk : v.ownBlock = some k) : Proofs.YtedjadicdodahaaGreatDoor.tag w k = some e := by
  rcases h.row.2 with ⟨rfl, _⟩ | ⟨g, cap, cur, rfl, _, hh, _⟩
  · cases hk
  · injection hk with hk
    subst hk
    exact tag_of hh
theorem Row.fr (h : Row own e size v n xs w) (k : Fr G w w') (hG : ∀ j, v.ownBlock = some j → j ∉ G) : Row own e size v n xs w' :=
  ⟨own_block (h0 := h.row) fun _ hj => k.block _ (h.row.lt _ hj).2 (hG _ hj), h.own⟩
theorem Row.frt (h : Row own e size v n xs w) (k : Fr G w w') (hG : ∀ j ∈ G, Proofs.YtedjadicdodahaaGreatDoor.tag w j ≠ some e) : Row own e size v n xs w' :=
  h.fr k fun _ hj => not_in_tag (h.tag hj) hG
theorem Row.here (h : Row own e size v n xs w) (k : Below w.heap.size w w') : Row own e size v n xs w' := ⟨own_here h.row k, h.own⟩
theorem Row.mono (h : Row own e size v n xs w) (hs : ∀ k, own k → own' k) : Row own' e size v n xs w := ⟨h.row, fun k hk => hs k (h.own k hk)⟩
theorem Row.nil (own : Nat → Prop) (e : TypeId) (size : Nat) (w : World) : Row own e size (.slice none 0 0) 0 [] w := ⟨World.ownsRow_nil _ _ _ _, by simp [Value.ownBlock]⟩
end
theorem tag_here {w w' : World} (hb : Below w.heap.size w w') {g : Nat} (hg : g < w.heap.size) : tag w' g = tag w g := by unfold tag; rw [hb.block g hg]
theorem tag_fr {G : List Nat} {w w' : World} (h : Fr G w w') {g : Nat} (hg : g < w.heap.size) (hn : g ∉ G) : tag w' g = tag w g := by unfold tag; rw [h.block g hg hn]
end Go.Proofs.YtedjadicdodahaaGreatDoor

namespace Go.Proofs.YtedjadicdodahaaGreatDoor
open Go.RowKit Go.Maps

/-- The map at mb of at most n entries reads as t, its keys written by kv. -/
structure MapK {α : Type} (k e : TypeId) (q : IntKind) (kv : α → Value) (mb n : Nat) (t : α → Option Int) (w : World) : Prop where
  is : ∃ D : DataW Unit, w.ownsMap Tryz.prog k (plainElem Tryz.prog e) mb n D ∧ IsMap D ∧ ∀ (s : α) (kl : Lit), keyOf Tryz.prog k (kv s) = some kl → Maps.has D kl = (t s).isSome ∧ ∀ v, t s = some v → D.atKey kl (.lit (.int q 0)) = .lit (.int q v)
section
variable {α : Type} {k e : TypeId} {q : IntKind} {kv : α → Value} {mb n : Nat} {t : α → Option Int} {w w' : World} {G : List Nat}
theorem MapK.mono (h : MapK k e q kv mb n t w) {m : Nat} (hm : n ≤ m) : MapK k e q kv mb m t w := by
  obtain ⟨D, h1, h2⟩ := h.is
  exact ⟨D, h1.mono hm, h2⟩
theorem MapK.made (k e : TypeId) (q : IntKind) (kv : α → Value) (w : World) : MapK k e q kv w.heap.size 0 (fun _ => none) (w.alloc (.map #[] 0)) :=
  ⟨.map [], World.ownsMap_made w _ _ _, isMap_empty, fun _ _ _ => ⟨rfl, fun _ h => by cases h⟩⟩
theorem MapK.block (h : MapK k e q kv mb n t w) (hb : w'.heap[mb]? = w.heap[mb]?) : MapK k e q kv mb n t w' := by
  obtain ⟨D, ⟨es, c, h1, h3⟩, h2⟩ := h.is
  exact ⟨D, ⟨es, c, hb.trans h1, h3⟩, h2⟩
theorem MapK.lt (h : MapK k e q kv mb n t w) : mb < w.heap.size := by
  obtain ⟨D, h1, _⟩ := h.is
  exact h1.lt
theorem MapK.here (h : MapK k e q kv mb n t w) (hb : Below w.heap.size w w') : MapK k e q kv mb n t w' := h.block (hb.block mb h.lt)
theorem MapK.obj (h : MapK k e q kv mb n t w) : ∃ o, w.heap[mb]? = some o ∧ ∀ cs e fz, o ≠ .cells cs e fz := by
  obtain ⟨D, ⟨es, c, h1, _⟩, _⟩ := h.is
  exact ⟨_, h1, fun _ _ _ h => by cases h⟩
/-- A map is no block of cells. -/
theorem MapK.tag (h : MapK k e q kv mb n t w) : Proofs.YtedjadicdodahaaGreatDoor.tag w mb = none := by
  obtain ⟨D, ⟨es, c, h1, _⟩, _⟩ := h.is
  unfold Proofs.YtedjadicdodahaaGreatDoor.tag
  rw [h1]
theorem MapK.ne (h : MapK k e q kv mb n t w) {g : Nat} {u : TypeId} (hg : Proofs.YtedjadicdodahaaGreatDoor.tag w g = some u) : mb ≠ g := by
  rintro rfl
  rw [h.tag] at hg
  cases hg
theorem MapK.fr (h : MapK k e q kv mb n t w) (f : Fr G w w') (hm : mb ∉ G) : MapK k e q kv mb n t w' := h.block (f.block mb h.lt hm)
theorem MapK.ext (h : MapK k e q kv mb n t w) {t' : α → Option Int} (ht : ∀ s, t s = t' s) : MapK k e q kv mb n t' w := by
  rw [show t' = t from funext fun s => (ht s).symm]
  exact h
/-- What is stored at a key. -/
theorem MapK.put (K : Keyed Tryz.prog k) {D : DataW Unit} {s : α} {kl : Lit} {v : Int} [DecidableEq α] (hinj : ∀ a b, kv a = kv b → a = b) (hkl : keyOf Tryz.prog k (kv s) = some kl) (h2 : IsMap D)
    (h3 : ∀ (s : α) (kl : Lit), keyOf Tryz.prog k (kv s) = some kl → Maps.has D kl = (t s).isSome ∧ ∀ v, t s = some v → D.atKey kl (.lit (.int q 0)) = .lit (.int q v))
    (h : w.ownsMap Tryz.prog k (plainElem Tryz.prog e) mb n (D.put kl (.lit (.int q v)))) : MapK k e q kv mb n (fun u => if u = s then some v else t u) w := by
  refine ⟨_, h, h2.put _ _, fun u ku hu => ?_⟩
  by_cases hus : u = s
  · subst hus
    rw [hkl] at hu
    injection hu with hu
    subst hu
    simp only [if_true, Option.isSome_some, Option.some.injEq, forall_eq']
    exact ⟨has_put_same h2 (K.key hkl) _, atKey_put_same h2 (K.key hkl) _ _⟩
  · have hk : ku ≠ kl := fun h => hus (hinj _ _ (K.inj hu (h ▸ hkl)))
    simp only [hus, if_false]
    exact ⟨(has_put_other hk _).trans (h3 u ku hu).1, fun w hw => (atKey_put_other hk _ _).trans ((h3 u ku hu).2 w hw)⟩
end
theorem Tryz.keyS : Keyed Tryz.prog 9 := string_keyed Tryz.underlying9
theorem Tryz.zeroI32 (w : World) : (zeroValue 67).run Tryz.prog w = .ok (.int .i32 0) w := by kernel_rfl
theorem Tryz.zeroU32 (w : World) : (zeroValue 53).run Tryz.prog w = .ok (.int .u32 0) w := by kernel_rfl
abbrev sk (s : ByteArray) : Lit := .string s.data.toList
theorem string_inj (a b : ByteArray) (h : Value.string a = Value.string b) : a = b := by injection h
theorem keyStr (s : ByteArray) (h : s.size ≤ maxLen) : keyOf Tryz.prog 9 (.string s) = some (sk s) := WideMaps.keyOf_string_mk (P := Tryz.prog) Tryz.underlying9 h
/-- A reference as a key. -/
abbrev refV (r : Int × Int) : Value := .agg #[.int .i32 r.1, .int .i32 r.2]
theorem refV_inj (a b : Int × Int) (h : refV a = refV b) : a = b := by
  obtain ⟨a1, a2⟩ := a
  obtain ⟨b1, b2⟩ := b
  simpa [refV] using h
theorem Tryz.keyR : Keyed Tryz.prog 131 := Keyed.of_law (deep_law_laid (show laidOutB Tryz.prog = true by kernel_rfl) (m := 3) (by decide) (k := 131) (of_decide_eq_true (by kernel_rfl)) (by kernel_rfl) (by kernel_rfl))
theorem keyRef (r : Int × Int) (h1 : (Lit.int .i32 r.1).wf = true) (h2 : (Lit.int .i32 r.2).wf = true) : ∃ kl, keyOf Tryz.prog 131 (refV r) = some kl := by
  have hz : 1 ≤ Tryz.prog.types.size := of_decide_eq_true (by kernel_rfl)
  obtain ⟨d, hd⟩ : ∃ d, Tryz.prog.types.size = d + 1 := ⟨Tryz.prog.types.size - 1, by omega⟩
  have hb : (Tryz.prog.keyType 131 && (refV r).formed Tryz.prog 131) = true := by
    rw [show Tryz.prog.keyType 131 = true by kernel_rfl]
    simp only [Value.formed, Tryz.underlying131]
    rw [show Tryz.prog.cellsOf 131 = 2 by kernel_rfl]
    rfl
  have hc : Tryz.prog.cellsOf 131 = 2 := by kernel_rfl
  have hc1 : Tryz.prog.cellsOf 63 = 1 := by kernel_rfl
  have hc2 : Tryz.prog.cellsOf 67 = 1 := by kernel_rfl
  have hl : ∃ ls, Tryz.prog.keyLits (Tryz.prog.types.size + 1) 131 (refV r).cells.toList = some ls := by
    rw [hd]
    simp [Program.keyLits, Tryz.underlying131, Tryz.underlying63, Tryz.underlying67, hc, hc1, hc2, Value.cells, h1, h2]
  obtain ⟨ls, hl⟩ := hl
  unfold keyOf
  rw [Tryz.underlying131]
  simp only [hb, if_true, hl, Option.map_some]
  exact ⟨_, rfl⟩
end Go.Proofs.YtedjadicdodahaaGreatDoor
