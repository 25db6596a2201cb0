/- Words for memory: a block known whole; what a call leaves. -/
import Derived.WalkKit
import Derived.WalkLawsBesides
import Derived.WalkSpells
import Derived.Outline
import Derived.BigQuiet
import Derived.Deep.QuietTactic
import Derived.Deep.RegionHeld3
import Derived.StillTactics
import Derived.Lib.EndianBits
import Derived.Lib.Hide
import Derived.Handy
import Derived.Laws.StructEq
import Derived.ChangeKeysEq
import Derived.Test.YtedjadicdodahaaGreatDoorLaw
namespace Go.Proofs.YtedjadicdodahaaGreatDoor
open Go.RowKit

def Blk (w : World) (g : Nat) (t : TypeId) (cs : Array Value) : Prop := w.heap[g]? = some (.cells cs t (0, 0))

theorem below_drewN {B : Nat} {a w : World} (h : Below B a w) (n : Nat) : Below B a (w.drewN n) := ⟨h.os, h.tape, h.output, h.size, h.block⟩
theorem below_of_drewN {a w : World} {n : Nat} (h : Below a.heap.size (a.drewN n) w) : Below a.heap.size a w := ⟨h.os, h.tape, h.output, h.size, h.block⟩

section
variable {w w' : World} {g : Nat} {t : TypeId} {cs : Array Value}
theorem Blk.lt (h : Blk w g t cs) : g < w.heap.size := by
  rcases Nat.lt_or_ge g w.heap.size with hlt | hge
  · exact hlt
  · unfold Blk at h; rw [Array.getElem?_eq_none hge] at h; cases h
theorem Blk.cell (h : Blk w g t cs) (i : Nat) : w.cell? ⟨g, i, none⟩ = cs[i]? := cell_of_row w g i cs t (0, 0) h
theorem Blk.frozen (h : Blk w g t cs) (i : Nat) : w.frozen? ⟨g, i, none⟩ = false := by
  unfold Blk at h
  simp [World.frozen?, h]
theorem Blk.new (w : World) (t : TypeId) (cs : Array Value) : Blk (w.alloc (.cells cs t)) w.heap.size t cs := heap_alloc_new w _
theorem Blk.new1 (w : World) (o : Obj) (t : TypeId) (cs : Array Value) : Blk ((w.alloc o).alloc (.cells cs t)) (w.heap.size + 1) t cs := by
  have h := Blk.new (w.alloc o) t cs
  rwa [World.size_alloc] at h
theorem Blk.drew (h : Blk w g t cs) : Blk w.drew g t cs := h
theorem Blk.drewN (h : Blk w g t cs) (n : Nat) : Blk (w.drewN n) g t cs := h
theorem Blk.alloc (h : Blk w g t cs) (o : Obj) : Blk (w.alloc o) g t cs := (Below.heap_alloc w o g h.lt).trans h
theorem Blk.set_ (h : Blk w g t cs) (i : Nat) (u : Value) : Blk (w.setCell ⟨g, i, none⟩ u) g t (cs.setIfInBounds i u) := by
  unfold Blk at h ⊢
  simp [World.setCell, Array.getElem?_modify, h]
theorem Blk.far (h : Blk w g t cs) {p : Addr} (hp : g ≠ p.block) (u : Value) : Blk (w.setCell p u) g t cs := (Below.heap_setCell w p u g hp).trans h
theorem Blk.below {B : Nat} (h : Blk w g t cs) (hb : Below B w w') (hg : g < B) : Blk w' g t cs := (hb.block g hg).trans h
theorem Blk.here (h : Blk w g t cs) (hb : Below w.heap.size w w') : Blk w' g t cs := h.below hb h.lt
end

theorem below_from {w W w' : World} (h : Below w.heap.size w W) (h' : Below W.heap.size W w') : Below w.heap.size w w' := h.trans (h'.mono h.size)

theorem bcell {W w1 : World} (hb : Below W.heap.size W w1) : (∀ b o, b < W.heap.size → w1.cell? ⟨b, o, none⟩ = W.cell? ⟨b, o, none⟩) ∧ (∀ b o, b < W.heap.size → w1.frozen? ⟨b, o, none⟩ = W.frozen? ⟨b, o, none⟩) ∧ W.heap.size ≤ w1.heap.size :=
  ⟨fun b o h => hb.cell (p := ⟨b, o, none⟩) h, fun b o h => hb.frozen (p := ⟨b, o, none⟩) h, hb.size⟩

/-- A cell that was there reads as it did. -/
theorem keep_cell {W w1 : World} (hb : Below W.heap.size W w1) {a : Addr} {v : Value} (h : W.cell? a = some v) : w1.cell? a = some v := (hb.cell (World.block_lt_of_cell? W _ h)).trans h

/-- A call that returns v and turns nothing that was there. -/
def RetV (v : Value) (w : World) (e : Ending) (w' : World) : Prop := e = .returned v ∧ Below w.heap.size w w'
/-- A call that returns a pointer to a new block. -/
def RetNew (t : TypeId) (cs : Array Value) (w : World) (e : Ending) (w' : World) : Prop := ∃ g, e = .returned (.pointer (some ⟨g, 0, none⟩)) ∧ w.heap.size ≤ g ∧ Blk w' g t cs ∧ Below w.heap.size w w'
/-- A call that returns v and only draws. -/
def RetQ (v : Value) (w : World) (e : Ending) (w' : World) : Prop := e = .returned v ∧ ∃ n, w' = w.drewN n

theorem RetV.of_eq {v : Value} {w w' : World} {e : Ending} (h : e = .returned v) (hw : w' = w) : RetV v w e w' := ⟨h, hw ▸ Below.refl _ _⟩


/-! ONLY THE BLOCKS gs, AND WHAT IS NEW, HAVE TURNED. -/
structure Fr (gs : List Nat) (w w' : World) : Prop where
  os : w'.os = w.os
  tape : w'.tape = w.tape
  output : w'.output = w.output
  size : w.heap.size ≤ w'.heap.size
  block : ∀ k, k < w.heap.size → k ∉ gs → w'.heap[k]? = w.heap[k]?

section
variable {gs hs : List Nat} {a b c w w' : World}
theorem Fr.refl (gs : List Nat) (w : World) : Fr gs w w := ⟨rfl, rfl, rfl, Nat.le_refl _, fun _ _ _ => rfl⟩
theorem Fr.of_below (h : Below w.heap.size w w') : Fr gs w w' := ⟨h.os, h.tape, h.output, h.size, fun k hk _ => h.block k hk⟩
theorem Fr.below (h : Fr [] w w') : Below w.heap.size w w' := ⟨h.os, h.tape, h.output, h.size, fun k hk => h.block k hk (by simp)⟩
theorem Fr.trans (h : Fr gs a b) (k : Fr hs b c) (hk : ∀ j ∈ hs, j ∈ gs ∨ a.heap.size ≤ j) : Fr gs a c :=
  ⟨k.os.trans h.os, k.tape.trans h.tape, k.output.trans h.output, Nat.le_trans h.size k.size, fun i hi hn => (k.block i (Nat.lt_of_lt_of_le hi h.size) (fun hm => by
    rcases hk i hm with h1 | h1
    · exact hn h1
    · omega)).trans (h.block i hi hn)⟩
theorem Fr.trans0 (h : Fr gs a b) (k : Below b.heap.size b c) : Fr gs a c := h.trans (Fr.of_below (gs := []) k) (by simp)
theorem Fr.trans1 (h : Fr gs a b) (k : Fr gs b c) : Fr gs a c := h.trans k (fun _ hj => .inl hj)
theorem Fr.drew (h : Fr gs a w) : Fr gs a w.drew := ⟨h.os, h.tape, h.output, h.size, h.block⟩
theorem Fr.drewN (h : Fr gs a w) (n : Nat) : Fr gs a (w.drewN n) := ⟨h.os, h.tape, h.output, h.size, h.block⟩
theorem Fr.alloc (h : Fr gs a w) (o : Obj) : Fr gs a (w.alloc o) := h.trans0 (Below.alloc (Below.refl _ _) (Nat.le_refl _) o)
theorem Fr.setCell (h : Fr gs a w) {p : Addr} (hp : p.block ∈ gs ∨ a.heap.size ≤ p.block) (u : Value) : Fr gs a (w.setCell p u) :=
  ⟨h.os, h.tape, h.output, by simpa [World.setCell] using h.size, fun i hi hn => (Below.heap_setCell w p u i (by
    rintro rfl
    rcases hp with hp | hp
    · exact hn hp
    · omega)).trans (h.block i hi hn)⟩
theorem Fr.cell (h : Fr gs w w') {a : Addr} {v : Value} (hc : w.cell? a = some v) (hn : a.block ∉ gs) : w'.cell? a = some v :=
  (World.cell?_of_block (w := w) (h.block a.block (World.block_lt_of_cell? w _ hc) hn)).trans hc
theorem Blk.fr {g : Nat} {t : TypeId} {cs : Array Value} (hb : Blk w g t cs) (h : Fr gs w w') (hn : g ∉ gs) : Blk w' g t cs := (h.block g hb.lt hn).trans hb
end

/-- A call without results that writes block g: it holds cs behind. -/
def Wr (g : Nat) (t : TypeId) (cs : Array Value) (w : World) (e : Ending) (w' : World) : Prop := e = .returned (.tuple #[]) ∧ Blk w' g t cs ∧ Fr [g] w w'

/-! Two arrays of integers compared. -/
section
variable {P : Program} {e : TypeId} {k : IntKind}
theorem eqItems_ints (w : World) (d : Nat) (he : P.underlying e = some (.int k)) (hc : P.cellsOf e = 1) (xs ys : List Int) : ∀ is : List Nat, (∀ i ∈ is, i < xs.length ∧ i < ys.length) →
    (Op.eqItems (d + 1) e (P.cellsOf e) (xs.map (Value.int k)).toArray (ys.map (Value.int k)).toArray is).run P w = .ok (is.all fun i => xs.getD i 0 == ys.getD i 0) w
  | [], _ => by simp [Op.eqItems]
  | i :: is, h => by
    have hpl : P.plainKey e = true := by simp [Program.plainKey, he]
    have h0 := h i (by simp)
    have p1 : (part e (xs.map (Value.int k)).toArray (i * P.cellsOf e)).run P w = .ok (.int k (xs.getD i 0)) w := run_part_plain w hpl (by rw [hc]; simp [h0.1])
    have p2 : (part e (ys.map (Value.int k)).toArray (i * P.cellsOf e)).run P w = .ok (.int k (ys.getD i 0)) w := run_part_plain w hpl (by rw [hc]; simp [h0.2])
    have p3 := run_equalIn_int w d e k k (xs.getD i 0) (ys.getD i 0) he
    simp only [Op.eqItems, Sem.run_bind, p1, p2, p3, Result.andThen_ok]
    have ih := eqItems_ints w d he hc xs ys is (fun j hj => h j (by simp [hj]))
    cases hb : (xs.getD i 0 == ys.getD i 0) with
    | true => simp only [Bool.not_true, Bool.false_eq_true, if_false, ih, List.all_cons, hb, Bool.true_and]
    | false => simp only [Bool.not_false, if_true, Sem.run_pure, List.all_cons, hb, Bool.false_and]
theorem all_range_eq (xs ys : List Int) (n : Nat) (h1 : xs.length = n) (h2 : ys.length = n) : ((List.range n).all fun i => xs.getD i 0 == ys.getD i 0) = decide (xs = ys) := by
  rw [Bool.eq_iff_iff]
  simp only [List.all_eq_true, List.mem_range, beq_iff_eq, decide_eq_true_eq]
  constructor
  · intro h
    apply List.ext_getElem (by omega)
    intro i hi hi'
    have := h i (by omega)
    simpa [List.getElem?_eq_getElem, hi, hi'] using this
  · rintro rfl i _; rfl
theorem run_eql_ints {t : TypeId} {n : Nat} (w : World) (ht : P.underlying t = some (.array n e)) (he : P.underlying e = some (.int k)) (hc : P.cellsOf e = 1) (hi : (P.info? e).isSome = true) (xs ys : List Int) (h1 : xs.length = n) (h2 : ys.length = n) :
    (binOp .eql t (.agg (xs.map (Value.int k)).toArray) (.agg (ys.map (Value.int k)).toArray)).run P w = .ok (.bool (decide (xs = ys))) w := by
  obtain ⟨i, hi⟩ := Option.isSome_iff_exists.1 hi
  rw [run_eql_struct, run_equalIn_array w 9999 _ _ ht hi, eqItems_ints w 9998 he hc xs ys _ (fun j hj => by rw [List.mem_range] at hj; omega), all_range_eq xs ys n h1 h2]
  rfl
end
end Go.Proofs.YtedjadicdodahaaGreatDoor
