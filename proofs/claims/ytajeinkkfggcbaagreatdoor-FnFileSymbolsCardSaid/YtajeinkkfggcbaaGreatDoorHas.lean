/- Where a list of bytes stands within another; numbers read where they stand. -/
import Derived.Test.YtajeinkkfggcbaaGreatDoorRecs
namespace Go.Proofs.YtajeinkkfggcbaaGreatDoor
open Go.RowKit

/-- The bytes ys stand in xs from place p on. -/
def Has (xs : List Int) (p : Nat) (ys : List Int) : Prop := ∀ j z, ys[j]? = some z → xs[p + j]? = some z
theorem Has.refl (xs : List Int) : Has xs 0 xs := fun j z h => by rwa [Nat.zero_add]
theorem Has.nil (xs : List Int) (p : Nat) : Has xs p [] := fun j z h => by simp at h
theorem Has.more {xs ys : List Int} {p : Nat} (h : Has xs p ys) (zs : List Int) : Has (xs ++ zs) p ys := fun j z hz => by
  have h1 := h j z hz
  rw [List.getElem?_append_left (List.getElem?_eq_some_iff.1 h1).1]
  exact h1
theorem Has.behind {xs ys zs : List Int} {p q : Nat} (h : Has ys p zs) (hq : q = xs.length + p) : Has (xs ++ ys) q zs := fun j z hz => by
  subst hq
  rw [Nat.add_assoc, List.getElem?_append_right (by omega), Nat.add_sub_cancel_left]
  exact h j z hz
theorem Has.left {xs ys zs : List Int} {p : Nat} (h : Has xs p (ys ++ zs)) : Has xs p ys := fun j z hz => by
  refine h j z ?_
  rw [List.getElem?_append_left (List.getElem?_eq_some_iff.1 hz).1]
  exact hz
theorem Has.right {xs ys zs : List Int} {p q : Nat} (h : Has xs p (ys ++ zs)) (hq : q = p + ys.length) : Has xs q zs := fun j z hz => by
  subst hq
  rw [Nat.add_assoc]
  refine h _ z ?_
  rw [List.getElem?_append_right (by omega), Nat.add_sub_cancel_left]
  exact hz
theorem Has.drop {xs ys : List Int} {p : Nat} (h : Has xs p ys) : xs.drop p = ys ++ xs.drop (p + ys.length) := by
  apply List.ext_getElem?
  intro i
  rw [List.getElem?_drop]
  rcases Nat.lt_or_ge i ys.length with hi | hi
  · rw [List.getElem?_append_left hi]
    have h1 := h i ys[i] (by simp [hi])
    rw [h1]
    simp [hi]
  · rw [List.getElem?_append_right hi, List.getElem?_drop]
    rw [Nat.add_assoc, Nat.add_sub_cancel' hi]
theorem Has.le {xs ys : List Int} {p : Nat} (h : Has xs p ys) (hn : 0 < ys.length) : p + ys.length ≤ xs.length := by
  have h1 := h (ys.length - 1) ys[ys.length - 1] (by simp)
  have := (List.getElem?_eq_some_iff.1 h1).1
  omega
theorem has_flatMap {α : Type} {f : α → List Int} {n : Nat} : ∀ (l : List α) (_ : ∀ x ∈ l, (f x).length = n) (k : Nat) (h : k < l.length), Has (l.flatMap f) (n * k) (f l[k])
  | [], _, k, h => by simp at h
  | x :: l, hf, 0, _ => by
    rw [List.flatMap_cons]
    exact (Has.refl _).more _
  | x :: l, hf, k + 1, h => by
    rw [List.flatMap_cons]
    exact (has_flatMap l (fun y hy => hf y (List.mem_cons_of_mem _ hy)) k (by simpa using h)).behind (by rw [hf x (by simp), Nat.mul_succ, Nat.add_comm])
theorem flatMap_length {α : Type} {f : α → List Int} {n : Nat} : ∀ (l : List α) (_ : ∀ x ∈ l, (f x).length = n), (l.flatMap f).length = n * l.length
  | [], _ => rfl
  | x :: l, hf => by
    rw [List.flatMap_cons, List.length_append, hf x (by simp), flatMap_length l (fun y hy => hf y (List.mem_cons_of_mem _ hy)), List.length_cons, Nat.mul_succ]
    omega

/-- A slice's cells, each at its place. -/
def At (w : World) (g o : Nat) (xs : List Int) : Prop := ∀ j z, xs[j]? = some z → w.cell? ⟨g, o + j, none⟩ = some (.int .u8 z)
theorem At.heap {w w' : World} {g o : Nat} {xs : List Int} (h : At w g o xs) (hb : w'.heap[g]? = w.heap[g]?) : At w' g o xs := fun j z hz => (World.cell?_of_block (w := w) hb).trans (h j z hz)
theorem At.right {w : World} {g o : Nat} {xs ys : List Int} (h : At w g o (xs ++ ys)) : At w g (o + xs.length) ys := fun j z hz => by
  rw [Nat.add_assoc]
  exact h (xs.length + j) z (by rw [List.getElem?_append_right (by omega), Nat.add_sub_cancel_left]; exact hz)
theorem At.here {w w' : World} {g o : Nat} {xs : List Int} (h : At w g o xs) (hb : Below w.heap.size w w') : At w' g o xs := fun j z hz => keep_cell hb (h j z hz)
theorem At.drewN {w : World} {g o : Nat} {xs : List Int} (h : At w g o xs) (n : Nat) : At (w.drewN n) g o xs := h
theorem At.drew {w : World} {g o : Nat} {xs : List Int} (h : At w g o xs) : At w.drew g o xs := h
theorem At.far {w : World} {g o : Nat} {xs : List Int} (h : At w g o xs) {p : Addr} (hp : g ≠ p.block) (u : Value) : At (w.setCell p u) g o xs := h.heap (Below.heap_setCell w p u g hp)
theorem At.has {w : World} {g o p : Nat} {xs ys : List Int} (h : At w g o xs) (k : Has xs p ys) : At w g (o + p) ys := fun j z hz => by
  rw [Nat.add_assoc]
  exact h _ z (k j z hz)
theorem At.drop {w : World} {g o : Nat} {xs : List Int} (h : At w g o xs) (p : Nat) : At w g (o + p) (xs.drop p) := fun j z hz => by
  rw [Nat.add_assoc]
  exact h _ z (by rw [← List.getElem?_drop]; exact hz)
theorem SlI.at_ {w : World} {A : Option Addr} {xs : List Int} (h : SlI .u8 w A xs) (hn : 0 < xs.length) : ∃ g o, A = some ⟨g, o, none⟩ ∧ At w g o xs := by
  obtain ⟨b, o, e, hc⟩ := h hn
  exact ⟨b, o, e, hc⟩
theorem At.lt {w : World} {g o : Nat} {xs : List Int} (h : At w g o xs) (hn : 0 < xs.length) : g < w.heap.size :=
  World.block_lt_of_cell? w _ (h 0 xs[0] (by simp [hn]))

/-- A number in four bytes, read where it stands. -/
theorem le32_rd {g o p : Nat} {xs : List Int} {v : Int} {w : World} (h : At w g o xs) (k : Has xs p (le4 v)) (h0 : 0 ≤ v) (h1 : v < 4294967296) (n c : Nat) (hl : 4 ≤ n) :
    Calls Tryz.prog 55 #[.slice (some ⟨g, o + p, none⟩) n c] w (RetQ (.int .u32 v) w) := by
  have a := h.has k
  have r := le32_at g (o + p) n c v w hl (a 0 _ rfl) (a 1 _ rfl) (a 2 _ rfl) (a 3 _ rfl)
  rwa [show v % 4294967296 = v from by omega] at r
end Go.Proofs.YtajeinkkfggcbaaGreatDoor
