/- An element's encoder closed: Flush. -/
import Derived.Test.YtedjadicdodahaaDoorPEnX
import Derived.Test.YtedjadicdodahaaDoorQIo
namespace Go.Proofs.YtedjadicdodahaaDoor
open Go.RowKit Go.Maps

theorem Fr.of_kp {own : Nat → Prop} {G : List Nat} {w w' : World} (h : Kp own w w') (hG : ∀ k, own k → k ∈ G) : Fr G w w' := ⟨h.os, h.tape, h.output, h.size, fun k hk hn => h.block k hk (fun ho => hn (hG k ho))⟩
section
variable {rs : Value} {own own' : Nat → Prop} {pb eb mb : Nat} {ver sf : Int} {s : Bool} {p : Pk} {e : Es} {k idx : Int} {hd : Bool} {w w' : World}
theorem Row.tight {t : TypeId} {size n : Nat} {v : Value} {xs : List Value} (h : Row own t size v n xs w) : Row (fun k => own k ∧ k < w.heap.size) t size v n xs w := ⟨h.row, fun k hk => ⟨h.own k hk, (h.row.lt k hk).2⟩⟩
theorem PkSt.tight (h : PkSt own pb mb ver sf p w) : PkSt (fun k => own k ∧ k < w.heap.size) pb mb ver sf p w := by
  obtain ⟨f, h1, h2, h3⟩ := h.is
  exact ⟨⟨⟨h.low.1, h1.lt⟩, h.low.2, h.map.lt⟩, ⟨f, h1, fun k hk => (h2 k hk).tight, h3⟩, h.map⟩
end
/-- The element's bytes in place of its placeholder. -/
theorem PkSt.setEl {own : Nat → Prop} {pb mb : Nat} {ver sf : Int} {p : Pk} {w : World} (h : PkSt own pb mb ver sf p w) (k i : Nat) (hk : k < 10) (hk0 : k ≠ 0) (hi : i < (p k).length) (t : ByteArray) :
    ∃ g C, w.cell? ⟨pb, 1 + k, none⟩ = some (.slice (some ⟨g, 0, none⟩) (p k).length C) ∧ (p k).length ≤ C ∧ g ≠ pb ∧ own g ∧ (∃ v, w.cell? ⟨g, i, none⟩ = some v) ∧ w.frozen? ⟨g, i, none⟩ = false ∧ Proofs.YtedjadicdodahaaDoor.tag w g = some 9 ∧ ∀ w2, Kp (fun _ => False) w w2 → PkSt own pb mb ver sf (fun j => if j = k then (p k).set i t else p j) (w2.setCell ⟨g, i, none⟩ (.string t)) := by
  obtain ⟨f, hb, hr, hd⟩ := h.is
  obtain ⟨A0, C0, hf0, hc0⟩ := own_slice (hr k hk).row
  have hR := hr k hk
  rw [hf0] at hR
  obtain ⟨g, rfl, hg, htg, hnc, hcm, hcl⟩ := hR.at (by rw [List.length_map]; omega)
  have hil := hcl i (by rw [List.length_map]; exact hi)
  have hgp : g ≠ pb := fun e => by
    rw [e, hb.tag] at htg
    exact absurd htg (by decide)
  refine ⟨g, C0, by rw [hb.cell, pkArr_at _ _ _ _ _ hk, hf0], hnc, hgp, hg, ?_, hil.2, htg, fun w2 hw2 => ?_⟩
  · rw [hil.1]
    exact ⟨_, List.getElem?_eq_getElem (by rw [List.length_map]; exact hi)⟩
  · have fr2 : Fr [] w w2 := Fr.of_kp hw2 (fun _ h => h.elim)
    have fr : Fr [g] w (w2.setCell ⟨g, i, none⟩ (.string t)) := (fr2.mono (by simp)).setCell (.inl (by simp)) _
    have hgm : mb ≠ g := h.map.ne htg
    refine ⟨h.low, ⟨f, hb.fr fr (by simpa using hgp.symm), fun j hj => ?_, hd⟩, ?_⟩
    · show Row _ _ _ (f j) (if j = k then (p k).set i t else p j).length ((if j = k then (p k).set i t else p j).map Value.string) _
      by_cases hjk : j = k
      · subst hjk
        rw [if_pos rfl, List.length_set]
        refine ⟨?_, hR.own |> fun ho => by rw [hf0]; exact ho⟩
        have hrow := hR.row
        rcases hrow.2 with ⟨hv, h0⟩ | ⟨g', cap, cur, hv, _, hh, hn, hm, hcs, htk⟩
        · simp at hv
        · simp only [Value.slice.injEq, Option.some.injEq, Addr.mk.injEq, and_true, true_and] at hv
          obtain ⟨rfl, rfl⟩ := hv
          have hh2 : w2.heap[g]? = some (.cells cur 9 (0, 0)) := (fr2.block g (Lib.lt_of_heap hh) (by simp)).trans hh
          rw [hf0]
          refine ⟨by rw [List.length_map, List.length_set, Nat.mul_one], .inr ⟨g, C0, cur.setIfInBounds i (.string t), rfl, Nat.zero_le _, Lib.heap_setCell_same (i := i) hh2 _, hn, hm, by rw [Array.size_setIfInBounds]; exact hcs, ?_⟩⟩
          rw [Array.toList_setIfInBounds, List.take_set, htk, List.map_set]
      · rw [if_neg hjk]
        exact (hr j hj).fr fr (fun q hq => by
          simp only [List.mem_singleton]
          rintro rfl
          exact hd j k hj hk hjk q hq (by rw [hf0]; rfl))
    · have h0 : (if (0 : Nat) = k then (p k).set i t else p 0) = p 0 := if_neg (fun e => hk0 e.symm)
      show MapK _ _ _ _ _ (if (0 : Nat) = k then (p k).set i t else p 0).length (placeT (if (0 : Nat) = k then (p k).set i t else p 0)) _
      rw [h0]
      exact h.map.fr fr (by simpa using hgm)
section
variable {rs : Value} {own own' own2 : Nat → Prop} {pb eb mb : Nat} {ver sf : Int} {s : Bool} {p : Pk} {e : Es} {k idx : Int} {hd : Bool} {w w' : World}
theorem Kp.comp {a b c : World} (h : Kp own a b) (k : Kp own2 b c) (hs : ∀ g, own2 g → own g ∨ a.heap.size ≤ g) : Kp own a c :=
  ⟨k.os.trans h.os, k.tape.trans h.tape, k.output.trans h.output, Nat.le_trans h.size k.size, fun i hi hn => (k.block i (Nat.lt_of_lt_of_le hi h.size) (fun hm => by
    rcases hs i hm with h1 | h1
    · exact hn h1
    · omega)).trans (h.block i hi hn)⟩
theorem Row.kp {t : TypeId} {size n : Nat} {v : Value} {xs : List Value} (h : Row own t size v n xs w) (k : Kp own2 w w') (hd : ∀ g, own g → ¬ own2 g) : Row own t size v n xs w' :=
  ⟨own_block (h0 := h.row) fun _ hj => k.block _ (h.row.lt _ hj).2 (hd _ (h.own _ hj)), h.own⟩
theorem MapK.kp {α : Type} {kt et : TypeId} {q : IntKind} {kv : α → Value} {m n : Nat} {t : α → Option Int} (h : MapK kt et q kv m n t w) (k : Kp own2 w w') (hd : ¬ own2 m) : MapK kt et q kv m n t w' := h.block (k.block m h.lt hd)
theorem PkSt.kp (h : PkSt own pb mb ver sf p w) (k : Kp own2 w w') (hd : ∀ g, own g → ¬ own2 g) : PkSt own pb mb ver sf p w' := by
  obtain ⟨f, h1, h2, h3⟩ := h.is
  exact ⟨h.low, ⟨f, h1.kp k (hd _ h.low.1), fun j hj => (h2 j hj).kp k hd, h3⟩, h.map.kp k (hd _ h.low.2)⟩
theorem tag_kp (k : Kp own2 w w') {g : Nat} {t : TypeId} (h : Proofs.YtedjadicdodahaaDoor.tag w g = some t) (hn : ¬ own2 g) : Proofs.YtedjadicdodahaaDoor.tag w' g = some t := by
  unfold Proofs.YtedjadicdodahaaDoor.tag at h ⊢
  rw [k.block g (tag_lt h) hn]
  exact h
end
end Go.Proofs.YtedjadicdodahaaDoor
