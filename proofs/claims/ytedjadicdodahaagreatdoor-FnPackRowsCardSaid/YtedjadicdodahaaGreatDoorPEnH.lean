/- An element's encoder closed: Flush. -/
import Derived.Test.YtedjadicdodahaaGreatDoorPEnX
import Derived.Test.YtedjadicdodahaaGreatDoorQIo
namespace Go.Proofs.YtedjadicdodahaaGreatDoor
open Go.RowKit Go.Maps

theorem Fr.of_kp {own : Nat → Prop} {G : List Nat} {w w' : World} (h : Kp own w w') (hG : ∀ k, own k → k ∈ G) : Fr G w w' := ⟨h.os, h.tape, h.output, h.size, fun k hk hn => h.block k hk (fun ho => hn (hG k ho))⟩
section
variable {rs : Value} {own own' : Nat → Prop} {pb eb mb : Nat} {ver sf : Int} {s : Bool} {p : Pk} {e : Es} {k idx : Int} {hd : Bool} {w w' : World}
theorem Row.tight {t : TypeId} {size n : Nat} {v : Value} {xs : List Value} (h : Row own t size v n xs w) : Row (fun k => own k ∧ k < w.heap.size) t size v n xs w := ⟨h.row, fun k hk => ⟨h.own k hk, (h.row.lt k hk).2⟩⟩
theorem PkSt.tight (h : PkSt own pb mb ver sf p w) : PkSt (fun k => own k ∧ k < w.heap.size) pb mb ver sf p w := by
  obtain ⟨f, h1, h2, h3⟩ := h.is
  exact ⟨⟨⟨h.low.1, h1.lt⟩, h.low.2, h.map.lt⟩, ⟨f, h1, fun k hk => (h2 k hk).tight, h3⟩, h.map⟩
theorem EnX.tight (h : EnX rs own pb eb mb ver s p e k idx hd w) : EnX rs (fun k => own k ∧ k < w.heap.size) pb eb mb ver s p e k idx hd w := by
  obtain ⟨F, rm, h1, h2, h3, h4⟩ := h.en.is
  refine ⟨h.pk.tight, ⟨h.en.low, h1.lt⟩, F, rm, h1, fun g hg => ⟨⟨(h2 g hg).1, tag_lt (h2 g hg).2⟩, (h2 g hg).2⟩, h3.tight, ?_⟩
  rcases h4 with h4 | ⟨m, g1, g2, g3, g4⟩
  · exact .inl h4
  · exact .inr ⟨m, g1, ⟨g2, g4.lt⟩, g3, g4⟩
/-- The data as a buffer of its own. -/
theorem EnX.bo (h : EnX rs own pb eb mb ver s p e k idx hd w) : ∃ (F : List Nat) (rm : Value), Bo (fun g => g = eb ∨ g ∈ F) 122 (encR pb rs rm k idx hd) eb 3 e.ds w ∧ (∀ g ∈ F, own g ∧ tag w g = some 5) ∧
    ∀ (b : List UInt8) (w' : World) (G : List Nat), Fr G w w' → (∀ g ∈ G, g = eb ∨ g ∈ F ∨ (∃ t, tag w g = some t ∧ t ≠ 9 ∧ t ≠ 58 ∧ t ≠ 131)) → Bo (fun g => g = eb ∨ g ∈ F) 122 (encR pb rs rm k idx hd) eb 3 b w' →
      EnX rs own pb eb mb ver s p ⟨e.ss, e.rs, b⟩ k idx hd w' := by
  obtain ⟨F, rm, h1, h2, h3, h4⟩ := h.en.is
  refine ⟨F, rm, ⟨.inl rfl, F, h1, fun g hg => .inr hg⟩, h2, fun b w' G hG ht hb => ?_⟩
  have hG2 : ∀ g ∈ G, ∃ t, tag w g = some t ∧ t ≠ 9 ∧ t ≠ 58 ∧ t ≠ 131 := fun g hg => by
    rcases ht g hg with rfl | hF | h
    · exact ⟨_, h1.tag, by decide, by decide, by decide⟩
    · exact ⟨_, (h2 g hF).2, by decide, by decide, by decide⟩
    · exact h
  obtain ⟨F1, g1, g2⟩ := hb.is
  obtain ⟨F2, g3, g4⟩ := g1.tight2
  refine ⟨h.pk.fr hG fun g hg => ?_, h.en.low, F2, rm, g4, fun g hg => ⟨?_, (g3 g hg).2⟩, h3.frt hG fun g hg h' => ?_, h4.fr hG fun g hg => .inr fun h' => ?_⟩
  · obtain ⟨t, q1, q2, q3, _⟩ := hG2 g hg
    exact .inl ⟨t, q1, q2, q3⟩
  · rcases g2 g (g3 g hg).1 with rfl | hF
    · exact h.en.low
    · exact (h2 g hF).1
  · obtain ⟨t, q1, _, _, q4⟩ := hG2 g hg
    rw [q1] at h'
    injection h' with h'
    exact q4 h'
  · obtain ⟨t, q1, _⟩ := hG2 g hg
    rw [q1] at h'
    cases h'
theorem EnX.setHd (h : EnX rs own pb eb mb ver s p e k idx hd w) (h2 : Bool) : EnX rs own pb eb mb ver s p e k idx h2 (w.setCell ⟨eb, 6, none⟩ (.bool h2)) ∧ Kp own w (w.setCell ⟨eb, 6, none⟩ (.bool h2)) := by
  obtain ⟨F, rm, g1, g2, g3, g4⟩ := h.en.is
  have fr : Fr [eb] w (w.setCell ⟨eb, 6, none⟩ (.bool h2)) := (Fr.refl _ _).setCell (.inl (by simp)) _
  have hte := g1.tag
  refine ⟨⟨h.pk.fr fr (by simp only [List.mem_singleton, forall_eq]; exact .inl ⟨_, hte, by decide, by decide⟩), h.en.low, F, rm, g1.setR 6 (.inr (by omega)) (by simp [encR]) _ (encR_6 _ _ _ _ _ _ _), fun g hg => ⟨(g2 g hg).1, ?_⟩, g3.frt fr (by simp only [List.mem_singleton, forall_eq]; rw [hte]; decide), g4.fr fr (by simp only [List.mem_singleton, forall_eq]; exact .inr (by rw [hte]; simp))⟩, Kp.of_fr fr (by simpa using .inl h.en.low)⟩
  rw [tag_fr fr (tag_lt (g2 g hg).2) (by
    simp only [List.mem_singleton]
    rintro rfl
    have := (g2 g hg).2
    rw [hte] at this
    exact absurd this (by decide))]
  exact (g2 g hg).2
end
/-- The element's bytes in place of its placeholder. -/
theorem PkSt.setEl {own : Nat → Prop} {pb mb : Nat} {ver sf : Int} {p : Pk} {w : World} (h : PkSt own pb mb ver sf p w) (k i : Nat) (hk : k < 10) (hk0 : k ≠ 0) (hi : i < (p k).length) (t : ByteArray) :
    ∃ g C, w.cell? ⟨pb, 1 + k, none⟩ = some (.slice (some ⟨g, 0, none⟩) (p k).length C) ∧ (p k).length ≤ C ∧ g ≠ pb ∧ own g ∧ (∃ v, w.cell? ⟨g, i, none⟩ = some v) ∧ w.frozen? ⟨g, i, none⟩ = false ∧ Proofs.YtedjadicdodahaaGreatDoor.tag w g = some 9 ∧ ∀ w2, Kp (fun _ => False) w w2 → PkSt own pb mb ver sf (fun j => if j = k then (p k).set i t else p j) (w2.setCell ⟨g, i, none⟩ (.string t)) := by
  obtain ⟨f, hb, hr, hd⟩ := h.is
  obtain ⟨A0, C0, hf0, hc0⟩ := own_slice (hr k hk).row
  have hR := hr k hk
  rw [hf0] at hR
  obtain ⟨g, rfl, hg, htg, hnc, hcm, hcl⟩ := hR.at (by rw [List.length_map]; omega)
  have hil := hcl i (by rw [List.length_map]; exact hi)
  have hgp : g ≠ pb := fun e => by
    rw [e, hb.tag] at htg
    exact absurd htg (by decide)
  refine ⟨g, C0, by rw [hb.cell, pkArr_at _ _ _ _ _ hk, hf0], hnc, hgp, hg, ?_, hil.2, htg, fun w2 hw2 => ?_⟩
  · rw [hil.1]
    exact ⟨_, List.getElem?_eq_getElem (by rw [List.length_map]; exact hi)⟩
  · have fr2 : Fr [] w w2 := Fr.of_kp hw2 (fun _ h => h.elim)
    have fr : Fr [g] w (w2.setCell ⟨g, i, none⟩ (.string t)) := (fr2.mono (by simp)).setCell (.inl (by simp)) _
    have hgm : mb ≠ g := h.map.ne htg
    refine ⟨h.low, ⟨f, hb.fr fr (by simpa using hgp.symm), fun j hj => ?_, hd⟩, ?_⟩
    · show Row _ _ _ (f j) (if j = k then (p k).set i t else p j).length ((if j = k then (p k).set i t else p j).map Value.string) _
      by_cases hjk : j = k
      · subst hjk
        rw [if_pos rfl, List.length_set]
        refine ⟨?_, hR.own |> fun ho => by rw [hf0]; exact ho⟩
        have hrow := hR.row
        rcases hrow.2 with ⟨hv, h0⟩ | ⟨g', cap, cur, hv, _, hh, hn, hm, hcs, htk⟩
        · simp at hv
        · simp only [Value.slice.injEq, Option.some.injEq, Addr.mk.injEq, and_true, true_and] at hv
          obtain ⟨rfl, rfl⟩ := hv
          have hh2 : w2.heap[g]? = some (.cells cur 9 (0, 0)) := (fr2.block g (Lib.lt_of_heap hh) (by simp)).trans hh
          rw [hf0]
          refine ⟨by rw [List.length_map, List.length_set, Nat.mul_one], .inr ⟨g, C0, cur.setIfInBounds i (.string t), rfl, Nat.zero_le _, Lib.heap_setCell_same (i := i) hh2 _, hn, hm, by rw [Array.size_setIfInBounds]; exact hcs, ?_⟩⟩
          rw [Array.toList_setIfInBounds, List.take_set, htk, List.map_set]
      · rw [if_neg hjk]
        exact (hr j hj).fr fr (fun q hq => by
          simp only [List.mem_singleton]
          rintro rfl
          exact hd j k hj hk hjk q hq (by rw [hf0]; rfl))
    · have h0 : (if (0 : Nat) = k then (p k).set i t else p 0) = p 0 := if_neg (fun e => hk0 e.symm)
      show MapK _ _ _ _ _ (if (0 : Nat) = k then (p k).set i t else p 0).length (placeT (if (0 : Nat) = k then (p k).set i t else p 0)) _
      rw [h0]
      exact h.map.fr fr (by simpa using hgm)
section
variable {rs : Value} {own own' own2 : Nat → Prop} {pb eb mb : Nat} {ver sf : Int} {s : Bool} {p : Pk} {e : Es} {k idx : Int} {hd : Bool} {w w' : World}
theorem Kp.comp {a b c : World} (h : Kp own a b) (k : Kp own2 b c) (hs : ∀ g, own2 g → own g ∨ a.heap.size ≤ g) : Kp own a c :=
  ⟨k.os.trans h.os, k.tape.trans h.tape, k.output.trans h.output, Nat.le_trans h.size k.size, fun i hi hn => (k.block i (Nat.lt_of_lt_of_le hi h.size) (fun hm => by
    rcases hs i hm with h1 | h1
    · exact hn h1
    · omega)).trans (h.block i hi hn)⟩
theorem Row.kp {t : TypeId} {size n : Nat} {v : Value} {xs : List Value} (h : Row own t size v n xs w) (k : Kp own2 w w') (hd : ∀ g, own g → ¬ own2 g) : Row own t size v n xs w' :=
  ⟨own_block (h0 := h.row) fun _ hj => k.block _ (h.row.lt _ hj).2 (hd _ (h.own _ hj)), h.own⟩
theorem MapK.kp {α : Type} {kt et : TypeId} {q : IntKind} {kv : α → Value} {m n : Nat} {t : α → Option Int} (h : MapK kt et q kv m n t w) (k : Kp own2 w w') (hd : ¬ own2 m) : MapK kt et q kv m n t w' := h.block (k.block m h.lt hd)
theorem PkSt.kp (h : PkSt own pb mb ver sf p w) (k : Kp own2 w w') (hd : ∀ g, own g → ¬ own2 g) : PkSt own pb mb ver sf p w' := by
  obtain ⟨f, h1, h2, h3⟩ := h.is
  exact ⟨h.low, ⟨f, h1.kp k (hd _ h.low.1), fun j hj => (h2 j hj).kp k hd, h3⟩, h.map.kp k (hd _ h.low.2)⟩
theorem tag_kp (k : Kp own2 w w') {g : Nat} {t : TypeId} (h : Proofs.YtedjadicdodahaaGreatDoor.tag w g = some t) (hn : ¬ own2 g) : Proofs.YtedjadicdodahaaGreatDoor.tag w' g = some t := by
  unfold Proofs.YtedjadicdodahaaGreatDoor.tag at h ⊢
  rw [k.block g (tag_lt h) hn]
  exact h
theorem EnX.kp (h : EnX rs own pb eb mb ver s p e k idx hd w) (q : Kp own2 w w') (hdj : ∀ g, own g → ¬ own2 g) : EnX rs own pb eb mb ver s p e k idx hd w' := by
  obtain ⟨F, rm, h1, h2, h3, h4⟩ := h.en.is
  obtain ⟨F2, g3, g4⟩ := ((Bo.mk h.en.low ⟨F, h1, fun g hg => (h2 g hg).1⟩ : Bo own _ _ eb 3 e.ds w).kp q hdj).is
  obtain ⟨F3, q1, q2⟩ := g3.tight2
  refine ⟨h.pk.kp q hdj, h.en.low, F3, rm, q2, fun g hg => ⟨g4 g (q1 g hg).1, (q1 g hg).2⟩, h3.kp q hdj, ?_⟩
  rcases h4 with h4 | ⟨m, r1, r2, r3, r4⟩
  · exact .inl h4
  · exact .inr ⟨m, r1, r2, r3, r4.kp q (hdj m r2)⟩
end
end Go.Proofs.YtedjadicdodahaaGreatDoor
