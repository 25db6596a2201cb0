/- A package's encoder: a new element's encoder. -/
import Derived.Test.YtedjadicdodahaaDoorPEnF
namespace Go.Proofs.YtedjadicdodahaaDoor
open Go.RowKit Go.Maps

/-- A section has grown by a placeholder. -/
theorem PkSt.secNew {own : Nat → Prop} {pb mb : Nat} {ver sf : Int} {p : Pk} {w : World} (h : PkSt own pb mb ver sf p w) {f : Nat → Value} (hb : Blk w pb 38 (pkArr ver f mb sf)) (hr : ∀ k, k < 10 → Row own 9 1 (f k) (p k).length ((p k).map Value.string) w)
    (hd : ∀ j k, j < 10 → k < 10 → j ≠ k → ∀ g, (f j).ownBlock = some g → (f k).ownBlock ≠ some g) (i : Nat) (hi : i < 10) (hi0 : i ≠ 0) (t : ByteArray) (n : Nat) (hn : n = (p i).length) {A0 : Option Addr} {C0 : Nat} (hf : f i = .slice A0 n C0)
    {wa : World} (hwa : Below w.heap.size w wa) (A2 : Option Addr) (C2 : Nat) (w3 : World)
    (hrow : Row (grow own wa) 9 1 (.slice A2 (n + 1) C2) (n + 1) ((p i).map Value.string ++ [.string t]) w3) (hg : wa.grownBy w3 (Value.slice A0 n C0).ownBlock) (hvn : ∀ g, (Value.slice A2 (n + 1) C2).ownBlock = some g → (Value.slice A0 n C0).ownBlock = some g ∨ wa.heap.size ≤ g) :
    PkSt (grow own w) pb mb ver sf (fun k => if k = i then p i ++ [t] else p k) (w3.setCell ⟨pb, 1 + i, none⟩ (.slice A2 (n + 1) C2)) ∧ Kp own w (w3.setCell ⟨pb, 1 + i, none⟩ (.slice A2 (n + 1) C2)) := by
  have hbl := hb.lt
  have hml := h.map.lt
  have hmp : mb ≠ pb := h.map.ne hb.tag
  have hmr : ∀ g, (f i).ownBlock = some g → g ≠ mb ∧ g ≠ pb := fun g hg => by
    have h1 := (hr i hi).tag hg
    refine ⟨fun e => ?_, fun e => ?_⟩
    · rw [e, h.map.tag] at h1
      cases h1
    · rw [e, hb.tag] at h1
      exact absurd h1 (by decide)
  rw [← hf] at hg hvn
  have fa : Fr (pb :: (f i).ownBlock.toList) w w3 := (Fr.of_below hwa).trans (fr_of_grown (G := (f i).ownBlock.toList) hg (by simp)) (fun j hj => .inl (by simp at hj ⊢; exact .inr hj))
  have f4 := fa.setCell (p := ⟨pb, 1 + i, none⟩) (.inl (by simp)) (.slice A2 (n + 1) C2)
  have hb3 : Blk w3 pb 38 (pkArr ver f mb sf) := (hb.here hwa).grown hg (fun e => (hmr pb e).2 rfl)
  have hb4 := hb3.set_ (1 + i) (.slice A2 (n + 1) C2)
  have hv2 : ∀ g, (Value.slice A2 (n + 1) C2).ownBlock = some g → (f i).ownBlock = some g ∨ w.heap.size ≤ g := fun g hg => (hvn g hg).imp id (Nat.le_trans hwa.size)
  have hne : ∀ g, (Value.slice A2 (n + 1) C2).ownBlock = some g → g ≠ pb := fun g hg => by
    rcases hv2 g hg with h1 | h1
    · exact (hmr g h1).2
    · omega
  have hr4 : Row (grow own wa) 9 1 (.slice A2 (n + 1) C2) (n + 1) ((p i).map Value.string ++ [.string t]) (w3.setCell ⟨pb, 1 + i, none⟩ (.slice A2 (n + 1) C2)) :=
    hrow.fr (G := [pb]) ((Fr.refl _ _).setCell (.inl (by simp)) _) (fun g hg => by simpa using hne g hg)
  have hm4 : MapK 9 40 .i32 Value.string mb (p 0).length (placeT (p 0)) (w3.setCell ⟨pb, 1 + i, none⟩ (.slice A2 (n + 1) C2)) := h.map.fr f4 (by
    simp only [List.mem_cons, Option.mem_toList, not_or]
    exact ⟨hmp, fun e => (hmr mb e).1 rfl⟩)
  obtain ⟨q1, G, q2, q3⟩ := h.grew hb hr hd i hi t (.slice A2 (n + 1) C2) f4 (fun g hg => by
      simp only [List.mem_cons, Option.mem_toList] at hg
      rcases hg with rfl | hg
      · exact .inl rfl
      · exact .inr (.inr hg)) hb4 (by rw [← hn]; exact hr4.mono (grow_le hwa.size)) hv2 (by
      rw [if_neg (fun e => hi0 e.symm)]
      exact hm4)
  exact ⟨q1, Kp.of_fr q2 fun g hg => .inl (q3 g hg).1⟩
end Go.Proofs.YtedjadicdodahaaDoor
