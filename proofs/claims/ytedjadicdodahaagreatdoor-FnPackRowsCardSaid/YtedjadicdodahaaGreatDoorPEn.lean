/- A package's encoder, and an element's: what their blocks hold. -/
import Derived.Test.YtedjadicdodahaaGreatDoorQOwn
import Derived.Test.YtedjadicdodahaaGreatDoorQBuf
import Derived.Test.YtedjadicdodahaaGreatDoorQPk
namespace Go.Proofs.YtedjadicdodahaaGreatDoor
open Go.RowKit Go.Maps

def refCells (rs : List (Int × Int)) : List Value := rs.flatMap fun r => [.int .i32 r.1, .int .i32 r.2]
theorem refCells_len (rs : List (Int × Int)) : (refCells rs).length = rs.length * 2 := by
  induction rs with
  | nil => rfl
  | cons r rs ih => show (_ :: _ :: refCells rs).length = _; simp only [List.length_cons, ih]; omega
theorem refCells_snoc (rs : List (Int × Int)) (r : Int × Int) : refCells (rs ++ [r]) = refCells rs ++ [.int .i32 r.1, .int .i32 r.2] := by simp [refCells]
/-- Where each stands. -/
def placeT {α : Type} [DecidableEq α] (l : List α) (s : α) : Option Int := if s ∈ l then some (idx l s : Nat) else none
theorem placeT_put {α : Type} [DecidableEq α] (l : List α) (x : α) (h : x ∉ l) (s : α) : (if s = x then some ((l.length : Nat) : Int) else placeT l s) = placeT (l ++ [x]) s := by
  unfold placeT
  by_cases hs : s = x
  · subst hs
    rw [if_pos rfl, if_pos (by simp)]
    congr 2
    unfold idx
    rw [List.idxOf_append, if_neg h]
    simp
  · rw [if_neg hs]
    by_cases hm : s ∈ l
    · rw [if_pos hm, if_pos (by simp [hm])]
      congr 2
      unfold idx
      rw [List.idxOf_append, if_pos hm]
    · rw [if_neg hm, if_neg (by simp [hm, hs])]
def sfI (s : Bool) : Int := if s then 0 else -1
abbrev pkArr (ver : Int) (f : Nat → Value) (mb : Nat) (sf : Int) : Array Value := #[.int .u32 ver, f 0, f 1, f 2, f 3, f 4, f 5, f 6, f 7, f 8, f 9, .map (some mb), .int .i64 sf]
theorem pkArr_at (ver : Int) (f : Nat → Value) (mb : Nat) (sf : Int) (k : Nat) (h : k < 10) : (pkArr ver f mb sf)[1 + k]? = some (f k) := by
  match k, h with
  | 0, _ | 1, _ | 2, _ | 3, _ | 4, _ | 5, _ | 6, _ | 7, _ | 8, _ | 9, _ => rfl
theorem pkArr_set (ver : Int) (f : Nat → Value) (mb : Nat) (sf : Int) (k : Nat) (h : k < 10) (v : Value) : (pkArr ver f mb sf).setIfInBounds (1 + k) v = pkArr ver (fun j => if j = k then v else f j) mb sf := by
  match k, h with
  | 0, _ | 1, _ | 2, _ | 3, _ | 4, _ | 5, _ | 6, _ | 7, _ | 8, _ | 9, _ => rfl

/-- A package's encoder: the sections p. -/
structure PkSt (own : Nat → Prop) (pb mb : Nat) (ver sf : Int) (p : Pk) (w : World) : Prop where
  low : own pb ∧ own mb
  is : ∃ f : Nat → Value, Blk w pb 58 (pkArr ver f mb sf) ∧ (∀ k, k < 10 → Row own 9 1 (f k) (p k).length ((p k).map Value.string) w) ∧ ∀ j k, j < 10 → k < 10 → j ≠ k → ∀ g, (f j).ownBlock = some g → (f k).ownBlock ≠ some g
  map : MapK 9 67 .i32 Value.string mb (p 0).length (placeT (p 0)) w
def encR (pb : Nat) (rs rm : Value) (k idx : Int) (hd : Bool) : Nat → Option Value := fun i => match i with
  | 0 => some (.pointer (some ⟨pb, 0, none⟩))
  | 1 => some rs
  | 2 => some rm
  | 6 => some (.bool hd)
  | 7 => some (.int .i32 k)
  | 8 => some (.int .i32 idx)
  | _ => none
/-- The references' map: none as long as there are no references. -/
def RelM (own : Nat → Prop) (mb : Nat) (rm : Value) (rs : List (Int × Int)) (w : World) : Prop :=
  (rm = .map none ∧ rs = []) ∨ ∃ m, rm = .map (some m) ∧ own m ∧ m ≠ mb ∧ MapK 131 53 .u32 refV m rs.length (placeT rs) w
/-- An element's encoder. -/
structure EnSt (own : Nat → Prop) (pb eb mb : Nat) (e : Es) (k idx : Int) (hd : Bool) (w : World) : Prop where
  low : own eb
  is : ∃ (F : List Nat) (rs rm : Value), Bf 122 (encR pb rs rm k idx hd) eb 3 F e.ds w ∧ (∀ g ∈ F, own g ∧ tag w g = some 5) ∧ Row own 131 2 rs e.rs.length (refCells e.rs) w ∧ RelM own mb rm e.rs w
section
variable {own own' : Nat → Prop} {pb eb mb : Nat} {ver sf : Int} {p : Pk} {e : Es} {k idx : Int} {hd : Bool} {w w' : World} {G : List Nat}
theorem Bf.tag {T : TypeId} {R : Nat → Option Value} {b q : Nat} {F : List Nat} {bs : List UInt8} (h : Bf T R b q F bs w) : Proofs.YtedjadicdodahaaGreatDoor.tag w b = some T := by
  obtain ⟨lr, ⟨_, ⟨cs, h, _⟩⟩ | ⟨g, cap, cur, ⟨cs, h, _⟩, _⟩⟩ := h
  · exact tag_of h
  · exact tag_of h
theorem Bf.tight2 {T : TypeId} {R : Nat → Option Value} {b q : Nat} {F : List Nat} {bs : List UInt8} (h : Bf T R b q F bs w) : ∃ F', (∀ k ∈ F', k ∈ F ∧ Proofs.YtedjadicdodahaaGreatDoor.tag w k = some 5) ∧ Bf T R b q F' bs w := by
  obtain ⟨lr, h | ⟨g, cap, cur, h, hF, hg, hh, r⟩⟩ := h
  · exact ⟨[], by simp, lr, .inl h⟩
  · exact ⟨[g], by simp; exact ⟨hF, tag_of hh⟩, lr, .inr ⟨g, cap, cur, h, by simp, hg, hh, r⟩⟩
theorem Bf.rest {T : TypeId} {R : Nat → Option Value} {b q : Nat} {F : List Nat} {bs : List UInt8} (h : Bf T R b q F bs w) (i : Nat) (hi : i < q ∨ q + 3 ≤ i) : w.cell? ⟨b, i, none⟩ = R i := by
  obtain ⟨lr, ⟨_, h⟩ | ⟨g, cap, cur, h, _⟩⟩ := h
  · exact h.rest i hi
  · exact h.rest i hi
theorem Bf.f {T : TypeId} {R : Nat → Option Value} {b q : Nat} {F : List Nat} {bs : List UInt8} (h : Bf T R b q F bs w) (i : Nat) : w.frozen? ⟨b, i, none⟩ = false := by
  obtain ⟨lr, ⟨_, h⟩ | ⟨g, cap, cur, h, _⟩⟩ := h
  · exact h.f i
  · exact h.f i
theorem three_set {T : TypeId} {R : Nat → Option Value} {b q : Nat} {x y z : Value} (h : LibA.Three w b q T R x y z) (i : Nat) (hi : i < q ∨ q + 3 ≤ i) (hR : R i ≠ none) (v : Value) :
    LibA.Three (w.setCell ⟨b, i, none⟩ v) b q T (fun j => if j = i then some v else R j) x y z := by
  obtain ⟨cs, hb, h0, h1, h2, hr⟩ := h
  have hlt : i < cs.size := by
    rcases Nat.lt_or_ge i cs.size with h | h
    · exact h
    · exact absurd ((hr i hi).symm.trans (Array.getElem?_eq_none h)) hR
  refine ⟨_, Lib.heap_setCell_same (i := i) hb v, by rw [Array.getElem?_setIfInBounds_ne (by omega)]; exact h0, by rw [Array.getElem?_setIfInBounds_ne (by omega)]; exact h1, by rw [Array.getElem?_setIfInBounds_ne (by omega)]; exact h2, fun j hj => ?_⟩
  by_cases hji : j = i
  · subst hji
    simp [hlt]
  · rw [Array.getElem?_setIfInBounds_ne (by omega)]
    show _ = if j = i then some v else R j
    rw [if_neg hji]
    exact hr j hj
theorem Bf.setR {T : TypeId} {R R' : Nat → Option Value} {b q : Nat} {F : List Nat} {bs : List UInt8} (h : Bf T R b q F bs w) (i : Nat) (hi : i < q ∨ q + 3 ≤ i) (hR : R i ≠ none) (v : Value) (hR' : ∀ j, R' j = if j = i then some v else R j) : Bf T R' b q F bs (w.setCell ⟨b, i, none⟩ v) := by
  obtain rfl : R' = fun j => if j = i then some v else R j := funext hR'
  obtain ⟨lr, ⟨h0, h⟩ | ⟨g, cap, cur, h, hF, hg, hh, r⟩⟩ := h
  · exact ⟨lr, .inl ⟨h0, three_set h i hi hR v⟩⟩
  · exact ⟨lr, .inr ⟨g, cap, cur, three_set h i hi hR v, hF, hg, (Below.heap_setCell _ _ _ _ hg).trans hh, r⟩⟩
theorem encR_1 (pb : Nat) (rs rm : Value) (k idx : Int) (hd : Bool) (v : Value) (j : Nat) : encR pb v rm k idx hd j = if j = 1 then some v else encR pb rs rm k idx hd j := by
  match j with
  | 0 | 1 | 2 | 3 | 4 | 5 | 6 | 7 | 8 => rfl
  | j + 9 => rw [if_neg (by omega)]; rfl
theorem encR_2 (pb : Nat) (rs rm : Value) (k idx : Int) (hd : Bool) (v : Value) (j : Nat) : encR pb rs v k idx hd j = if j = 2 then some v else encR pb rs rm k idx hd j := by
  match j with
  | 0 | 1 | 2 | 3 | 4 | 5 | 6 | 7 | 8 => rfl
  | j + 9 => rw [if_neg (by omega)]; rfl
theorem encR_6 (pb : Nat) (rs rm : Value) (k idx : Int) (hd h2 : Bool) (j : Nat) : encR pb rs rm k idx h2 j = if j = 6 then some (.bool h2) else encR pb rs rm k idx hd j := by
  match j with
  | 0 | 1 | 2 | 3 | 4 | 5 | 6 | 7 | 8 => rfl
  | j + 9 => rw [if_neg (by omega)]; rfl

theorem PkSt.mono (h : PkSt own pb mb ver sf p w) (hs : ∀ k, own k → own' k) : PkSt own' pb mb ver sf p w := by
  obtain ⟨f, h1, h2, h3⟩ := h.is
  exact ⟨⟨hs _ h.low.1, hs _ h.low.2⟩, ⟨f, h1, fun k hk => (h2 k hk).mono hs, h3⟩, h.map⟩
theorem PkSt.tag (h : PkSt own pb mb ver sf p w) : Proofs.YtedjadicdodahaaGreatDoor.tag w pb = some 58 := by
  obtain ⟨f, h1, _⟩ := h.is
  exact h1.tag
/-- What leaves its blocks alone, by their tags. -/
theorem PkSt.fr (h : PkSt own pb mb ver sf p w) (k : Fr G w w') (hG : ∀ g ∈ G, (∃ t, Proofs.YtedjadicdodahaaGreatDoor.tag w g = some t ∧ t ≠ 9 ∧ t ≠ 58) ∨ (Proofs.YtedjadicdodahaaGreatDoor.tag w g = none ∧ g ≠ mb)) : PkSt own pb mb ver sf p w' := by
  obtain ⟨f, h1, h2, h3⟩ := h.is
  have hn : ∀ t, t = 9 ∨ t = 58 → ∀ g ∈ G, Proofs.YtedjadicdodahaaGreatDoor.tag w g ≠ some t := fun t ht g hg h' => by
    rcases hG g hg with ⟨u, hu, u1, u2⟩ | ⟨hu, _⟩
    · rw [hu] at h'
      injection h' with h'
      subst h'
      rcases ht with ht | ht
      · exact u1 ht
      · exact u2 ht
    · rw [hu] at h'
      cases h'
  refine ⟨h.low, ⟨f, h1.fr k (not_in_tag h1.tag (hn _ (.inr rfl))), fun j hj => (h2 j hj).frt k (hn _ (.inl rfl)), h3⟩, h.map.fr k fun hm => ?_⟩
  rcases hG mb hm with ⟨u, hu, _⟩ | ⟨_, hu⟩
  · rw [h.map.tag] at hu
    cases hu
  · exact hu rfl
theorem PkSt.here (h : PkSt own pb mb ver sf p w) (k : Below w.heap.size w w') : PkSt own pb mb ver sf p w' := h.fr (Fr.of_below (gs := []) k) (by simp)
theorem RelM.mono {rm : Value} {rs : List (Int × Int)} (h : RelM own mb rm rs w) (hs : ∀ k, own k → own' k) : RelM own' mb rm rs w := by
  rcases h with h | ⟨m, h1, h2, h3, h4⟩
  · exact .inl h
  · exact .inr ⟨m, h1, hs _ h2, h3, h4⟩
theorem RelM.fr {rm : Value} {rs : List (Int × Int)} (h : RelM own mb rm rs w) (k : Fr G w w') (hG : ∀ g ∈ G, g = mb ∨ Proofs.YtedjadicdodahaaGreatDoor.tag w g ≠ none) : RelM own mb rm rs w' := by
  rcases h with h | ⟨m, h1, h2, h3, h4⟩
  · exact .inl h
  · refine .inr ⟨m, h1, h2, h3, h4.fr k fun hm => ?_⟩
    rcases hG m hm with h | h
    · exact h3 h
    · exact h h4.tag
theorem EnSt.mono (h : EnSt own pb eb mb e k idx hd w) (hs : ∀ k, own k → own' k) : EnSt own' pb eb mb e k idx hd w := by
  obtain ⟨F, rs, rm, h1, h2, h3, h4⟩ := h.is
  exact ⟨hs _ h.low, F, rs, rm, h1, fun g hg => ⟨hs _ (h2 g hg).1, (h2 g hg).2⟩, h3.mono hs, h4.mono hs⟩
theorem EnSt.tag (h : EnSt own pb eb mb e k idx hd w) : Proofs.YtedjadicdodahaaGreatDoor.tag w eb = some 122 := by
  obtain ⟨F, rs, rm, h1, _⟩ := h.is
  exact h1.tag
theorem EnSt.fr (h : EnSt own pb eb mb e k idx hd w) (f : Fr G w w') (hG : ∀ g ∈ G, g = mb ∨ ∃ t, Proofs.YtedjadicdodahaaGreatDoor.tag w g = some t ∧ t ≠ 5 ∧ t ≠ 122 ∧ t ≠ 131) (hm : Proofs.YtedjadicdodahaaGreatDoor.tag w mb = none) : EnSt own pb eb mb e k idx hd w' := by
  obtain ⟨F, rs, rm, h1, h2, h3, h4⟩ := h.is
  have hn : ∀ t, t = 5 ∨ t = 122 ∨ t = 131 → ∀ g ∈ G, Proofs.YtedjadicdodahaaGreatDoor.tag w g ≠ some t := fun t ht g hg h' => by
    rcases hG g hg with rfl | ⟨u, hu, u1, u2, u3⟩
    · rw [hm] at h'
      cases h'
    · rw [hu] at h'
      injection h' with h'
      subst h'
      rcases ht with ht | ht | ht
      · exact u1 ht
      · exact u2 ht
      · exact u3 ht
  refine ⟨h.low, F, rs, rm, h1.fr f (not_in_tag h1.tag (hn _ (.inr (.inl rfl)))) (fun j hj => not_in_tag (h2 j hj).2 (hn _ (.inl rfl))), fun g hg => ⟨(h2 g hg).1, ?_⟩, h3.frt f (hn _ (.inr (.inr rfl))), h4.fr f fun g hg => ?_⟩
  · rw [tag_fr f (by
      have := (h2 g hg).2
      unfold Proofs.YtedjadicdodahaaGreatDoor.tag at this
      rcases Nat.lt_or_ge g w.heap.size with h | h
      · exact h
      · rw [Array.getElem?_eq_none h] at this
        cases this) (not_in_tag (h2 g hg).2 (hn _ (.inl rfl)))]
    exact (h2 g hg).2
  · rcases hG g hg with h | ⟨t, ht, _⟩
    · exact .inl h
    · exact .inr (by rw [ht]; simp)
theorem EnSt.here (h : EnSt own pb eb mb e k idx hd w) (f : Below w.heap.size w w') : EnSt own pb eb mb e k idx hd w' := by
  obtain ⟨F, rs, rm, h1, h2, h3, h4⟩ := h.is
  refine ⟨h.low, F, rs, rm, h1.here f, fun g hg => ⟨(h2 g hg).1, ?_⟩, h3.here f, h4.fr (Fr.of_below (gs := []) f) (by simp)⟩
  rw [tag_here f (by
    have := (h2 g hg).2
    unfold Proofs.YtedjadicdodahaaGreatDoor.tag at this
    rcases Nat.lt_or_ge g w.heap.size with h | h
    · exact h
    · rw [Array.getElem?_eq_none h] at this
      cases this)]
  exact (h2 g hg).2
end
/-- Both: the package's, whose strings the element's knows. -/
def withS (p : Pk) (ss : List ByteArray) : Pk := fun k => if k = 0 then ss else p k
structure En (own : Nat → Prop) (pb eb mb : Nat) (ver : Int) (s : Bool) (p : Pk) (e : Es) (k idx : Int) (hd : Bool) (w : World) : Prop where
  pk : PkSt own pb mb ver (sfI s) (withS p e.ss) w
  en : EnSt own pb eb mb e k idx hd w
section
variable {own own' : Nat → Prop} {pb eb mb : Nat} {ver : Int} {s : Bool} {p : Pk} {e : Es} {k idx : Int} {hd : Bool} {w w' : World}
theorem En.mono (h : En own pb eb mb ver s p e k idx hd w) (hs : ∀ k, own k → own' k) : En own' pb eb mb ver s p e k idx hd w := ⟨h.pk.mono hs, h.en.mono hs⟩
theorem En.here (h : En own pb eb mb ver s p e k idx hd w) (f : Below w.heap.size w w') : En own pb eb mb ver s p e k idx hd w' := ⟨h.pk.here f, h.en.here f⟩
end
/-- What a method leaves: what it returns, what holds behind, and that nothing but what is owned has turned. -/
structure Met (own : Nat → Prop) (w : World) (v : Value) (S : (Nat → Prop) → World → Prop) (e : Ending) (w' : World) : Prop where
  ret : e = .returned v
  st : S (grow own w) w'
  kp : Kp own w w'
/-- Seen from where one began. -/
theorem Met.from {own : Nat → Prop} {w w1 w2 : World} {v : Value} {S : (Nat → Prop) → World → Prop} {e : Ending} (h : Met (grow own w) w1 v S e w2) (k : Kp own w w1) (mono : ∀ (o o' : Nat → Prop), (∀ j, o j → o' j) → S o w2 → S o' w2) : Met own w v S e w2 :=
  ⟨h.ret, mono _ _ (grow_grow k.size) h.st, k.trans h.kp⟩
end Go.Proofs.YtedjadicdodahaaGreatDoor
