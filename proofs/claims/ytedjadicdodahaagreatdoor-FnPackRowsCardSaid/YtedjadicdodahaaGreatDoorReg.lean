/- A region that draws its order: what each operation's value is, told once for each operation, whatever the order. -/
import Derived.Deep.RegionHeld3
import Derived.Test.YtedjadicdodahaaGreatDoorSl
namespace Go.Proofs.YtedjadicdodahaaGreatDoor
open Go.RowKit

/-- The frame with other values in the slots ds. -/
def over (a : Act) (ds : List Nat) (f : Nat → Value) : Act := { a with tmps := ds.foldl (fun t d => t.setIfInBounds d (f d)) a.tmps }

theorem over_size (f : Nat → Value) : ∀ (ds : List Nat) (t : Array Value), (ds.foldl (fun t d => t.setIfInBounds d (f d)) t).size = t.size
  | [], _ => rfl
  | d :: ds, t => by rw [List.foldl_cons, over_size f ds]; simp
theorem over_get (f : Nat → Value) : ∀ (ds : List Nat) (t : Array Value) (s : Nat), (ds.foldl (fun t d => t.setIfInBounds d (f d)) t)[s]? = if s ∈ ds ∧ s < t.size then some (f s) else t[s]?
  | [], t, s => by simp
  | d :: ds, t, s => by
    rw [List.foldl_cons, over_get f ds, Array.getElem?_setIfInBounds, Array.size_setIfInBounds]
    by_cases h : d = s
    · subst h
      by_cases hs : d < t.size
      · simp [hs]
      · simp [hs]
    · simp [h, Ne.symm h]
theorem over_eq {a a0 : Act} {ds : List Nat} (hd : a.defers = a0.defers) (hs : a.tmps.size = a0.tmps.size) (ho : ∀ s, s ∉ ds → a.tmps[s]? = a0.tmps[s]?) : a = over a0 ds (fun d => a.tmps.getD d undef) := by
  obtain ⟨t, df⟩ := a
  obtain ⟨t0, df0⟩ := a0
  simp only at hd hs ho
  subst hd
  unfold over
  simp only [Act.mk.injEq, and_true]
  apply Array.ext_getElem?
  intro s
  rw [over_get]
  by_cases h : s ∈ ds ∧ s < t0.size
  · rw [if_pos h]
    have : s < t.size := by omega
    simp [this]
  · rw [if_neg h]
    by_cases h1 : s ∈ ds
    · have h2 : ¬ s < t0.size := fun h3 => h ⟨h1, h3⟩
      rw [Array.getElem?_eq_none (by omega), Array.getElem?_eq_none (by omega)]
    · exact ho s h1

section
variable (P : Program) (ops : Array Oper) (Q : Exit → Act → World → Prop) (φ : Nat → Value → World → Prop) (R : World → World → Prop) (sl : List Nat) (a0 : Act) (w0 : World)

/-- Behind the operations es stands what they yield. -/
def Deps (f : Nat → Value) (w : World) : List Edge → Prop
  | [] => True
  | e :: es => φ e.on (f (sl.getD e.on 0)) w ∧ Deps f w es

/-- Operation i, whenever it comes up. -/
def RStep (i : Nat) (o : Oper) : Prop := ∀ (f : Nat → Value) (w : World), R w0 w → Deps φ sl f w (o.after.toList.filter (Region.binds .any)) → ∀ K : Act → World → Prop, (∀ v w', φ i (if o.dst.isSome then v else undef) w' → R w w' → K ((over a0 sl f).put o.dst v) w') →
  if Region.wanted o (yielded ops (over a0 sl f).tmps) = true then Oper.wp P o (over a0 sl f) w K Q else K ((over a0 sl f).put o.dst undef) w

def Steps (F : Nat → Oper → Prop) : Nat → List Oper → Prop
  | _, [] => True
  | i, o :: os => F i o ∧ Steps F (i + 1) os
theorem Steps.get {F : Nat → Oper → Prop} : ∀ {n : Nat} {os : List Oper}, Steps F n os → ∀ i o, os[i]? = some o → F (n + i) o
  | _, [], _, i, o, h => by simp at h
  | n, o :: os, h, 0, o', h' => by
    simp at h'
    subst h'
    exact h.1
  | n, o :: os, h, i + 1, o', h' => by
    have := Steps.get h.2 i o' (by simpa using h')
    rwa [show n + 1 + i = n + (i + 1) from by omega] at this

/-- The slots are those of the operations (a number beyond the frame where there is none), each once. -/
def slotsOk (n : Nat) : Bool :=
  ((List.range ops.size).all fun i => match (ops[i]?).bind (·.dst) with | some d => sl[i]? == some d && decide (d < n) | none => match sl[i]? with | some d => decide (n ≤ d) | none => false) &&
  ((List.range ops.size).all fun i => (List.range ops.size).all fun j => i == j || sl.getD i 0 != sl.getD j 0) &&
  ((List.range ops.size).all fun i => match ops[i]? with | some o => o.after.all (fun e => !Region.binds .any e || decide (e.on < i)) | none => true)

structure RInv (listed : Array Bool) (a : Act) (w : World) : Prop where
  rel : R w0 w
  defers : a.defers = a0.defers
  size : a.tmps.size = a0.tmps.size
  off : ∀ s, s ∉ sl → a.tmps[s]? = a0.tmps[s]?
  vals : ∀ i, i < ops.size → listed.getD i true = true → φ i (a.tmps.getD (sl.getD i 0) undef) w
end

section
variable {P : Program} {ops : Array Oper} {Q : Exit → Act → World → Prop} {φ : Nat → Value → World → Prop} {R : World → World → Prop} {sl : List Nat} {a0 : Act} {w0 : World}
theorem deps_all {f : Nat → Value} {w : World} : ∀ {es : List Edge}, (∀ e ∈ es, φ e.on (f (sl.getD e.on 0)) w) → Deps φ sl f w es
  | [], _ => trivial
  | e :: es, h => ⟨h e (by simp), deps_all fun e he => h e (by simp [he])⟩

theorem region_inv_go (hR : ∀ a b c, R a b → R b c → R a c) (hmono : ∀ i v w w', R w w' → φ i v w → φ i v w') (hok : slotsOk ops sl a0.tmps.size = true)
    (hstep : ∀ i o, ops[i]? = some o → RStep P ops Q φ R sl a0 w0 i o)
    (hend : ∀ f w, R w0 w → (∀ i, i < ops.size → φ i (f (sl.getD i 0)) w) → Q .normal (over a0 sl f) w) :
    ∀ (fuel : Nat) (listed : Array Bool) (a : Act) (w : World), listed.size = ops.size → (∃ l : List Nat, l.length ≤ fuel ∧ ∀ i, i < ops.size → listed.getD i true = false → i ∈ l) → RInv ops φ R sl a0 w0 listed a w → wpAny P .any ops Q fuel listed a w := by
  simp only [slotsOk, Bool.and_eq_true, List.all_eq_true, List.mem_range] at hok
  obtain ⟨⟨hok1, hok2⟩, hok3⟩ := hok
  -- where nothing may come up all has come up
  have hall : ∀ listed : Array Bool, listed.size = ops.size → Region.ready .any ops listed = [] → ∀ i, i < ops.size → listed.getD i true = true := by
    intro listed hls hr i
    induction i using Nat.strongRecOn with
    | ind i ih =>
      intro hi
      rcases hb : listed.getD i true with _ | _
      · exfalso
        have : i ∈ Region.ready .any ops listed := mem_ready.2 ⟨hb, ops[i], Array.getElem?_eq_getElem hi, fun e he hbn => by
          have h3 := hok3 i hi
          rw [Array.getElem?_eq_getElem hi] at h3
          simp only [Array.all_eq_true_iff_forall_mem] at h3
          have h4 := h3 e he
          simp only [hbn, Bool.not_true, Bool.false_or, decide_eq_true_eq] at h4
          have h5 := ih e.on h4 (by omega)
          have h6 : e.on < listed.size := by omega
          simp [h6] at h5 ⊢
          exact h5⟩
        rw [hr] at this
        cases this
      · rfl
  intro fuel
  induction fuel with
  | zero =>
    intro listed a w hls hl hinv
    obtain ⟨l, hl1, hl2⟩ := hl
    have hl0 : l = [] := List.eq_nil_of_length_eq_zero (by omega)
    subst hl0
    have hlist : ∀ i, i < ops.size → listed.getD i true = true := fun i hi => by
      rcases hb : listed.getD i true with _ | _
      · exact absurd (hl2 i hi hb) (by simp)
      · rfl
    refine ⟨?_, ?_⟩
    · rw [List.eq_nil_iff_forall_not_mem]
      intro i hi
      obtain ⟨h1, o, h2, _⟩ := mem_ready.1 hi
      rw [hlist i (Array.getElem?_eq_some_iff.1 h2).1] at h1
      cases h1
    · rw [over_eq hinv.defers hinv.size hinv.off]
      exact hend _ w hinv.rel (fun i hi => hinv.vals i hi (hlist i hi))
  | succ fuel ih =>
    intro listed a w hls hl hinv
    refine ⟨fun hr => ?_, fun i hi => ?_⟩
    · rw [over_eq hinv.defers hinv.size hinv.off]
      exact hend _ w hinv.rel (fun i hi => hinv.vals i hi (hall listed hls hr i hi))
    · obtain ⟨hun, o, ho, hdeps⟩ := mem_ready.1 hi
      have hi' : i < ops.size := (Array.getElem?_eq_some_iff.1 ho).1
      refine wpOp_step ho fun K' hK' => ?_
      have hov := over_eq hinv.defers hinv.size hinv.off
      have hst := hstep i o ho (fun d => a.tmps.getD d undef) w hinv.rel (deps_all fun e he => by
        simp only [List.mem_filter, Array.mem_toList_iff] at he
        have h3 := hok3 i hi'
        rw [ho] at h3
        simp only [Array.all_eq_true_iff_forall_mem] at h3
        have h4 := h3 e he.1
        simp only [he.2, Bool.not_true, Bool.false_or, decide_eq_true_eq] at h4
        refine hinv.vals e.on (by omega) ?_
        have h5 := hdeps e he.1 he.2
        have h6 : e.on < listed.size := by omega
        simp [h6] at h5 ⊢
        exact h5) K' (fun v w' hφ hrel => ?_)
      · rw [← hov] at hst
        exact hst
      · rw [← hov]
        apply hK'
        have h1 := hok1 i hi'
        rw [ho] at h1
        simp only [Option.bind_some] at h1
        refine ih _ _ _ (by simpa using hls) ?_ ?_
        · obtain ⟨l, hl1, hl2⟩ := hl
          have hmem : i ∈ l := hl2 i hi' hun
          refine ⟨l.erase i, by rw [List.length_erase_of_mem hmem]; omega, fun j hj hju => ?_⟩
          by_cases hji : j = i
          · subst hji
            have : j < listed.size := by omega
            simp [this] at hju
          · rw [Array.getD_eq_getD_getElem?, Array.getElem?_setIfInBounds, if_neg (Ne.symm hji), ← Array.getD_eq_getD_getElem?] at hju
            exact (List.mem_erase_of_ne hji).2 (hl2 j hj hju)
        · have hput : ∀ s, (a.put o.dst v).tmps[s]? = if o.dst = some s ∧ s < a.tmps.size then some v else a.tmps[s]? := fun s => by
            rcases hd : o.dst with _ | d
            · simp [Act.put]
            · simp only [Act.put, Array.getElem?_setIfInBounds, Option.some.injEq]
              by_cases hds : d = s
              · subst hds
                by_cases hlt : d < a.tmps.size
                · simp [hlt]
                · simp [hlt]
              · simp [hds]
          have hsz : (a.put o.dst v).tmps.size = a.tmps.size := by
            rcases hd : o.dst with _ | d <;> simp [Act.put]
          refine ⟨hR _ _ _ hinv.rel hrel, ?_, hsz.trans hinv.size, fun s hs => ?_, fun j hj hjl => ?_⟩
          · rw [← hinv.defers]
            rcases hd : o.dst with _ | d <;> rfl
          · rw [hput, if_neg, hinv.off s hs]
            rintro ⟨hd, _⟩
            rw [hd] at h1
            simp only [Bool.and_eq_true, beq_iff_eq] at h1
            exact hs (List.mem_of_getElem? h1.1)
          · by_cases hji : j = i
            · subst hji
              rw [Array.getD_eq_getD_getElem?, hput]
              rcases hd : o.dst with _ | d
              · rw [hd] at h1 hφ
                simp only [Option.isSome_none, Bool.false_eq_true, if_false] at hφ
                simp only [reduceCtorEq, false_and, if_false]
                have hge : a.tmps.size ≤ sl.getD j 0 := by
                  rcases hsl : sl[j]? with _ | d
                  · rw [hsl] at h1; simp at h1
                  · rw [hsl] at h1
                    simp only [decide_eq_true_eq] at h1
                    rw [List.getD_eq_getElem?_getD, hsl]
                    simp only [Option.getD_some]
                    have := hinv.size
                    omega
                rw [Array.getElem?_eq_none hge]
                exact hφ
              · rw [hd] at h1 hφ
                simp only [Bool.and_eq_true, beq_iff_eq, decide_eq_true_eq] at h1
                simp only [Option.isSome_some, if_true] at hφ
                have hg : sl.getD j 0 = d := by rw [List.getD_eq_getElem?_getD, h1.1]; rfl
                rw [hg, if_pos ⟨rfl, by rw [hinv.size]; exact h1.2⟩]
                exact hφ
            · rw [Array.getD_eq_getD_getElem?, Array.getElem?_setIfInBounds, if_neg (Ne.symm hji), ← Array.getD_eq_getD_getElem?] at hjl
              have hold := hinv.vals j hj hjl
              rw [Array.getD_eq_getD_getElem?] at hold
              rw [Array.getD_eq_getD_getElem?, hput, if_neg]
              · exact hmono _ _ _ _ hrel hold
              · rintro ⟨hd, _⟩
                rw [hd] at h1
                simp only [Bool.and_eq_true, beq_iff_eq, decide_eq_true_eq] at h1
                have h2 := hok2 i hi' j hj
                have hg : sl.getD i 0 = sl.getD j 0 := by rw [List.getD_eq_getElem?_getD, h1.1]; rfl
                simp only [Bool.or_eq_true, beq_iff_eq, bne_iff_ne] at h2
                rcases h2 with h2 | h2
                · exact hji h2.symm
                · exact h2 hg

/-- **A region that draws its order, told operation by operation.** -/
theorem region_inv {id : Nat} (hm : P.follows .mixedOrders = true) (φ : Nat → Value → World → Prop) (R : World → World → Prop) (sl : List Nat) (hr : ∀ w, R w w) (hR : ∀ a b c, R a b → R b c → R a c) (hmono : ∀ i v w w', R w w' → φ i v w → φ i v w') (hok : slotsOk ops sl a0.tmps.size = true)
    (hstep : Steps (RStep P ops Q φ R sl a0 w0.drew) 0 ops.toList)
    (hend : ∀ f w, R w0.drew w → (∀ i, i < ops.size → φ i (f (sl.getD i 0)) w) → Q .normal (over a0 sl f) w) : (Code.region id ops true).wp P Q a0 w0 :=
  wp_region_any hm (region_inv_go hR hmono hok (fun i o ho => by have := hstep.get i o (by simpa using ho); rwa [Nat.zero_add] at this) hend _ _ _ _ (by simp)
    ⟨List.range ops.size, by simp, fun i hi _ => by simpa using hi⟩ ⟨hr _, rfl, rfl, fun _ _ => rfl, fun i hi h => by simp [hi] at h⟩)
end
end Go.Proofs.YtedjadicdodahaaGreatDoor
