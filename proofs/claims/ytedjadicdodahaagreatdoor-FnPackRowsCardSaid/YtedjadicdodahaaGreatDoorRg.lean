/- A region that draws its order, told operation by operation, but for its last ones, which come in one order. -/
import Derived.Test.YtedjadicdodahaaGreatDoorReg
namespace Go.Proofs.YtedjadicdodahaaGreatDoor
open Go.RowKit

section
variable {P : Program} {ops : Array Oper} {Q : Exit → Act → World → Prop} {φ : Nat → Value → World → Prop} {ψ : Nat → Nat → Value → Value → Prop} {R : World → World → Prop} {sl : List Nat} {a0 : Act} {w0 : World}
/-- Operation i, whenever it comes up; how its value stands to those of the others. -/
def RStep2 (P : Program) (ops : Array Oper) (Q : Exit → Act → World → Prop) (φ : Nat → Value → World → Prop) (ψ : Nat → Nat → Value → Value → Prop) (R : World → World → Prop) (sl : List Nat) (a0 : Act) (w0 : World) (i : Nat) (o : Oper) : Prop := ∀ (f : Nat → Value) (w : World), R w0 w → Deps φ sl f w (o.after.toList.filter (Region.binds .any)) → ∀ K : Act → World → Prop, (∀ v w', φ i (if o.dst.isSome then v else undef) w' → R w w' → (∀ j u, φ j u w → ψ i j (if o.dst.isSome then v else undef) u ∧ ψ j i u (if o.dst.isSome then v else undef)) → K ((over a0 sl f).put o.dst v) w') →
  if Region.wanted o (yielded ops (over a0 sl f).tmps) = true then Oper.wp P o (over a0 sl f) w K Q else K ((over a0 sl f).put o.dst undef) w
/-- Does operation i wait for operation j (in so many steps)? -/
def reaches (ops : Array Oper) : Nat → Nat → Nat → Bool
  | 0, _, _ => false
  | n + 1, i, j => match ops[i]? with
    | some o => o.after.toList.any fun e => Region.binds .any e && (e.on == j || reaches ops n e.on j)
    | none => false
/-- What has come up has come up behind what it waits for. -/
def Closed (ops : Array Oper) (listed : Array Bool) : Prop := ∀ i o, ops[i]? = some o → listed.getD i false = true → ∀ e ∈ o.after, Region.binds .any e = true → listed.getD e.on false = true
theorem reaches_listed {ops : Array Oper} {listed : Array Bool} (hc : Closed ops listed) : ∀ (n i j : Nat) (o : Oper), ops[i]? = some o → (∀ e ∈ o.after, Region.binds .any e = true → listed.getD e.on false = true) → reaches ops n i j = true → listed.getD j false = true
  | 0, i, j, o, ho, hr, h => by simp [reaches] at h
  | n + 1, i, j, o, ho, hr, h => by
    unfold reaches at h
    rw [ho] at h
    simp only [List.any_eq_true, Bool.and_eq_true, Bool.or_eq_true, beq_iff_eq] at h
    obtain ⟨e, he, hb, h1⟩ := h
    have he2 := Array.mem_toList_iff.1 he
    have hl := hr e he2 hb
    rcases h1 with rfl | h1
    · exact hl
    · cases ho2 : ops[e.on]? with
      | none =>
        exfalso
        cases n with
        | zero => simp [reaches] at h1
        | succ n => unfold reaches at h1; rw [ho2] at h1; cases h1
      | some o2 => exact reaches_listed hc n e.on j o2 ho2 (hc e.on o2 ho2 hl) h1
/-- What has come up: the first T. -/
def headsUp (n T : Nat) : Array Bool := ((List.range n).map fun i => decide (i < T)).toArray
theorem headsUp_eq {n T : Nat} {listed : Array Bool} (hs : listed.size = n) (h1 : ∀ i, i < T → i < n → listed.getD i true = true) (h2 : ∀ i, T ≤ i → i < n → listed.getD i true = false) : listed = headsUp n T := by
  apply Array.ext
  · simp [headsUp, hs]
  · intro i hi hi2
    have e : listed.getD i true = listed[i] := by simp [hi]
    have e2 : (headsUp n T)[i] = decide (i < T) := by simp [headsUp]
    rw [← e, e2]
    by_cases h : i < T
    · rw [h1 i h (by omega), decide_eq_true h]
    · rw [h2 i (by omega) (by omega), decide_eq_false h]
theorem region_tail_go (T : Nat) (hTs : T ≤ ops.size) (hR : ∀ a b c, R a b → R b c → R a c) (hmono : ∀ i v w w', R w w' → φ i v w → φ i v w') (hok : slotsOk ops sl a0.tmps.size = true)
    (hwait : ∀ i, T ≤ i → i < ops.size → ∀ j, j < T → reaches ops ops.size i j = true)
    (hstep : ∀ i o, i < T → ops[i]? = some o → RStep2 P ops Q φ ψ R sl a0 w0 i o)
    (hend : ∀ f w fuel, ops.size - T ≤ fuel → R w0 w → (∀ i, i < T → φ i (f (sl.getD i 0)) w) → (∀ i j, i < T → j < T → i ≠ j → ψ i j (f (sl.getD i 0)) (f (sl.getD j 0))) → wpAny P .any ops Q fuel (headsUp ops.size T) (over a0 sl f) w) :
    ∀ (k fuel : Nat) (listed : Array Bool) (a : Act) (w : World), listed.size = ops.size → (∃ l : List Nat, l.length ≤ k ∧ ∀ i, i < T → listed.getD i true = false → i ∈ l) → k + (ops.size - T) ≤ fuel → (∀ i, T ≤ i → i < ops.size → listed.getD i true = false) → Closed ops listed → RInv ops φ R sl a0 w0 listed a w → (∀ i j, i < ops.size → j < ops.size → i ≠ j → listed.getD i true = true → listed.getD j true = true → ψ i j (a.tmps.getD (sl.getD i 0) undef) (a.tmps.getD (sl.getD j 0) undef)) → wpAny P .any ops Q fuel listed a w := by
  simp only [slotsOk, Bool.and_eq_true, List.all_eq_true, List.mem_range] at hok
  obtain ⟨⟨hok1, hok2⟩, hok3⟩ := hok
  -- where nothing may come up all has come up
  have hall : ∀ listed : Array Bool, listed.size = ops.size → Region.ready .any ops listed = [] → ∀ i, i < ops.size → listed.getD i true = true := by
    intro listed hls hr i
    induction i using Nat.strongRecOn with
    | ind i ih =>
      intro hi
      rcases hb : listed.getD i true with _ | _
      · exfalso
        have : i ∈ Region.ready .any ops listed := mem_ready.2 ⟨hb, ops[i], Array.getElem?_eq_getElem hi, fun e he hbn => by
          have h3 := hok3 i hi
          rw [Array.getElem?_eq_getElem hi] at h3
          simp only [Array.all_eq_true_iff_forall_mem] at h3
          have h4 := h3 e he
          simp only [hbn, Bool.not_true, Bool.false_or, decide_eq_true_eq] at h4
          have h5 := ih e.on h4 (by omega)
          have h6 : e.on < listed.size := by omega
          simp [h6] at h5 ⊢
          exact h5⟩
        rw [hr] at this
        cases this
      · rfl
  have hfin : ∀ (fuel : Nat) (listed : Array Bool) (a : Act) (w : World), listed.size = ops.size → ops.size - T ≤ fuel → (∀ i, T ≤ i → i < ops.size → listed.getD i true = false) → RInv ops φ R sl a0 w0 listed a w → (∀ i j, i < ops.size → j < ops.size → i ≠ j → listed.getD i true = true → listed.getD j true = true → ψ i j (a.tmps.getD (sl.getD i 0) undef) (a.tmps.getD (sl.getD j 0) undef)) → (∀ i, i < T → listed.getD i true = true) → wpAny P .any ops Q fuel listed a w := by
    intro fuel listed a w hls hf htl hinv hpr hh
    rw [headsUp_eq hls (fun i h1 _ => hh i h1) htl, over_eq hinv.defers hinv.size hinv.off]
    exact hend _ w fuel hf hinv.rel (fun i hi => hinv.vals i (by omega) (hh i hi)) (fun i j hi hj hij => hpr i j (by omega) (by omega) hij (hh i hi) (hh j hj))
  intro k
  induction k with
  | zero =>
    intro fuel listed a w hls hl hf htl hcl hinv hpr
    obtain ⟨l, hl1, hl2⟩ := hl
    have hl0 : l = [] := List.eq_nil_of_length_eq_zero (by omega)
    subst hl0
    refine hfin fuel listed a w hls (by omega) htl hinv hpr (fun i hi => ?_)
    rcases hb : listed.getD i true with _ | _
    · exact absurd (hl2 i hi hb) (by simp)
    · rfl
  | succ k ih =>
    intro fuel listed a w hls hl hf htl hcl hinv hpr
    by_cases hh : ∀ i, i < T → listed.getD i true = true
    · exact hfin fuel listed a w hls (by omega) htl hinv hpr hh
    obtain ⟨fuel, rfl⟩ : ∃ n, fuel = n + 1 := ⟨fuel - 1, by omega⟩
    refine ⟨fun hr => absurd (fun i hi => hall listed hls hr i (by omega)) hh, fun i hi => ?_⟩
    have hiT : i < T := by
      rcases Nat.lt_or_ge i T with h | h
      · exact h
      · exfalso
        apply hh
        intro j hj
        obtain ⟨hun, o, ho, hdeps⟩ := mem_ready.1 hi
        have h5 := reaches_listed hcl ops.size i j o ho hdeps (hwait i h (Array.getElem?_eq_some_iff.1 ho).1 j hj)
        have h6 : j < listed.size := by omega
        simp [h6] at h5 ⊢
        exact h5
    · obtain ⟨hun, o, ho, hdeps⟩ := mem_ready.1 hi
      have hi' : i < ops.size := (Array.getElem?_eq_some_iff.1 ho).1
      refine wpOp_step ho fun K' hK' => ?_
      have hov := over_eq hinv.defers hinv.size hinv.off
      have hst := hstep i o hiT ho (fun d => a.tmps.getD d undef) w hinv.rel (deps_all fun e he => by
        simp only [List.mem_filter, Array.mem_toList_iff] at he
        have h3 := hok3 i hi'
        rw [ho] at h3
        simp only [Array.all_eq_true_iff_forall_mem] at h3
        have h4 := h3 e he.1
        simp only [he.2, Bool.not_true, Bool.false_or, decide_eq_true_eq] at h4
        refine hinv.vals e.on (by omega) ?_
        have h5 := hdeps e he.1 he.2
        have h6 : e.on < listed.size := by omega
        simp [h6] at h5 ⊢
        exact h5) K' (fun v w' hφ hrel hψ => ?_)
      · rw [← hov] at hst
        exact hst
      · rw [← hov]
        apply hK'
        have h1 := hok1 i hi'
        rw [ho] at h1
        simp only [Option.bind_some] at h1
        refine ih _ _ _ _ (by simpa using hls) ?_ (by omega) ?_ ?_ ?_ ?_
        · obtain ⟨l, hl1, hl2⟩ := hl
          have hmem : i ∈ l := hl2 i hiT hun
          refine ⟨l.erase i, by rw [List.length_erase_of_mem hmem]; omega, fun j hj hju => ?_⟩
          by_cases hji : j = i
          · subst hji
            have : j < listed.size := by omega
            simp [this] at hju
          · rw [Array.getD_eq_getD_getElem?, Array.getElem?_setIfInBounds, if_neg (Ne.symm hji), ← Array.getD_eq_getD_getElem?] at hju
            exact (List.mem_erase_of_ne hji).2 (hl2 j hj hju)
        · intro j hj hjs
          rw [Array.getD_eq_getD_getElem?, Array.getElem?_setIfInBounds, if_neg (by omega), ← Array.getD_eq_getD_getElem?]
          exact htl j hj hjs
        · intro p o2 ho2 hp e he hb
          have key : ∀ q, listed.getD q false = true → (listed.setIfInBounds i true).getD q false = true := fun q hq => by
            by_cases hqi : q = i
            · subst hqi
              have h6 : q < listed.size := by omega
              simp [h6]
            · rw [Array.getD_eq_getD_getElem?, Array.getElem?_setIfInBounds, if_neg (Ne.symm hqi), ← Array.getD_eq_getD_getElem?]
              exact hq
          by_cases hpi : p = i
          · subst hpi
            rw [ho] at ho2
            obtain rfl := Option.some.inj ho2
            exact key _ (hdeps e he hb)
          · rw [Array.getD_eq_getD_getElem?, Array.getElem?_setIfInBounds, if_neg (Ne.symm hpi), ← Array.getD_eq_getD_getElem?] at hp
            exact key _ (hcl p o2 ho2 hp e he hb)
        · have hput : ∀ s, (a.put o.dst v).tmps[s]? = if o.dst = some s ∧ s < a.tmps.size then some v else a.tmps[s]? := fun s => by
            rcases hd : o.dst with _ | d
            · simp [Act.put]
            · simp only [Act.put, Array.getElem?_setIfInBounds, Option.some.injEq]
              by_cases hds : d = s
              · subst hds
                by_cases hlt : d < a.tmps.size
                · simp [hlt]
                · simp [hlt]
              · simp [hds]
          have hsz : (a.put o.dst v).tmps.size = a.tmps.size := by
            rcases hd : o.dst with _ | d <;> simp [Act.put]
          refine ⟨hR _ _ _ hinv.rel hrel, ?_, hsz.trans hinv.size, fun s hs => ?_, fun j hj hjl => ?_⟩
          · rw [← hinv.defers]
            rcases hd : o.dst with _ | d <;> rfl
          · rw [hput, if_neg, hinv.off s hs]
            rintro ⟨hd, _⟩
            rw [hd] at h1
            simp only [Bool.and_eq_true, beq_iff_eq] at h1
            exact hs (List.mem_of_getElem? h1.1)
          · by_cases hji : j = i
            · subst hji
              rw [Array.getD_eq_getD_getElem?, hput]
              rcases hd : o.dst with _ | d
              · rw [hd] at h1 hφ
                simp only [Option.isSome_none, Bool.false_eq_true, if_false] at hφ
                simp only [reduceCtorEq, false_and, if_false]
                have hge : a.tmps.size ≤ sl.getD j 0 := by
                  rcases hsl : sl[j]? with _ | d
                  · rw [hsl] at h1; simp at h1
                  · rw [hsl] at h1
                    simp only [decide_eq_true_eq] at h1
                    rw [List.getD_eq_getElem?_getD, hsl]
                    simp only [Option.getD_some]
                    have := hinv.size
                    omega
                rw [Array.getElem?_eq_none hge]
                exact hφ
              · rw [hd] at h1 hφ
                simp only [Bool.and_eq_true, beq_iff_eq, decide_eq_true_eq] at h1
                simp only [Option.isSome_some, if_true] at hφ
                have hg : sl.getD j 0 = d := by rw [List.getD_eq_getElem?_getD, h1.1]; rfl
                rw [hg, if_pos ⟨rfl, by rw [hinv.size]; exact h1.2⟩]
                exact hφ
            · rw [Array.getD_eq_getD_getElem?, Array.getElem?_setIfInBounds, if_neg (Ne.symm hji), ← Array.getD_eq_getD_getElem?] at hjl
              have hold := hinv.vals j hj hjl
              rw [Array.getD_eq_getD_getElem?] at hold
              rw [Array.getD_eq_getD_getElem?, hput, if_neg]
              · exact hmono _ _ _ _ hrel hold
              · rintro ⟨hd, _⟩
                rw [hd] at h1
                simp only [Bool.and_eq_true, beq_iff_eq, decide_eq_true_eq] at h1
                have h2 := hok2 i hi' j hj
                have hg : sl.getD i 0 = sl.getD j 0 := by rw [List.getD_eq_getElem?_getD, h1.1]; rfl
                simp only [Bool.or_eq_true, beq_iff_eq, bne_iff_ne] at h2
                rcases h2 with h2 | h2
                · exact hji h2.symm
                · exact h2 hg

        · have hput : ∀ s, (a.put o.dst v).tmps[s]? = if o.dst = some s ∧ s < a.tmps.size then some v else a.tmps[s]? := fun s => by
            rcases hd : o.dst with _ | d
            · simp [Act.put]
            · simp only [Act.put, Array.getElem?_setIfInBounds, Option.some.injEq]
              by_cases hds : d = s
              · subst hds
                by_cases hlt : d < a.tmps.size
                · simp [hlt]
                · simp [hlt]
              · simp [hds]
          have hself : (a.put o.dst v).tmps.getD (sl.getD i 0) undef = if o.dst.isSome then v else undef := by
            rw [Array.getD_eq_getD_getElem?, hput]
            rcases hd : o.dst with _ | d
            · rw [hd] at h1
              simp only [reduceCtorEq, false_and, if_false]
              have hge : a.tmps.size ≤ sl.getD i 0 := by
                rcases hsl : sl[i]? with _ | d
                · rw [hsl] at h1; simp at h1
                · rw [hsl] at h1
                  simp only [decide_eq_true_eq] at h1
                  rw [List.getD_eq_getElem?_getD, hsl]
                  simp only [Option.getD_some]
                  have := hinv.size
                  omega
              rw [Array.getElem?_eq_none hge]
              rfl
            · rw [hd] at h1
              simp only [Bool.and_eq_true, beq_iff_eq, decide_eq_true_eq] at h1
              have hg : sl.getD i 0 = d := by rw [List.getD_eq_getElem?_getD, h1.1]; rfl
              rw [hg, if_pos ⟨rfl, by rw [hinv.size]; exact h1.2⟩]
              rfl
          have hother : ∀ j, j < ops.size → j ≠ i → (a.put o.dst v).tmps.getD (sl.getD j 0) undef = a.tmps.getD (sl.getD j 0) undef := fun j hj hji => by
            rw [Array.getD_eq_getD_getElem?, Array.getD_eq_getD_getElem?, hput, if_neg]
            rintro ⟨hd, _⟩
            rw [hd] at h1
            simp only [Bool.and_eq_true, beq_iff_eq, decide_eq_true_eq] at h1
            have h2 := hok2 i hi' j hj
            have hg : sl.getD i 0 = sl.getD j 0 := by rw [List.getD_eq_getElem?_getD, h1.1]; rfl
            simp only [Bool.or_eq_true, beq_iff_eq, bne_iff_ne] at h2
            rcases h2 with h2 | h2
            · exact hji h2.symm
            · exact h2 hg
          have hold : ∀ j, j ≠ i → (listed.setIfInBounds i true).getD j true = true → listed.getD j true = true := fun j hji hjl => by
            rw [Array.getD_eq_getD_getElem?, Array.getElem?_setIfInBounds, if_neg (Ne.symm hji), ← Array.getD_eq_getD_getElem?] at hjl
            exact hjl
          intro p q hp hq hpq hlp hlq
          by_cases hpi : p = i
          · subst hpi
            have hqi : q ≠ p := fun e => hpq e.symm
            rw [hself, hother q hq hqi]
            exact (hψ q _ (hinv.vals q hq (hold q hqi hlq))).1
          · by_cases hqi : q = i
            · subst hqi
              rw [hself, hother p hp hpi]
              exact (hψ p _ (hinv.vals p hp (hold p hpi hlp))).2
            · rw [hother p hp hpi, hother q hq hqi]
              exact hpr p q hp hq hpq (hold p hpi hlp) (hold q hqi hlq)
theorem region_tail {id : Nat} (hm : P.follows .mixedOrders = true) (T : Nat) (hTs : T ≤ ops.size) (φ : Nat → Value → World → Prop) (ψ : Nat → Nat → Value → Value → Prop) (R : World → World → Prop) (sl : List Nat) (hr : ∀ w, R w w) (hR : ∀ a b c, R a b → R b c → R a c) (hmono : ∀ i v w w', R w w' → φ i v w → φ i v w') (hok : slotsOk ops sl a0.tmps.size = true)
    (hwait : ∀ i, T ≤ i → i < ops.size → ∀ j, j < T → reaches ops ops.size i j = true)
    (hstep : Steps (fun i o => RStep2 P ops Q φ ψ R sl a0 w0.drew i o) 0 (ops.toList.take T))
    (hend : ∀ f w fuel, ops.size - T ≤ fuel → R w0.drew w → (∀ i, i < T → φ i (f (sl.getD i 0)) w) → (∀ i j, i < T → j < T → i ≠ j → ψ i j (f (sl.getD i 0)) (f (sl.getD j 0))) → wpAny P .any ops Q fuel (headsUp ops.size T) (over a0 sl f) w) : (Code.region id ops true).wp P Q a0 w0 :=
  wp_region_any hm (region_tail_go T hTs hR hmono hok hwait (fun i o hi ho => by
      have := hstep.get i o (by rw [List.getElem?_take_of_lt hi]; simpa using ho)
      rwa [Nat.zero_add] at this) hend T ops.size _ _ _ (by simp)
    ⟨List.range T, by simp, fun i hi _ => by simpa using hi⟩ (by omega) (fun i _ hi => by simp [hi]) (fun i o _ h => by
      rw [Array.getD_eq_getD_getElem?, Array.getElem?_replicate] at h
      split at h <;> simp at h) ⟨hr _, rfl, rfl, fun _ _ => rfl, fun i hi h => by simp [hi] at h⟩ (fun i j hi _ _ h => by simp [hi] at h))
end
theorem waits_of {ops : Array Oper} {T : Nat} (h : ((List.range ops.size).all fun i => decide (i < T) || (List.range T).all fun j => reaches ops ops.size i j) = true) : ∀ i, T ≤ i → i < ops.size → ∀ j, j < T → reaches ops ops.size i j = true := fun i hi hs j hj => by
  rw [List.all_eq_true] at h
  have h1 := h i (List.mem_range.2 hs)
  rw [decide_eq_false (by omega), Bool.false_or, List.all_eq_true] at h1
  exact h1 j (List.mem_range.2 hj)
theorem wpAny_two {P : Program} {ops : Array Oper} {Q : Exit → Act → World → Prop} {T n : Nat} {a : Act} {w : World} (h1 : Region.ready .any ops (headsUp ops.size T) = [T]) (h2 : Region.ready .any ops ((headsUp ops.size T).setIfInBounds T true) = [T + 1]) (h3 : Region.ready .any ops (((headsUp ops.size T).setIfInBounds T true).setIfInBounds (T + 1) true) = [])
    (h : wpOp P ops Q T (fun a w => wpOp P ops Q (T + 1) (fun a w => Q .normal a w) a w) a w) : wpAny P .any ops Q (n + 2) (headsUp ops.size T) a w := by
  refine ⟨fun hr => absurd (h1.symm.trans hr) (by simp), fun i hi => ?_⟩
  rw [h1] at hi
  obtain rfl := List.mem_singleton.1 hi
  refine wpOp_mono (fun a' w' h' => ?_) h
  refine ⟨fun hr => absurd (h2.symm.trans hr) (by simp), fun j hj => ?_⟩
  rw [h2] at hj
  obtain rfl := List.mem_singleton.1 hj
  refine wpOp_mono (fun a'' w'' h'' => ?_) h'
  cases n with
  | zero => exact ⟨h3, h''⟩
  | succ n => exact ⟨fun _ => h'', fun k hk => by rw [h3] at hk; cases hk⟩
def Later (a b : World) : Prop := Below a.heap.size a b
theorem later_refl (w : World) : Later w w := Below.refl _ _
theorem Steps.cons {F : Nat → Oper → Prop} {n : Nat} {o : Oper} {os : List Oper} (h : F n o) (hs : Steps F (n + 1) os) : Steps F n (o :: os) := ⟨h, hs⟩
theorem Steps.nil {F : Nat → Oper → Prop} {n : Nat} : Steps F n [] := trivial
/-- What is said of a value in a world, and stays. -/
structure Pw where
  p : Value → World → Prop
  m : ∀ v w w', Below w.heap.size w w' → p v w → p v w'
def Pw.any : Pw := ⟨fun _ _ => True, fun _ _ _ _ h => h⟩
/-- A value. -/
def Pw.is (x : Value) : Pw := ⟨fun v _ => v = x, fun _ _ _ _ h => h⟩
/-- A pointer to a block. -/
def Pw.blk (B : Nat) (T : TypeId) (cs : Array Value) : Pw := ⟨fun v w => ∃ b, v = .pointer (some ⟨b, 0, none⟩) ∧ B ≤ b ∧ Blk w b T cs, fun _ _ _ hb ⟨b, h1, h2, h3⟩ => ⟨b, h1, h2, h3.here hb⟩⟩
/-- A slice of one element. -/
def Pw.one (cs : Array Value) : Pw := ⟨fun v w => ∃ b T, v = .slice (some ⟨b, 0, none⟩) 1 1 ∧ Blk w b T cs, fun _ _ _ hb ⟨b, T, h1, h2⟩ => ⟨b, T, h1, h2.here hb⟩⟩
def pws (l : List Pw) (i : Nat) (v : Value) (w : World) : Prop := (l[i]?.getD Pw.any).p v w
theorem region_pwt {P : Program} {ops : Array Oper} {Q : Exit → Act → World → Prop} {a0 : Act} {w0 : World} {id : Nat} (hm : P.follows .mixedOrders = true) (T : Nat) (hTs : T ≤ ops.size) (l : List Pw) (ψ : Nat → Nat → Value → Value → Prop) (sl : List Nat) (hok : slotsOk ops sl a0.tmps.size = true)
    (hwait : ∀ i, T ≤ i → i < ops.size → ∀ j, j < T → reaches ops ops.size i j = true)
    (hstep : Steps (fun i o => RStep2 P ops Q (pws l) ψ Later sl a0 w0.drew i o) 0 (ops.toList.take T))
    (hend : ∀ f w fuel, ops.size - T ≤ fuel → Later w0.drew w → (∀ i, i < T → pws l i (f (sl.getD i 0)) w) → (∀ i j, i < T → j < T → i ≠ j → ψ i j (f (sl.getD i 0)) (f (sl.getD j 0))) → wpAny P .any ops Q fuel (headsUp ops.size T) (over a0 sl f) w) : (Code.region id ops true).wp P Q a0 w0 :=
  region_tail hm T hTs (pws l) ψ Later sl (fun _ => Below.refl _ _) (fun _ _ _ => below_from) (fun i _ _ _ h hv => (l[i]?.getD Pw.any).m _ _ _ h hv) hok hwait hstep hend
end Go.Proofs.YtedjadicdodahaaGreatDoor
