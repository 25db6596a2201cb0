/- A region that draws its order, told operation by operation: what is said of some values is said only until one operation, mid. -/
import Derived.Test.YtedjadicdodahaaGreatDoorRg
import Derived.Test.YtedjadicdodahaaGreatDoorQOwn
import Derived.Test.YtedjadicdodahaaGreatDoorArgs
import Derived.Test.YtedjadicdodahaaGreatDoorSlB
namespace Go.Proofs.YtedjadicdodahaaGreatDoor
open Go.RowKit

section
variable {P : Program} {ops : Array Oper} {Q : Exit → Act → World → Prop} {φ δ : Nat → Value → World → Prop} {R : World → World → Prop} {sl : List Nat} {a0 : Act} {w0 : World}
/-- Operation i, whenever it comes up; δ is said until mid. -/
def RStepM (P : Program) (ops : Array Oper) (Q : Exit → Act → World → Prop) (φ δ : Nat → Value → World → Prop) (R : World → World → Prop) (mid : Nat) (sl : List Nat) (a0 : Act) (w0 : World) (i : Nat) (o : Oper) : Prop := ∀ (f : Nat → Value) (w : World), R w0 w → Deps φ sl f w (o.after.toList.filter (Region.binds .any)) → ((i == mid || reaches ops ops.size mid i) = true → Deps δ sl f w (o.after.toList.filter (Region.binds .any))) → ∀ K : Act → World → Prop, (∀ v w', φ i (if o.dst.isSome then v else undef) w' → R w w' → (i ≠ mid → Later w w' ∧ δ i (if o.dst.isSome then v else undef) w') → K ((over a0 sl f).put o.dst v) w') →
  if Region.wanted o (yielded ops (over a0 sl f).tmps) = true then Oper.wp P o (over a0 sl f) w K Q else K ((over a0 sl f).put o.dst undef) w
structure RInvM (ops : Array Oper) (φ δ : Nat → Value → World → Prop) (R : World → World → Prop) (mid : Nat) (sl : List Nat) (a0 : Act) (w0 : World) (listed : Array Bool) (a : Act) (w : World) : Prop where
  rel : R w0 w
  defers : a.defers = a0.defers
  size : a.tmps.size = a0.tmps.size
  off : ∀ s, s ∉ sl → a.tmps[s]? = a0.tmps[s]?
  vals : ∀ i, i < ops.size → listed.getD i true = true → φ i (a.tmps.getD (sl.getD i 0) undef) w
  dals : listed.getD mid true = false → ∀ i, i < ops.size → listed.getD i true = true → δ i (a.tmps.getD (sl.getD i 0) undef) w
theorem region_mid_go (mid T : Nat) (hmT : mid < T) (hTs : T ≤ ops.size) (hR : ∀ a b c, R a b → R b c → R a c) (hmono : ∀ i v w w', Later w w' → φ i v w → φ i v w') (hmonoR : ∀ i, (i == mid || reaches ops ops.size i mid) = false → ∀ v w w', R w w' → φ i v w → φ i v w') (hmonoD : ∀ i v w w', Later w w' → δ i v w → δ i v w') (hok : slotsOk ops sl a0.tmps.size = true)
    (hwait : ∀ i, T ≤ i → i < ops.size → ∀ j, j < T → reaches ops ops.size i j = true)
    (hstep : ∀ i o, i < T → ops[i]? = some o → RStepM P ops Q φ δ R mid sl a0 w0 i o)
    (hend : ∀ f w fuel, ops.size - T ≤ fuel → R w0 w → (∀ i, i < T → φ i (f (sl.getD i 0)) w) → wpAny P .any ops Q fuel (headsUp ops.size T) (over a0 sl f) w) :
    ∀ (k fuel : Nat) (listed : Array Bool) (a : Act) (w : World), listed.size = ops.size → (∃ l : List Nat, l.length ≤ k ∧ ∀ i, i < T → listed.getD i true = false → i ∈ l) → k + (ops.size - T) ≤ fuel → (∀ i, T ≤ i → i < ops.size → listed.getD i true = false) → Closed ops listed → RInvM ops φ δ R mid sl a0 w0 listed a w → wpAny P .any ops Q fuel listed a w := by
  simp only [slotsOk, Bool.and_eq_true, List.all_eq_true, List.mem_range] at hok
  obtain ⟨⟨hok1, hok2⟩, hok3⟩ := hok
  -- where nothing may come up all has come up
  have hall : ∀ listed : Array Bool, listed.size = ops.size → Region.ready .any ops listed = [] → ∀ i, i < ops.size → listed.getD i true = true := by
    intro listed hls hr i
    induction i using Nat.strongRecOn with
    | ind i ih =>
      intro hi
      rcases hb : listed.getD i true with _ | _
      · exfalso
        have : i ∈ Region.ready .any ops listed := mem_ready.2 ⟨hb, ops[i], Array.getElem?_eq_getElem hi, fun e he hbn => by
          have h3 := hok3 i hi
          rw [Array.getElem?_eq_getElem hi] at h3
          simp only [Array.all_eq_true_iff_forall_mem] at h3
          have h4 := h3 e he
          simp only [hbn, Bool.not_true, Bool.false_or, decide_eq_true_eq] at h4
          have h5 := ih e.on h4 (by omega)
          have h6 : e.on < listed.size := by omega
          simp [h6] at h5 ⊢
          exact h5⟩
        rw [hr] at this
        cases this
      · rfl
  have hfin : ∀ (fuel : Nat) (listed : Array Bool) (a : Act) (w : World), listed.size = ops.size → ops.size - T ≤ fuel → (∀ i, T ≤ i → i < ops.size → listed.getD i true = false) → RInvM ops φ δ R mid sl a0 w0 listed a w → (∀ i, i < T → listed.getD i true = true) → wpAny P .any ops Q fuel listed a w := by
    intro fuel listed a w hls hf htl hinv hh
    rw [headsUp_eq hls (fun i h1 _ => hh i h1) htl, over_eq hinv.defers hinv.size hinv.off]
    exact hend _ w fuel hf hinv.rel (fun i hi => hinv.vals i (by omega) (hh i hi))
  intro k
  induction k with
  | zero =>
    intro fuel listed a w hls hl hf htl hcl hinv
    obtain ⟨l, hl1, hl2⟩ := hl
    have hl0 : l = [] := List.eq_nil_of_length_eq_zero (by omega)
    subst hl0
    refine hfin fuel listed a w hls (by omega) htl hinv (fun i hi => ?_)
    rcases hb : listed.getD i true with _ | _
    · exact absurd (hl2 i hi hb) (by simp)
    · rfl
  | succ k ih =>
    intro fuel listed a w hls hl hf htl hcl hinv
    by_cases hh : ∀ i, i < T → listed.getD i true = true
    · exact hfin fuel listed a w hls (by omega) htl hinv hh
    obtain ⟨fuel, rfl⟩ : ∃ n, fuel = n + 1 := ⟨fuel - 1, by omega⟩
    refine ⟨fun hr => absurd (fun i hi => hall listed hls hr i (by omega)) hh, fun i hi => ?_⟩
    have hiT : i < T := by
      rcases Nat.lt_or_ge i T with h | h
      · exact h
      · exfalso
        apply hh
        intro j hj
        obtain ⟨hun, o, ho, hdeps⟩ := mem_ready.1 hi
        have h5 := reaches_listed hcl ops.size i j o ho hdeps (hwait i h (Array.getElem?_eq_some_iff.1 ho).1 j hj)
        have h6 : j < listed.size := by omega
        simp [h6] at h5 ⊢
        exact h5
    · obtain ⟨hun, o, ho, hdeps⟩ := mem_ready.1 hi
      have hi' : i < ops.size := (Array.getElem?_eq_some_iff.1 ho).1
      refine wpOp_step ho fun K' hK' => ?_
      have hov := over_eq hinv.defers hinv.size hinv.off
      have hne : ∀ e ∈ o.after, Region.binds .any e = true → e.on < ops.size ∧ listed.getD e.on true = true := fun e he hb => by
        have h3 := hok3 i hi'
        rw [ho] at h3
        simp only [Array.all_eq_true_iff_forall_mem] at h3
        have h4 := h3 e he
        simp only [hb, Bool.not_true, Bool.false_or, decide_eq_true_eq] at h4
        refine ⟨by omega, ?_⟩
        have h5 := hdeps e he hb
        have h6 : e.on < listed.size := by omega
        simp [h6] at h5 ⊢
        exact h5
      have hst := hstep i o hiT ho (fun d => a.tmps.getD d undef) w hinv.rel (deps_all fun e he => by
        simp only [List.mem_filter, Array.mem_toList_iff] at he
        exact hinv.vals e.on (hne e he.1 he.2).1 (hne e he.1 he.2).2) (fun hmi => deps_all fun e he => by
        simp only [List.mem_filter, Array.mem_toList_iff] at he
        refine hinv.dals ?_ e.on (hne e he.1 he.2).1 (hne e he.1 he.2).2
        rcases hb : listed.getD mid true with _ | _
        · rfl
        · exfalso
          have hms : mid < ops.size := by omega
          have hb2 : listed.getD mid false = true := by
            have h6 : mid < listed.size := by omega
            simp [h6] at hb ⊢
            exact hb
          rcases Bool.or_eq_true_iff.1 hmi with h7 | h7
          · rw [beq_iff_eq.1 h7] at hun
            rw [hun] at hb
            cases hb
          · have h8 := reaches_listed hcl ops.size mid i ops[mid] (Array.getElem?_eq_getElem hms) (hcl mid ops[mid] (Array.getElem?_eq_getElem hms) hb2) h7
            have h6 : i < listed.size := by omega
            simp [h6] at h8 hun
            rw [hun] at h8
            cases h8) K' (fun v w' hφ hrel hδ => ?_)
      · rw [← hov] at hst
        exact hst
      · rw [← hov]
        apply hK'
        have h1 := hok1 i hi'
        rw [ho] at h1
        simp only [Option.bind_some] at h1
        refine ih _ _ _ _ (by simpa using hls) ?_ (by omega) ?_ ?_ ?_
        · obtain ⟨l, hl1, hl2⟩ := hl
          have hmem : i ∈ l := hl2 i hiT hun
          refine ⟨l.erase i, by rw [List.length_erase_of_mem hmem]; omega, fun j hj hju => ?_⟩
          by_cases hji : j = i
          · subst hji
            have : j < listed.size := by omega
            simp [this] at hju
          · rw [Array.getD_eq_getD_getElem?, Array.getElem?_setIfInBounds, if_neg (Ne.symm hji), ← Array.getD_eq_getD_getElem?] at hju
            exact (List.mem_erase_of_ne hji).2 (hl2 j hj hju)
        · intro j hj hjs
          rw [Array.getD_eq_getD_getElem?, Array.getElem?_setIfInBounds, if_neg (by omega), ← Array.getD_eq_getD_getElem?]
          exact htl j hj hjs
        · intro p o2 ho2 hp e he hb
          have key : ∀ q, listed.getD q false = true → (listed.setIfInBounds i true).getD q false = true := fun q hq => by
            by_cases hqi : q = i
            · subst hqi
              have h6 : q < listed.size := by omega
              simp [h6]
            · rw [Array.getD_eq_getD_getElem?, Array.getElem?_setIfInBounds, if_neg (Ne.symm hqi), ← Array.getD_eq_getD_getElem?]
              exact hq
          by_cases hpi : p = i
          · subst hpi
            rw [ho] at ho2
            obtain rfl := Option.some.inj ho2
            exact key _ (hdeps e he hb)
          · rw [Array.getD_eq_getD_getElem?, Array.getElem?_setIfInBounds, if_neg (Ne.symm hpi), ← Array.getD_eq_getD_getElem?] at hp
            exact key _ (hcl p o2 ho2 hp e he hb)
        · have hput : ∀ s, (a.put o.dst v).tmps[s]? = if o.dst = some s ∧ s < a.tmps.size then some v else a.tmps[s]? := fun s => by
            rcases hd : o.dst with _ | d
            · simp [Act.put]
            · simp only [Act.put, Array.getElem?_setIfInBounds, Option.some.injEq]
              by_cases hds : d = s
              · subst hds
                by_cases hlt : d < a.tmps.size
                · simp [hlt]
                · simp [hlt]
              · simp [hds]
          have hsz : (a.put o.dst v).tmps.size = a.tmps.size := by
            rcases hd : o.dst with _ | d <;> simp [Act.put]
          have hself : (a.put o.dst v).tmps.getD (sl.getD i 0) undef = if o.dst.isSome then v else undef := by
            rw [Array.getD_eq_getD_getElem?, hput]
            rcases hd : o.dst with _ | d
            · rw [hd] at h1
              simp only [reduceCtorEq, false_and, if_false]
              have hge : a.tmps.size ≤ sl.getD i 0 := by
                rcases hsl : sl[i]? with _ | d
                · rw [hsl] at h1; simp at h1
                · rw [hsl] at h1
                  simp only [decide_eq_true_eq] at h1
                  rw [List.getD_eq_getElem?_getD, hsl]
                  simp only [Option.getD_some]
                  have := hinv.size
                  omega
              rw [Array.getElem?_eq_none hge]
              rfl
            · rw [hd] at h1
              simp only [Bool.and_eq_true, beq_iff_eq, decide_eq_true_eq] at h1
              have hg : sl.getD i 0 = d := by rw [List.getD_eq_getElem?_getD, h1.1]; rfl
              rw [hg, if_pos ⟨rfl, by rw [hinv.size]; exact h1.2⟩]
              rfl
          have hother : ∀ j, j < ops.size → j ≠ i → (a.put o.dst v).tmps.getD (sl.getD j 0) undef = a.tmps.getD (sl.getD j 0) undef := fun j hj hji => by
            rw [Array.getD_eq_getD_getElem?, Array.getD_eq_getD_getElem?, hput, if_neg]
            rintro ⟨hd, _⟩
            rw [hd] at h1
            simp only [Bool.and_eq_true, beq_iff_eq, decide_eq_true_eq] at h1
            have h2 := hok2 i hi' j hj
            have hg : sl.getD i 0 = sl.getD j 0 := by rw [List.getD_eq_getElem?_getD, h1.1]; rfl
            simp only [Bool.or_eq_true, beq_iff_eq, bne_iff_ne] at h2
            rcases h2 with h2 | h2
            · exact hji h2.symm
            · exact h2 hg
          have hold : ∀ b j, j ≠ i → (listed.setIfInBounds i true).getD j true = b → listed.getD j true = b := fun b j hji hjl => by
            rw [Array.getD_eq_getD_getElem?, Array.getElem?_setIfInBounds, if_neg (Ne.symm hji), ← Array.getD_eq_getD_getElem?] at hjl
            exact hjl
          refine ⟨hR _ _ _ hinv.rel hrel, ?_, hsz.trans hinv.size, fun s hs => ?_, fun j hj hjl => ?_, fun hm j hj hjl => ?_⟩
          · rw [← hinv.defers]
            rcases hd : o.dst with _ | d <;> rfl
          · rw [hput, if_neg, hinv.off s hs]
            rintro ⟨hd, _⟩
            rw [hd] at h1
            simp only [Bool.and_eq_true, beq_iff_eq] at h1
            exact hs (List.mem_of_getElem? h1.1)
          · by_cases hji : j = i
            · subst hji
              rw [hself]
              exact hφ
            · rw [hother j hj hji]
              by_cases hmi : i = mid
              · subst hmi
                refine hmonoR j ?_ _ _ _ hrel (hinv.vals j hj (hold _ j hji hjl))
                rw [Bool.or_eq_false_iff]
                refine ⟨by simpa using hji, ?_⟩
                rcases hb : reaches ops ops.size j i with _ | _
                · rfl
                · exfalso
                  have hjl2 : listed.getD j false = true := by
                    have h5 := hold _ j hji hjl
                    have h6 : j < listed.size := by omega
                    simp [h6] at h5 ⊢
                    exact h5
                  have h8 := reaches_listed hcl ops.size j i ops[j] (Array.getElem?_eq_getElem hj) (hcl j ops[j] (Array.getElem?_eq_getElem hj) hjl2) hb
                  have h6 : i < listed.size := by omega
                  simp [h6] at h8 hun
                  rw [hun] at h8
                  cases h8
              · exact hmono _ _ _ _ (hδ hmi).1 (hinv.vals j hj (hold _ j hji hjl))
          · have hmi : i ≠ mid := by
              rintro rfl
              have h6 : i < listed.size := by omega
              simp [h6] at hm
            obtain ⟨hlat, hd9⟩ := hδ hmi
            by_cases hji : j = i
            · subst hji
              rw [hself]
              exact hd9
            · rw [hother j hj hji]
              exact hmonoD _ _ _ _ hlat (hinv.dals (hold _ mid (Ne.symm hmi) hm) j hj (hold _ j hji hjl))
theorem region_mid {id : Nat} (hm : P.follows .mixedOrders = true) (mid T : Nat) (hmT : mid < T) (hTs : T ≤ ops.size) (φ δ : Nat → Value → World → Prop) (R : World → World → Prop) (sl : List Nat) (hr : ∀ w, R w w) (hR : ∀ a b c, R a b → R b c → R a c) (hmono : ∀ i v w w', Later w w' → φ i v w → φ i v w') (hmonoR : ∀ i, (i == mid || reaches ops ops.size i mid) = false → ∀ v w w', R w w' → φ i v w → φ i v w') (hmonoD : ∀ i v w w', Later w w' → δ i v w → δ i v w') (hok : slotsOk ops sl a0.tmps.size = true)
    (hwait : ∀ i, T ≤ i → i < ops.size → ∀ j, j < T → reaches ops ops.size i j = true)
    (hstep : Steps (fun i o => RStepM P ops Q φ δ R mid sl a0 w0.drew i o) 0 (ops.toList.take T))
    (hend : ∀ f w fuel, ops.size - T ≤ fuel → R w0.drew w → (∀ i, i < T → φ i (f (sl.getD i 0)) w) → wpAny P .any ops Q fuel (headsUp ops.size T) (over a0 sl f) w) : (Code.region id ops true).wp P Q a0 w0 :=
  wp_region_any hm (region_mid_go mid T hmT hTs hR hmono hmonoR hmonoD hok hwait (fun i o hi ho => by
      have := hstep.get i o (by rw [List.getElem?_take_of_lt hi]; simpa using ho)
      rwa [Nat.zero_add] at this) hend T ops.size _ _ _ (by simp)
    ⟨List.range T, by simp, fun i hi _ => by simpa using hi⟩ (by omega) (fun i _ hi => by simp [hi]) (fun i o _ h => by
      rw [Array.getD_eq_getD_getElem?, Array.getElem?_replicate] at h
      split at h <;> simp at h) ⟨hr _, rfl, rfl, fun _ _ => rfl, fun i hi h => by simp [hi] at h, fun _ i hi h => by simp [hi] at h⟩)
end
theorem wpAny_one {P : Program} {ops : Array Oper} {Q : Exit → Act → World → Prop} {T n : Nat} {a : Act} {w : World} (h1 : Region.ready .any ops (headsUp ops.size T) = [T]) (h2 : Region.ready .any ops ((headsUp ops.size T).setIfInBounds T true) = [])
    (h : wpOp P ops Q T (fun a w => Q .normal a w) a w) : wpAny P .any ops Q (n + 1) (headsUp ops.size T) a w := by
  refine ⟨fun hr => absurd (h1.symm.trans hr) (by simp), fun i hi => ?_⟩
  rw [h1] at hi
  obtain rfl := List.mem_singleton.1 hi
  refine wpOp_mono (fun a' w' h' => ?_) h
  cases n with
  | zero => exact ⟨h2, h'⟩
  | succ n => exact ⟨fun _ => h', fun k hk => by rw [h2] at hk; cases hk⟩
/-- What was written in between lies in rows of one type, none of them older than B. -/
def RowsOnly (B : Nat) (e : TypeId) (a b : World) : Prop := B ≤ a.heap.size → Below B a b ∧ ∀ q, q < a.heap.size → tag a q ≠ some e → b.heap[q]? = a.heap[q]?
theorem RowsOnly.refl (B : Nat) (e : TypeId) (w : World) : RowsOnly B e w w := fun _ => ⟨Below.refl _ _, fun _ _ _ => rfl⟩
theorem RowsOnly.trans {B : Nat} {e : TypeId} {a b c : World} (h : RowsOnly B e a b) (k : RowsOnly B e b c) : RowsOnly B e a c := fun hB => by
  obtain ⟨h1, h2⟩ := h hB
  obtain ⟨k1, k2⟩ := k (Nat.le_trans hB h1.size)
  refine ⟨h1.trans k1, fun q hq ht => ?_⟩
  have h3 := h2 q hq ht
  refine (k2 q (Nat.lt_of_lt_of_le hq h1.size) ?_).trans h3
  unfold tag at ht ⊢
  rw [h3]
  exact ht
theorem RowsOnly.later {B : Nat} {e : TypeId} {a b : World} (h : Later a b) : RowsOnly B e a b := fun hB => ⟨h.mono hB, fun q hq _ => h.block q hq⟩
theorem RowsOnly.grown {B size n : Nat} {e : TypeId} {a b : World} {v : Value} {xs : List Value} (h : a.ownsRow B e size v n xs) (hg : a.grownBy b v.ownBlock) : RowsOnly B e a b := fun hB => by
  refine ⟨⟨hg.os, hg.tape, hg.output, hg.size, fun k hk => hg.block k (by omega) (fun e => by have := (h.lt k e.symm).1; omega)⟩, fun q hq ht => hg.block q hq (fun e1 => ?_)⟩
  apply ht
  rcases h.2 with ⟨rfl, _⟩ | ⟨g, cap, cur, rfl, _, hh, _⟩
  · cases e1
  · injection e1 with e1
    subst e1
    unfold tag
    rw [hh]
theorem region_mid_pw {P : Program} {ops : Array Oper} {Q : Exit → Act → World → Prop} {a0 : Act} {w0 : World} {id : Nat} (hm : P.follows .mixedOrders = true) (mid T : Nat) (hmT : mid < T) (hTs : T ≤ ops.size) (l d : List Pw) (R : World → World → Prop) (sl : List Nat) (hr : ∀ w, R w w) (hR : ∀ a b c, R a b → R b c → R a c) (hmonoR : ∀ i, (i == mid || reaches ops ops.size i mid) = false → ∀ v w w', R w w' → pws l i v w → pws l i v w') (hok : slotsOk ops sl a0.tmps.size = true)
    (hwait : ∀ i, T ≤ i → i < ops.size → ∀ j, j < T → reaches ops ops.size i j = true)
    (hstep : Steps (fun i o => RStepM P ops Q (pws l) (pws d) R mid sl a0 w0.drew i o) 0 (ops.toList.take T))
    (hend : ∀ f w fuel, ops.size - T ≤ fuel → R w0.drew w → (∀ i, i < T → pws l i (f (sl.getD i 0)) w) → wpAny P .any ops Q fuel (headsUp ops.size T) (over a0 sl f) w) : (Code.region id ops true).wp P Q a0 w0 :=
  region_mid hm mid T hmT hTs (pws l) (pws d) R sl hr hR (fun i _ _ _ h hv => (l[i]?.getD Pw.any).m _ _ _ h hv) hmonoR (fun i _ _ _ h hv => (d[i]?.getD Pw.any).m _ _ _ h hv) hok hwait hstep hend
section
variable {α : Type} {f : α → List Value} {n : Nat}
theorem rows_flat_len : ∀ (l : List α) (_ : ∀ x ∈ l, (f x).length = n), (l.flatMap f).length = l.length * n
  | [], _ => by simp
  | x :: l, hf => by
    rw [List.flatMap_cons, List.length_append, hf x (by simp), rows_flat_len l (fun y hy => hf y (List.mem_cons_of_mem _ hy)), List.length_cons, Nat.succ_mul]
    omega
theorem rows_flat_get : ∀ (l : List α) (_ : ∀ x ∈ l, (f x).length = n) (k : Nat) (h : k < l.length) (j : Nat) (_ : j < n), (l.flatMap f)[k * n + j]? = (f l[k])[j]?
  | [], _, k, h, _, _ => by simp at h
  | x :: l, hf, 0, _, j, hj => by
    rw [List.flatMap_cons, Nat.zero_mul, Nat.zero_add, List.getElem?_append_left (by rw [hf x (by simp)]; exact hj)]
    rfl
  | x :: l, hf, k + 1, h, j, hj => by
    have hx := hf x (by simp)
    rw [List.flatMap_cons, List.getElem?_append_right (by rw [hx, Nat.succ_mul]; omega), hx, show (k + 1) * n + j - n = k * n + j from by rw [Nat.succ_mul]; omega]
    exact rows_flat_get l (fun y hy => hf y (List.mem_cons_of_mem _ hy)) k (by simpa using h) j hj
/-- A list handed in, as the source of append. -/
theorem rows_src {w : World} {A : Option Addr} {l : List α} (h : SlR n w A (l.map f)) (hf : ∀ x ∈ l, (f x).length = n) : 0 < l.length → ∃ ad, A = some ad ∧ ∀ j u, (l.flatMap f)[j]? = some u → w.cell? (ad.add j) = some u := fun h0 => by
  obtain ⟨b, o, e, hc⟩ := h (by simpa using h0)
  refine ⟨_, e, fun i u hu => ?_⟩
  have hi := (List.getElem?_eq_some_iff.1 hu).1
  rw [rows_flat_len l hf] at hi
  have hn : 0 < n := by
    rcases Nat.eq_zero_or_pos n with h1 | h1
    · subst h1; simp at hi
    · exact h1
  have hk : i / n < l.length := Nat.div_lt_of_lt_mul (by rw [Nat.mul_comm]; exact hi)
  have hij : i / n * n + i % n = i := by rw [Nat.mul_comm]; exact Nat.div_add_mod i n
  have hg := rows_flat_get l hf (i / n) hk (i % n) (Nat.mod_lt _ hn)
  rw [hij, hu] at hg
  rw [add_at, ← hij, ← Nat.add_assoc]
  exact hc (i / n) (f l[i / n]) (by rw [List.getElem?_map, List.getElem?_eq_getElem hk]; rfl) (i % n) u hg.symm
/-- A row of the call's own, as a list. -/
theorem rows_of_own {w : World} {base m c : Nat} {e : TypeId} {A : Option Addr} {l : List α} (h : w.ownsRow base e n (.slice A m c) m (l.flatMap f)) (hf : ∀ x ∈ l, (f x).length = n) (hm : m = l.length) : SlR n w A (l.map f) := fun h0 => by
  subst hm
  rcases h.2 with ⟨h1, h2⟩ | ⟨g, cap, cur, hv, _⟩
  · rw [List.length_map] at h0; omega
  · injection hv with h1 _ _
    subst h1
    refine ⟨g, 0, rfl, fun j cs hj i u hu => ?_⟩
    rw [List.getElem?_map, Option.map_eq_some_iff] at hj
    obtain ⟨x, hx, rfl⟩ := hj
    obtain ⟨hj', rfl⟩ := List.getElem?_eq_some_iff.1 hx
    have hi := (List.getElem?_eq_some_iff.1 hu).1
    have hlen := hf l[j] (List.getElem_mem hj')
    have hg := rows_flat_get l hf j hj' i (by omega)
    rw [hu] at hg
    have := h.cells (g := g) rfl (j * n + i) u hg
    rw [add_at] at this
    rwa [show 0 + j * n + i = 0 + (j * n + i) from by omega]
theorem rows_flat_one (l : List α) (h : ∀ x ∈ l, ∀ v ∈ f x, v.oneCell' = true) : ∀ v ∈ l.flatMap f, v.oneCell' = true := fun v hv => by
  obtain ⟨x, hx, hv⟩ := List.mem_flatMap.1 hv
  exact h x hx v hv
end
section
variable {P : Program} {w : World}
/-- append onto a new slice of no room: nothing that stood is written. -/
theorem run_append_empty (base : Nat) (t ty e : TypeId) (i : TypeInfo) (z : Value) (size bytes : Nat) (ht : P.underlying t = some (.slice e)) (hi : P.info? e = some i) (hz : i.zero = some z)
    (hsize : i.size = size) (hby : i.bytes = bytes) (hzs : z.cells.size = size) (hsz : 0 < size)
    (g : Nat) (hg : Blk w g e #[]) (hbg : base ≤ g)
    (A : Option Addr) (m c : Nat) (news : List Value) (hl : news.length = m * size) (hr : 0 < m → ∃ ad, A = some ad ∧ ∀ j u, news[j]? = some u → w.cell? (ad.add j) = some u) (h1 : ∀ u ∈ news, u.oneCell' = true)
    (h63 : m ≤ maxLen) (hbytes : m * bytes ≤ 140737488355328) (hbase : base ≤ w.heap.size) :
    ∃ v' w', (Builtin.append_ #[t, t] ty #[.slice (some ⟨g, 0, none⟩) 0 0, .slice A m c]).run P w = .ok v' w' ∧ w'.ownsRow base e size v' m news ∧ Below w.heap.size w w' := by
  have hown : w.ownsRow base e size (.slice (some ⟨g, 0, none⟩) 0 0) 0 [] := ⟨by simp, .inr ⟨g, 0, #[], rfl, hbg, hg, Nat.le_refl _, Nat.zero_le _, by simp, by simp⟩⟩
  rcases A with _ | ad
  · have hm : m = 0 := by
      rcases Nat.eq_zero_or_pos m with h0 | h0
      · exact h0
      · obtain ⟨ad, h, _⟩ := hr h0
        cases h
    subst hm
    have hn : news = [] := List.eq_nil_of_length_eq_zero (by simpa using hl)
    subst hn
    exact ⟨_, w, run_append_of_nil base t ty e i size ht hi _ 0 [] hown c, hown, Below.refl _ _⟩
  · have hcells : ∀ j u, news[j]? = some u → w.cell? (ad.add j) = some u := by
      intro j u hu
      rcases Nat.eq_zero_or_pos m with h0 | h0
      · subst h0
        have hn : news = [] := List.eq_nil_of_length_eq_zero (by simpa using hl)
        subst hn
        simp at hu
      · obtain ⟨ad', h, hc⟩ := hr h0
        injection h with h
        subst h
        exact hc j u hu
    obtain ⟨v', w', hrun, h2, h3, _⟩ := run_append_own (P := P) w base t ty e i z size bytes ht hi hz hsize hby hzs hsz _ 0 [] hown ad m c news hl hcells h1 (by omega) (by rw [Nat.zero_add]; exact hbytes) hbase
    refine ⟨v', w', hrun, by simpa using h2, ?_⟩
    subst hsize
    rcases Nat.eq_zero_or_pos m with h0 | h0
    · subst h0
      have hn : news = [] := List.eq_nil_of_length_eq_zero (by simpa using hl)
      subst hn
      have hr2 := run_append_room (P := P) w t ty e i ht hi g 0 0 #[] hg ad 0 c [] (by simp) (by simp) (by simp) (by omega) (by simp)
      rw [hrun] at hr2
      injection hr2 with e1 e2
      refine ⟨h3.os, h3.tape, h3.output, h3.size, fun k hk => ?_⟩
      by_cases hkg : k = g
      · subst hkg
        refine (congrArg (fun W : World => W.heap[k]?) e2).trans ?_
        refine ((setRow_heap w k _ _ _ _ hg).trans ?_).trans hg.symm
        simp
      · exact h3.block k hk (fun e => hkg (by simpa [Value.ownBlock] using e))
    · have hm1 : m ≤ 9223372036854775807 := by simp only [maxLen] at h63; omega
      subst hby
      have hr2 := run_append_grow (P := P) w t ty e i z ht hi hz ⟨g, 0, none⟩ 0 0 [] (by simp) (by simp) ad m c news hl hcells (by omega) (by omega) (growslice_fits (by omega) (by rw [Nat.zero_add]; exact hbytes))
      rw [hrun] at hr2
      injection hr2 with e1 e2
      rw [e2]
      exact (Below.drew (Below.refl _ _)).alloc (Nat.le_refl _) _
theorem wp_append_empty {o : Oper} {a : Act} {K : Act → World → Prop} {Q : Exit → Act → World → Prop} (s x : Operand) (t : TypeId)
    (ho : o.op = .call { callee := .builtin .append, args := #[s, x], argTypes := #[t, t] })
    (base : Nat) (e : TypeId) (i : TypeInfo) (z : Value) (size bytes : Nat) (ht : P.underlying t = some (.slice e)) (hi : P.info? e = some i) (hz : i.zero = some z)
    (hsize : i.size = size) (hby : i.bytes = bytes) (hzs : z.cells.size = size) (hsz : 0 < size)
    (g : Nat) (hs : a.eval s = .slice (some ⟨g, 0, none⟩) 0 0) (hg : Blk w g e #[]) (hbg : base ≤ g)
    (A : Option Addr) (m c : Nat) (news : List Value) (hx : a.eval x = .slice A m c) (hl : news.length = m * size) (hr : 0 < m → ∃ ad, A = some ad ∧ ∀ j u, news[j]? = some u → w.cell? (ad.add j) = some u) (h1 : ∀ u ∈ news, u.oneCell' = true)
    (h63 : m ≤ maxLen) (hbytes : m * bytes ≤ 140737488355328) (hbase : base ≤ w.heap.size)
    (h : ∀ v' w', w'.ownsRow base e size v' m news → Below w.heap.size w w' → K (a.put o.dst v') w') : o.wp P a w K Q := by
  obtain ⟨v', w', hrun, h2, h3⟩ := run_append_empty (P := P) base t o.type e i z size bytes ht hi hz hsize hby hzs hsz g hg hbg A m c news hl hr h1 h63 hbytes hbase
  unfold Oper.wp execOp
  simp only [ho, resolve, invoke, builtin, Sem.run_bind, Sem.run_pure, Result.andThen_ok, List.map_toArray, List.map_cons, List.map_nil, hs, hx, hrun]
  exact h v' w' h2 h3
end
end Go.Proofs.YtedjadicdodahaaGreatDoor
