/- The package's encoder: its strings, each once. -/
import Derived.Deep.RegionLaw
import Derived.Deep.DrawnRows
import Derived.Test.YtedjadicdodahaaGreatDoorPEnB
namespace Go.Proofs.YtedjadicdodahaaGreatDoor
open Go.RowKit Go.Maps

theorem idx_lt {α : Type} [DecidableEq α] {l : List α} {x : α} (h : x ∈ l) : idx l x < l.length := List.idxOf_lt_length_iff.2 h
section
variable {P : Program} {w : World}
theorem wp_append_row {o : Oper} {a : Act} {K : Act → World → Prop} {Q : Exit → Act → World → Prop} (s x : Operand) (t : TypeId)
    (ho : o.op = .call { callee := .builtin .append, args := #[s, x], argTypes := #[t, t] })
    (own : Nat → Prop) (e : TypeId) (i : TypeInfo) (z : Value) (size bytes : Nat) (ht : P.underlying t = some (.slice e)) (hi : P.info? e = some i) (hz : i.zero = some z)
    (hsize : i.size = size) (hby : i.bytes = bytes) (hzs : z.cells.size = size) (hsz : 0 < size)
    (v : Value) (n : Nat) (xs : List Value) (hs : a.eval s = v) (hown : Row own e size v n xs w)
    (A : Option Addr) (m c : Nat) (news : List Value) (hx : a.eval x = .slice A m c) (hl : news.length = m * size) (hr : 0 < m → ∃ ad, A = some ad ∧ ∀ j u, news[j]? = some u → w.cell? (ad.add j) = some u) (h1 : ∀ u ∈ news, u.oneCell' = true)
    (h63 : n + m ≤ maxLen) (hbytes : (n + m) * bytes ≤ 140737488355328)
    (h : ∀ A' c' w', Row (grow own w) e size (.slice A' (n + m) c') (n + m) (xs ++ news) w' → w.grownBy w' v.ownBlock → (∀ g, (Value.slice A' (n + m) c').ownBlock = some g → v.ownBlock = some g ∨ w.heap.size ≤ g) → K (a.put o.dst (.slice A' (n + m) c')) w') : o.wp P a w K Q := by
  obtain ⟨v', w', hrun, h2, h3, h4⟩ := run_append_src (P := P) 0 t o.type e i z size bytes ht hi hz hsize hby hzs hsz v n xs hown.row A m c news hl hr h1 h63 hbytes (Nat.zero_le _)
  obtain ⟨A', c', rfl, _⟩ := own_slice h2
  unfold Oper.wp execOp
  simp only [ho, resolve, invoke, builtin, Sem.run_bind, Sem.run_pure, Result.andThen_ok, List.map_toArray, List.map_cons, List.map_nil, hs, hx, hrun]
  have h5 : ∀ g, (Value.slice A' (n + m) c').ownBlock = some g → v.ownBlock = some g ∨ w.heap.size ≤ g := fun g hg => by
    rcases h4 with h4 | h4
    · exact .inl (h4 ▸ hg)
    · rw [h4] at hg
      injection hg with hg
      exact .inr (Nat.le_of_eq hg)
  exact h A' c' w' ⟨h2, fun k hk => (h5 k hk).imp (hown.own k) id⟩ h3 h5
theorem step_append_row {ops : Array Oper} {o : Oper} {a : Act} {K : Act → World → Prop} {Q : Exit → Act → World → Prop} {E : Prop} (hgd : o.guard = none) (s x : Operand) (t : TypeId)
    (ho : o.op = .call { callee := .builtin .append, args := #[s, x], argTypes := #[t, t] })
    (own : Nat → Prop) (e : TypeId) (i : TypeInfo) (z : Value) (size bytes : Nat) (ht : P.underlying t = some (.slice e)) (hi : P.info? e = some i) (hz : i.zero = some z)
    (hsize : i.size = size) (hby : i.bytes = bytes) (hzs : z.cells.size = size) (hsz : 0 < size)
    (v : Value) (n : Nat) (xs : List Value) (hs : a.eval s = v) (hown : Row own e size v n xs w)
    (A : Option Addr) (m c : Nat) (news : List Value) (hx : a.eval x = .slice A m c) (hl : news.length = m * size) (hr : 0 < m → ∃ ad, A = some ad ∧ ∀ j u, news[j]? = some u → w.cell? (ad.add j) = some u) (h1 : ∀ u ∈ news, u.oneCell' = true)
    (h63 : n + m ≤ maxLen) (hbytes : (n + m) * bytes ≤ 140737488355328)
    (h : ∀ A' c' w', Row (grow own w) e size (.slice A' (n + m) c') (n + m) (xs ++ news) w' → w.grownBy w' v.ownBlock → (∀ g, (Value.slice A' (n + m) c').ownBlock = some g → v.ownBlock = some g ∨ w.heap.size ≤ g) → K (a.put o.dst (.slice A' (n + m) c')) w') :
    if Region.wanted o (yielded ops a.tmps) = true then Oper.wp P o a w K Q else E := by
  have hw : Region.wanted o (yielded ops a.tmps) = true := by simp [Region.wanted, hgd]
  rw [if_pos hw]
  exact wp_append_row s x t ho own e i z size bytes ht hi hz hsize hby hzs hsz v n xs hs hown A m c news hx hl hr h1 h63 hbytes h
theorem wpList_append_row {ops : Array Oper} {rest : List Oper} {o : Oper} {a : Act} {Q : Exit → Act → World → Prop} (hgd : o.guard = none) (s x : Operand) (t : TypeId)
    (ho : o.op = .call { callee := .builtin .append, args := #[s, x], argTypes := #[t, t] })
    (own : Nat → Prop) (e : TypeId) (i : TypeInfo) (z : Value) (size bytes : Nat) (ht : P.underlying t = some (.slice e)) (hi : P.info? e = some i) (hz : i.zero = some z)
    (hsize : i.size = size) (hby : i.bytes = bytes) (hzs : z.cells.size = size) (hsz : 0 < size)
    (v : Value) (n : Nat) (xs : List Value) (hs : a.eval s = v) (hown : Row own e size v n xs w)
    (A : Option Addr) (m c : Nat) (news : List Value) (hx : a.eval x = .slice A m c) (hl : news.length = m * size) (hr : 0 < m → ∃ ad, A = some ad ∧ ∀ j u, news[j]? = some u → w.cell? (ad.add j) = some u) (h1 : ∀ u ∈ news, u.oneCell' = true)
    (h63 : n + m ≤ maxLen) (hbytes : (n + m) * bytes ≤ 140737488355328)
    (h : ∀ A' c' w', Row (grow own w) e size (.slice A' (n + m) c') (n + m) (xs ++ news) w' → w.grownBy w' v.ownBlock → (∀ g, (Value.slice A' (n + m) c').ownBlock = some g → v.ownBlock = some g ∨ w.heap.size ≤ g) → wpList P ops Q rest (a.put o.dst (.slice A' (n + m) c')) w') : wpList P ops Q (o :: rest) a w := by
  refine wpList_plain hgd fun K' hK' => ?_
  exact wp_append_row s x t ho own e i z size bytes ht hi hz hsize hby hzs hsz v n xs hs hown A m c news hx hl hr h1 h63 hbytes fun A' c' w' h2 h3 h4 => hK' _ _ (h A' c' w' h2 h3 h4)
end
section
variable {own : Nat → Prop} {e : TypeId} {size n c : Nat} {A : Option Addr} {xs : List Value} {w : World}
/-- A cell of a row. -/
theorem Row.at (h : Row own e size (.slice A n c) n xs w) (h0 : 0 < xs.length) : ∃ g, A = some ⟨g, 0, none⟩ ∧ own g ∧ Proofs.YtedjadicdodahaaGreatDoor.tag w g = some e ∧ n ≤ c ∧ c ≤ maxLen ∧ ∀ i, i < xs.length → w.cell? ⟨g, i, none⟩ = xs[i]? ∧ w.frozen? ⟨g, i, none⟩ = false := by
  obtain ⟨h1, h2⟩ := h
  rcases h1.2 with ⟨hv, hn⟩ | ⟨g, cap, cur, hv, _, hh, hnc, hcm, hcs, htk⟩
  · rw [h1.1, hn, Nat.zero_mul] at h0
    omega
  · simp only [Value.slice.injEq] at hv
    obtain ⟨rfl, _, rfl⟩ := hv
    refine ⟨g, rfl, h2 g rfl, tag_of hh, hnc, hcm, fun i hi => ⟨?_, Lib.frozen_of_heap hh _⟩⟩
    rw [cell_of_row w g i cur e (0, 0) hh, ← htk, List.getElem?_take]
    rw [h1.1] at hi
    rw [if_pos hi]
    simp
end
theorem Tryz.infoStr : (Tryz.prog.info? 9).map (fun i => (i.zero, i.size, i.bytes)) = some (some (.string ⟨#[]⟩), 1, 16) := by kernel_rfl
theorem Tryz.infoRef : (Tryz.prog.info? 131).map (fun i => (i.zero, i.size, i.bytes)) = some (some (.agg #[.int .i32 0, .int .i32 0]), 2, 8) := by kernel_rfl
/-- What a method of the package's encoder leaves. -/
structure PkMet (own : Nat → Prop) (pb mb : Nat) (ver sf : Int) (p : Pk) (w : World) (v : Value) (e : Ending) (w' : World) : Prop where
  ret : e = .returned v
  st : PkSt (grow own w) pb mb ver sf p w'
  fr : ∃ G, Fr G w w' ∧ ∀ g ∈ G, own g ∧ (g = mb ∨ tag w g = some 9 ∨ tag w g = some 58)
theorem PkMet.kp {own : Nat → Prop} {pb mb : Nat} {ver sf : Int} {p : Pk} {w : World} {v : Value} {e : Ending} {w' : World} (h : PkMet own pb mb ver sf p w v e w') : Kp own w w' := by
  obtain ⟨G, h1, h2⟩ := h.fr
  exact Kp.of_fr h1 fun g hg => .inl (h2 g hg).1
theorem PkMet.en {own : Nat → Prop} {pb eb mb : Nat} {ver sf : Int} {p : Pk} {e : Es} {k idx : Int} {hd : Bool} {w : World} {v : Value} {d : Ending} {w' : World} (h : PkMet own pb mb ver sf p w v d w') (hp : tag w mb = none) (hE : EnSt own pb eb mb e k idx hd w) : EnSt (grow own w) pb eb mb e k idx hd w' := by
  obtain ⟨G, h1, h2⟩ := h.fr
  refine (hE.fr h1 (fun g hg => ?_) hp).mono (grow_of own w)
  rcases (h2 g hg).2 with h | h | h
  · exact .inl h
  · exact .inr ⟨_, h, by decide, by decide, by decide⟩
  · exact .inr ⟨_, h, by decide, by decide, by decide⟩
/-- The strings with t. -/
abbrev withT (p : Pk) (t : ByteArray) : Pk := fun k => if k = 0 then put (p 0) t else p k
/-- A section has grown; its map too, if it is the strings'. -/
theorem PkSt.grew {own : Nat → Prop} {pb mb : Nat} {ver sf : Int} {p : Pk} {w w' : World} (h : PkSt own pb mb ver sf p w) {f : Nat → Value} (hb : Blk w pb 58 (pkArr ver f mb sf)) (hr : ∀ k, k < 10 → Row own 9 1 (f k) (p k).length ((p k).map Value.string) w)
    (hd : ∀ j k, j < 10 → k < 10 → j ≠ k → ∀ g, (f j).ownBlock = some g → (f k).ownBlock ≠ some g) (i : Nat) (hi : i < 10) (t : ByteArray) (v : Value) {G : List Nat} (hG : Fr G w w') (hGG : ∀ g ∈ G, g = pb ∨ g = mb ∨ (f i).ownBlock = some g)
    (hb' : Blk w' pb 58 ((pkArr ver f mb sf).setIfInBounds (1 + i) v)) (hv : Row (grow own w) 9 1 v ((p i).length + 1) ((p i).map Value.string ++ [.string t]) w') (hvn : ∀ g, v.ownBlock = some g → (f i).ownBlock = some g ∨ w.heap.size ≤ g)
    (hm : MapK 9 67 .i32 Value.string mb ((if 0 = i then p i ++ [t] else p 0).length) (placeT (if 0 = i then p i ++ [t] else p 0)) w') :
    PkSt (grow own w) pb mb ver sf (fun k => if k = i then p i ++ [t] else p k) w' ∧ ∃ G, Fr G w w' ∧ ∀ g ∈ G, own g ∧ (g = mb ∨ Proofs.YtedjadicdodahaaGreatDoor.tag w g = some 9 ∨ Proofs.YtedjadicdodahaaGreatDoor.tag w g = some 58) := by
  rw [pkArr_set ver f mb sf i hi v] at hb'
  refine ⟨⟨⟨.inl h.low.1, .inl h.low.2⟩, ⟨_, hb', fun k hk => ?_, fun j k hj hk hjk g hg => ?_⟩, hm⟩, G, hG, fun g hg => ?_⟩
  · show Row _ _ _ (if k = i then v else f k) (if k = i then p i ++ [t] else p k).length ((if k = i then p i ++ [t] else p k).map Value.string) w'
    by_cases hki : k = i
    · rw [if_pos hki, if_pos hki, List.length_append, List.map_append]
      exact hv
    · rw [if_neg hki, if_neg hki]
      refine ((hr k hk).fr hG fun j hj hjG => ?_).mono (grow_of own w)
      rcases hGG j hjG with rfl | rfl | h1
      · have h2 := (hr k hk).tag hj
        rw [hb.tag] at h2
        exact absurd h2 (by decide)
      · have h2 := (hr k hk).tag hj
        rw [h.map.tag] at h2
        cases h2
      · exact hd i k hi hk (fun e => hki e.symm) j h1 hj
  · have hold : ∀ m g, m < 10 → (f m).ownBlock = some g → g < w.heap.size := fun m g hm hg => ((hr m hm).row.lt g hg).2
    show (if k = i then v else f k).ownBlock ≠ some g
    replace hg : (if j = i then v else f j).ownBlock = some g := hg
    by_cases hji : j = i
    · rw [if_pos hji] at hg
      rw [if_neg (fun h => hjk (hji.trans h.symm))]
      intro hk'
      rcases hvn g hg with h1 | h1
      · exact hd i k hi hk (fun e => hjk (hji.trans e)) g h1 hk'
      · have := hold k g hk hk'
        omega
    · rw [if_neg hji] at hg
      by_cases hki : k = i
      · rw [if_pos hki]
        intro hk'
        rcases hvn g hk' with h1 | h1
        · exact hd j i hj hi hji g hg h1
        · have := hold j g hj hg
          omega
      · rw [if_neg hki]
        exact hd j k hj hk hjk g hg
  · rcases hGG g hg with rfl | rfl | h1
    · exact ⟨h.low.1, .inr (.inr hb.tag)⟩
    · exact ⟨h.low.2, .inl rfl⟩
    · exact ⟨(hr i hi).own g h1, .inr (.inl ((hr i hi).tag h1))⟩
theorem ownsMap_block {H : Type} {P : Program} {k : TypeId} {R : Value → Option (DataW H × List MemPlace)} {b n : Nat} {D : DataW H} {w w' : World} (h : w.ownsMap P k R b n D) (e : w'.heap[b]? = w.heap[b]?) : w'.ownsMap P k R b n D := by
  obtain ⟨es, c, h1, h3⟩ := h
  exact ⟨es, c, e.trans h1, h3⟩
/-- A new string has gone behind; then into the map. -/
theorem PkSt.strNew {own : Nat → Prop} {pb mb : Nat} {ver sf : Int} {p : Pk} {w : World} (h : PkSt own pb mb ver sf p w) {f : Nat → Value} (hb : Blk w pb 58 (pkArr ver f mb sf)) (hr : ∀ k, k < 10 → Row own 9 1 (f k) (p k).length ((p k).map Value.string) w)
    (hd : ∀ j k, j < 10 → k < 10 → j ≠ k → ∀ g, (f j).ownBlock = some g → (f k).ownBlock ≠ some g) (t : ByteArray) (n : Nat) (hn : n = (p 0).length) (ht : t ∉ p 0) (htz : t.size ≤ maxLen) {A0 : Option Addr} {C0 : Nat} (hf : f 0 = .slice A0 n C0)
    {D : DataW Unit} (hM : IsMap D) (hD : ∀ (s : ByteArray) (kl : Lit), keyOf Tryz.prog 9 (.string s) = some kl → Maps.has D kl = (placeT (p 0) s).isSome ∧ ∀ v, placeT (p 0) s = some v → D.atKey kl (.lit (.int .i32 0)) = .lit (.int .i32 v))
    (hown : w.ownsMap Tryz.prog 9 (plainElem Tryz.prog 67) mb n D) {wa : World} (hwa : Below w.heap.size w wa) (A2 : Option Addr) (C2 : Nat) (w3 : World)
    (hrow : Row (grow own wa) 9 1 (.slice A2 (n + 1) C2) (n + 1) ((p 0).map Value.string ++ [.string t]) w3) (hg : wa.grownBy w3 (Value.slice A0 n C0).ownBlock) (hvn : ∀ g, (Value.slice A2 (n + 1) C2).ownBlock = some g → (Value.slice A0 n C0).ownBlock = some g ∨ wa.heap.size ≤ g) :
    (w3.setCell ⟨pb, 1, none⟩ (.slice A2 (n + 1) C2)).cell? ⟨pb, 11, none⟩ = some (.map (some mb)) ∧ (w3.setCell ⟨pb, 1, none⟩ (.slice A2 (n + 1) C2)).ownsMap Tryz.prog 9 (plainElem Tryz.prog 67) mb n D ∧
    ∀ w5 : World, w5.ownsMap Tryz.prog 9 (plainElem Tryz.prog 67) mb (n + 1) (D.put (sk t) (.lit (.int .i32 (n : Int)))) → (w3.setCell ⟨pb, 1, none⟩ (.slice A2 (n + 1) C2)).grownBy w5 (some mb) → PkMet own pb mb ver sf (withT p t) w (.int .i32 (n : Int)) (.returned (.int .i32 (n : Int))) w5 := by
  have hbl := hb.lt
  have hml := h.map.lt
  have hmp : mb ≠ pb := h.map.ne hb.tag
  have hmr : ∀ g, (f 0).ownBlock = some g → g ≠ mb ∧ g ≠ pb := fun g hg => by
    have h1 := (hr 0 (by omega)).tag hg
    refine ⟨fun e => ?_, fun e => ?_⟩
    · rw [e, h.map.tag] at h1
      cases h1
    · rw [e, hb.tag] at h1
      exact absurd h1 (by decide)
  rw [← hf] at hg hvn
  have fa : Fr (pb :: mb :: (f 0).ownBlock.toList) w w3 := (Fr.of_below hwa).trans (fr_of_grown (G := (f 0).ownBlock.toList) hg (by simp)) (fun j hj => .inl (by simp at hj ⊢; exact .inr (.inr hj)))
  have f4 := fa.setCell (p := ⟨pb, 1, none⟩) (.inl (by simp)) (.slice A2 (n + 1) C2)
  have h3 : w3.heap[mb]? = w.heap[mb]? := (hg.block mb (Nat.lt_of_lt_of_le hml hwa.size) (fun e => (hmr mb e.symm).1 rfl)).trans (hwa.block mb hml)
  have hb3 : Blk w3 pb 58 (pkArr ver f mb sf) := (hb.here hwa).grown hg (fun e => (hmr pb e).2 rfl)
  have h4 : (w3.setCell ⟨pb, 1, none⟩ (.slice A2 (n + 1) C2)).heap[mb]? = w.heap[mb]? := (Below.heap_setCell _ _ _ _ hmp).trans h3
  have hb4 := hb3.set_ 1 (.slice A2 (n + 1) C2)
  refine ⟨by rw [hb4.cell]; rfl, ownsMap_block hown h4, fun w5 o5 g5 => ?_⟩
  have f5 := f4.trans (fr_of_grown (G := [mb]) g5 (by simp)) (fun j hj => .inl (by simp at hj ⊢; exact .inr (.inl hj)))
  have hv2 : ∀ g, (Value.slice A2 (n + 1) C2).ownBlock = some g → (f 0).ownBlock = some g ∨ w.heap.size ≤ g := fun g hg => (hvn g hg).imp id (Nat.le_trans hwa.size)
  have hne : ∀ g, (Value.slice A2 (n + 1) C2).ownBlock = some g → g ≠ mb ∧ g ≠ pb := fun g hg => by
    rcases hv2 g hg with h1 | h1
    · exact hmr g h1
    · omega
  have hr4 : Row (grow own wa) 9 1 (.slice A2 (n + 1) C2) (n + 1) ((p 0).map Value.string ++ [.string t]) (w3.setCell ⟨pb, 1, none⟩ (.slice A2 (n + 1) C2)) :=
    hrow.fr (G := [pb]) ((Fr.refl _ _).setCell (.inl (by simp)) _) (fun g hg => by simpa using (hne g hg).2)
  have hr5 := hr4.fr (fr_of_grown (G := [mb]) g5 (by simp)) (fun g hg => by simpa using (hne g hg).1)
  have hm5 := MapK.put (kv := Value.string) (t := placeT (p 0)) Tryz.keyS string_inj (keyStr t htz) hM hD o5
  have hpt : placeT (p 0 ++ [t]) = fun u => if u = t then some (n : Int) else placeT (p 0) u := funext fun u => by
    rw [← placeT_put _ _ ht u, hn]
  obtain ⟨q1, q2⟩ := h.grew hb hr hd 0 (by omega) t (.slice A2 (n + 1) C2) f5 (fun g hg => by
      simp only [List.mem_cons, Option.mem_toList] at hg
      rcases hg with rfl | rfl | hg
      · exact .inl rfl
      · exact .inr (.inl rfl)
      · exact .inr (.inr hg)) (hb4.grown g5 (by simpa using hmp)) (by rw [← hn]; exact hr5.mono (grow_le hwa.size)) hv2 (by
      rw [if_pos rfl, List.length_append, List.length_singleton, ← hn, hpt]
      exact hm5)
  have hw : (fun k => if k = 0 then p 0 ++ [t] else p k) = withT p t := by
    funext k
    show _ = if k = 0 then put (p 0) t else p k
    rw [put_of_not ht]
  rw [hw] at q1
  exact ⟨rfl, q1, q2⟩
set_option maxRecDepth 100000 in
set_option maxHeartbeats 2000000 in
theorem stringIdx_any {own : Nat → Prop} {pb mb : Nat} {ver sf : Int} {p : Pk} {w : World} (h : PkSt own pb mb ver sf p w) (t : ByteArray) (ht : t.size ≤ 2147483647) (hn : (p 0).length ≤ 1000000) :
    Calls Tryz.prog 91 #[.pointer (some ⟨pb, 0, none⟩), .string t] w (PkMet own pb mb ver sf (withT p t) w (.int .i32 (idx (p 0) t : Nat))) := by
  obtain ⟨f, hb, hr, hd⟩ := h.is
  obtain ⟨A0, C0, hf0, hc0⟩ := own_slice (hr 0 (by omega)).row
  obtain ⟨D, hown, hM, hD⟩ := h.map.is
  obtain ⟨l, hl⟩ : ∃ l, l = p 0 := ⟨_, rfl⟩
  have hR0 := hr 0 (by omega)
  rw [hf0] at hR0
  rw [← hl] at hf0 hn hR0 hown hD
  have c1 : w.cell? ⟨pb, 1, none⟩ = some (.slice A0 l.length C0) := by rw [hb.cell]; exact congrArg some hf0
  have f1 := hb.frozen 1
  have c11 : w.cell? ⟨pb, 11, none⟩ = some (.map (some mb)) := by rw [hb.cell]; rfl
  have hkey := Lib.hid (keyStr t (by unfold maxLen; omega))
  obtain ⟨hD1, hD2⟩ := hD t _ hkey.out
  have H := Lib.hid h
  have HB := Lib.hid hb
  have HR := Lib.hid hr
  have HDD := Lib.hid hd
  have HO := Lib.hid hown
  have HM := Lib.hid hM
  have HDt := Lib.hid hD
  have HL := Lib.hid hl
  have HF := Lib.hid hf0
  by_cases hs : t ∈ l
  · have hp : withT p t = p := by
      funext k
      show (if k = 0 then put (p 0) t else p k) = p k
      split
      · rename_i hk
        rw [hk, put_of_mem (by rw [← hl]; exact hs)]
      · rfl
    rw [hp]
    have hb1 : Maps.has D (sk t) = true := by rw [hD1, placeT, if_pos hs]; rfl
    have hb2 : D.atKey (sk t) (.lit (.int .i32 0)) = .lit (.int .i32 (idx l t : Nat)) := hD2 _ (by rw [placeT, if_pos hs])
    have hil : idx l t < l.length := idx_lt hs
    obtain ⟨g, rfl, _, _, hlc, hcm, hcl⟩ := hR0.at (by rw [List.length_map]; omega)
    have hci : w.cell? ⟨g, idx l t, none⟩ = some (.string t) := by
      rw [(hcl _ (by rw [List.length_map]; exact hil)).1, List.getElem?_map]
      have h9 := put_at l t
      rw [put_of_mem hs] at h9
      rw [h9]
      rfl
    obtain ⟨i, hi⟩ : ∃ i, i = idx l t := ⟨_, rfl⟩
    rw [← hl, ← hi]
    rw [← hi] at hb2 hil hci
    have i0 : (0 : Int) ≤ i := by omega
    have i1 : (i : Int) < l.length := by omega
    have HB2 := Lib.hid hb2
    have HI := Lib.hid hi
    clear hi hb2 h hb hr hd hown hM hD hl hf0 hp hcl hR0 hD1 hD2 hs
    go_enter Tryz.func91, Tryz.ntmps91
    go_wp2_with (at_lookup; refine wpList_lookup_own_ok_int _ rfl _ _ 56 rfl 9 67 .i32 Tryz.keyS Tryz.underlying56 Tryz.underlying67 (Tryz.zeroI32 _) mb _ D rfl HO.out _ (sk t) rfl hkey.out ?_; intro c hat hwc; obtain rfl : c = (i : Int) := (by have := hat.symm.trans HB2.out; injection this with this; injection this); clear hat hwc)
    refine (assert_true _).mono ?_
    rintro e' w1 ⟨rfl, n1, rfl⟩
    go_wp2_with fail
    go_ret
    exact ⟨rfl, (H.out.here (below_drewN (Below.refl _ _) n1)).mono (grow_of own w), [], (Fr.refl _ _).drewN n1, by simp⟩
  · have hb1 : Maps.has D (sk t) = false := by rw [hD1, placeT, if_neg hs]; rfl
    obtain ⟨i0, hj, jz0, jz1, jz2⟩ := info_parts Tryz.infoStr
    have hii : idx (p 0) t = l.length := by rw [← hl]; exact idx_of_not hs
    rw [hii]
    obtain ⟨n, hln⟩ : ∃ n, n = l.length := ⟨_, rfl⟩
    rw [← hln] at c1 hn hR0 hown ⊢
    have m0 : (n : Int) < 2147483648 := by omega
    have m1 : (0 : Int) ≤ n := by omega
    have HS := Lib.hid hs
    have HN := Lib.hid hln
    have R0 := Lib.hid hR0
    have HO := Lib.hid hown
    have HPT := Lib.hid (show (fun k => if k = 0 then p 0 ++ [t] else p k) = withT p t from by
      funext k
      show _ = if k = 0 then put (p 0) t else p k
      rw [put_of_not (by rw [← hl]; exact hs)])
    have O2 := Lib.hid (show n + 1 ≤ maxLen from by unfold maxLen; omega)
    have O3 := Lib.hid (show (n + 1) * 16 ≤ 140737488355328 from by omega)
    have pz := hb.lt
    have WA := Lib.hid (show Below w.heap.size w (w.drew.alloc (.cells #[.string t] 9)) from Below.alloc (Below.drew (Below.refl _ _)) (Nat.le_refl _) _)
    have RA := Lib.hid (R0.out.here WA.out)
    have BA := Lib.hid (hb.here WA.out)
    have NP := Lib.hid (show (Value.slice A0 n C0).ownBlock ≠ some pb from fun h' => by
      have h9 := R0.out.tag h'
      rw [HB.out.tag] at h9
      exact absurd h9 (by decide))
    have SRC := Lib.hid (show 0 < 1 → ∃ ad, some (⟨w.heap.size, 0, none⟩ : Addr) = some ad ∧ ∀ j u, ([.string t] : List Value)[j]? = some u → (w.drew.alloc (.cells #[.string t] 9)).cell? (ad.add j) = some u from
      src_new w.drew 9 #[.string t] [.string t] rfl 1 _ (Below.refl _ _))
    have KK := Lib.hid (PkSt.strNew (A0 := A0) (C0 := C0) h hb hr hd t n (by rw [hln, hl]) (by rw [← hl]; exact hs) (by unfold maxLen; omega) (by rw [hf0, hln]) hM (by rw [← hl]; exact hD) hown WA.out)
    have WFN := Lib.hid (show (Lit.int .i32 (n : Int)).wf = true from by simp [Lit.wf, IntKind.bits, IntKind.signed, IntKind.min, IntKind.max]; omega)
    have O1 := Lib.hid (show ∀ u ∈ ([.string t] : List Value), u.oneCell' = true from by simp [Value.oneCell'])
    have RO := Lib.hid (show ∀ j, (Value.slice A0 n C0).ownBlock = some j → j < w.heap.size from fun j hj => (R0.out.row.lt j hj).2)
    clear h hb hr hd hown hM hD hl hf0 hR0 hD1 hD2 hs hii hln
    go_enter Tryz.func91, Tryz.ntmps91
    go_wp2_with (at_lookup; refine wpList_lookup_own_ok_int _ rfl _ _ 56 rfl 9 67 .i32 Tryz.keyS Tryz.underlying56 Tryz.underlying67 (Tryz.zeroI32 _) mb _ D rfl HO.out _ (sk t) rfl hkey.out ?_; intro c hat hwc; clear hat hwc)
    go_region_law (first
        | (refine step_append_row (by rfl) _ _ 39 (by rfl) own 9 i0 _ 1 16 Tryz.underlying39 hj jz0 jz1 jz2 (by rfl) (by decide) (.slice A0 n C0) n _ (by rfl) RA.out _ 1 1 [.string t] (by rfl) rfl SRC.out O1.out O2.out O3.out ?_; intro A2 C2 w3 hown2 hgrow2 hnew2; have x3 := (BA.out).grown hgrow2 NP.out; have x3c := x3.cell 1; have x3f := x3.frozen 1)
        | (go_simp; fail))
    all_goals
      obtain ⟨q1, q2, q3⟩ := KK.out A2 C2 w3 (by rw [← HL.out]; exact hown2) hgrow2 hnew2
      have Q2 := Lib.hid q2
      have Q3 := Lib.hid q3
      obtain ⟨w4, hw4⟩ : ∃ w4, w4 = w3.setCell ⟨pb, 1, none⟩ (.slice A2 (n + 1) C2) := ⟨_, rfl⟩
      rw [← hw4] at q1 Q2 Q3 ⊢
      clear hw4 q2 q3 x3 x3c x3f hown2 hgrow2 hnew2
      go_wp2_with (at_mapUpdate; refine wpList_mapUpdate_own _ rfl _ _ _ 56 rfl 9 67 Tryz.keyS Tryz.underlying56 (plainElem Tryz.prog 67) mb n D rfl Q2.out (by unfold maxLen; omega) _ _ (sk t) rfl rfl hkey.out (.lit (.int .i32 (n : Int))) [] (plainElem_int Tryz.underlying67 WFN.out) ?_; intro w5 hown5 hgrow5)
      go_ret
      exact Q3.out w5 hown5 hgrow5
end Go.Proofs.YtedjadicdodahaaGreatDoor
