/- Slices: of integers, and of slices, nil let in; append onto a row of the call's own from whatever source. -/
import Derived.OwnWalk
import Derived.Maps.AppendAt
import Derived.Deep.LoopGhost
import Derived.Test.YtedjadicdodahaaGreatDoorMem
namespace Go.Proofs.YtedjadicdodahaaGreatDoor
open Go.RowKit

/-- The cells of a slice value at address A read the numbers xs. -/
def SlI (k : IntKind) (w : World) (A : Option Addr) (xs : List Int) : Prop := 0 < xs.length → ∃ b o, A = some ⟨b, o, none⟩ ∧ ∀ j z, xs[j]? = some z → w.cell? ⟨b, o + j, none⟩ = some (.int k z)
/-- A slice of slices of numbers. -/
def SlS (k : IntKind) (w : World) (A : Option Addr) (xss : List (List Int)) : Prop :=
  0 < xss.length → ∃ b o, A = some ⟨b, o, none⟩ ∧ ∀ j xs, xss[j]? = some xs → ∃ Aj cj, w.cell? ⟨b, o + j, none⟩ = some (.slice Aj xs.length cj) ∧ SlI k w Aj xs ∧ xs.length ≤ cj

section
variable {k : IntKind} {w w' : World} {A : Option Addr} {xs : List Int} {xss : List (List Int)}
theorem SlI.nil (k : IntKind) (w : World) (A : Option Addr) : SlI k w A [] := fun h => absurd h (by simp)
theorem SlI.here (h : SlI k w A xs) (hb : Below w.heap.size w w') : SlI k w' A xs := fun hn => by
  obtain ⟨b, o, e, hc⟩ := h hn
  exact ⟨b, o, e, fun j z hz => keep_cell hb (hc j z hz)⟩
theorem SlI.heap (h : SlI k w A xs) (hb : w'.heap = w.heap) : SlI k w' A xs := fun hn => by
  obtain ⟨b, o, e, hc⟩ := h hn
  exact ⟨b, o, e, fun j z hz => (World.cell?_of_block (w := w) (by rw [hb])).trans (hc j z hz)⟩
theorem SlS.here (h : SlS k w A xss) (hb : Below w.heap.size w w') : SlS k w' A xss := fun hn => by
  obtain ⟨b, o, e, hc⟩ := h hn
  refine ⟨b, o, e, fun j z hz => ?_⟩
  obtain ⟨Aj, cj, h1, h2, h3⟩ := hc j z hz
  exact ⟨Aj, cj, keep_cell hb h1, h2.here hb, h3⟩
/-- A row of the call's own, as a slice that reads. -/
theorem SlI.of_own {base n : Nat} {e : TypeId} {v : Value} (h : w.ownsRow base e 1 v n (xs.map (Value.int k))) : ∃ A c, v = .slice A n c ∧ n = xs.length ∧ n ≤ c ∧ SlI k w A xs := by
  have hl : n = xs.length := by have := h.1; simp at this; omega
  rcases h.2 with ⟨rfl, h0⟩ | ⟨g, cap, cur, rfl, _, hh, hn, _⟩
  · refine ⟨none, 0, by rw [h0], hl, by omega, fun h0' => absurd h0' (by omega)⟩
  · refine ⟨_, cap, rfl, hl, hn, fun _ => ⟨g, 0, rfl, fun j z hz => ?_⟩⟩
    have := h.cells (g := g) rfl j (.int k z) (by simp [hz])
    rwa [show (⟨g, 0, none⟩ : Addr).add j = ⟨g, 0 + j, none⟩ from by unfold Addr.add; split <;> simp_all] at this
end

theorem own_bytes {w : World} {base n : Nat} {e : TypeId} {k : IntKind} {v : Value} {xs : List Int} (h : w.ownsRow base e 1 v n (xs.map (Value.int k))) : n = xs.length := by
  have := h.1
  simp at this
  omega

section
variable {P : Program} {w : World}
theorem run_append_of_nil (base : Nat) (t ty e : TypeId) (i : TypeInfo) (size : Nat) (ht : P.underlying t = some (.slice e)) (hi : P.info? e = some i)
    (v : Value) (n : Nat) (xs : List Value) (hown : w.ownsRow base e size v n xs) (c : Nat) : (Builtin.append_ #[t, t] ty #[v, .slice none 0 c]).run P w = .ok v w := by
  rcases hown.2 with ⟨rfl, rfl⟩ | ⟨g, cap, cur, rfl, _, _, hnc, _⟩
  · simp [Builtin.append_, run_underlying ht, sizeOf, typeInfo, hi, Builtin.lenOf, Builtin.firstCells]
  · simp [Builtin.append_, run_underlying ht, sizeOf, typeInfo, hi, Builtin.lenOf, Builtin.firstCells, hnc, storeCells]

/-- append onto a row of the call's own; the source nil, empty or with cells. -/
theorem run_append_src (base : Nat) (t ty e : TypeId) (i : TypeInfo) (z : Value) (size bytes : Nat) (ht : P.underlying t = some (.slice e)) (hi : P.info? e = some i) (hz : i.zero = some z)
    (hsize : i.size = size) (hby : i.bytes = bytes) (hzs : z.cells.size = size) (hsz : 0 < size)
    (v : Value) (n : Nat) (xs : List Value) (hown : w.ownsRow base e size v n xs)
    (A : Option Addr) (m c : Nat) (news : List Value) (hl : news.length = m * size) (hr : 0 < m → ∃ ad, A = some ad ∧ ∀ j u, news[j]? = some u → w.cell? (ad.add j) = some u) (h1 : ∀ u ∈ news, u.oneCell' = true)
    (h63 : n + m ≤ maxLen) (hbytes : (n + m) * bytes ≤ 140737488355328) (hbase : base ≤ w.heap.size) :
    ∃ v' w', (Builtin.append_ #[t, t] ty #[v, .slice A m c]).run P w = .ok v' w' ∧ w'.ownsRow base e size v' (n + m) (xs ++ news) ∧ w.grownBy w' v.ownBlock ∧ (v'.ownBlock = v.ownBlock ∨ v'.ownBlock = some w.heap.size) := by
  rcases A with _ | ad
  · have hm : m = 0 := by
      rcases Nat.eq_zero_or_pos m with h0 | h0
      · exact h0
      · obtain ⟨ad, h, _⟩ := hr h0
        cases h
    subst hm
    have hn : news = [] := List.eq_nil_of_length_eq_zero (by simpa using hl)
    subst hn
    exact ⟨v, w, run_append_of_nil base t ty e i size ht hi v n xs hown c, by simpa using hown, World.grownBy.refl w _, .inl rfl⟩
  · have hcells : ∀ j u, news[j]? = some u → w.cell? (ad.add j) = some u := by
      intro j u hu
      rcases Nat.eq_zero_or_pos m with h0 | h0
      · subst h0
        have hn : news = [] := List.eq_nil_of_length_eq_zero (by simpa using hl)
        subst hn
        simp at hu
      · obtain ⟨ad', h, hc⟩ := hr h0
        injection h with h
        subst h
        exact hc j u hu
    obtain ⟨v', w', hrun, h2, h3, _, h5⟩ := run_append_own_at (P := P) w base t ty e i z size bytes ht hi hz hsize hby hzs hsz v n xs hown ad m c news hl hcells h1 h63 hbytes hbase
    exact ⟨v', w', hrun, h2, h3, h5⟩

theorem wpList_append_src {ops : Array Oper} {rest : List Oper} {o : Oper} {a : Act} {Q : Exit → Act → World → Prop} (hgd : o.guard = none) (s x : Operand) (t : TypeId)
    (ho : o.op = .call { callee := .builtin .append, args := #[s, x], argTypes := #[t, t] })
    (base : Nat) (e : TypeId) (i : TypeInfo) (z : Value) (size bytes : Nat) (ht : P.underlying t = some (.slice e)) (hi : P.info? e = some i) (hz : i.zero = some z)
    (hsize : i.size = size) (hby : i.bytes = bytes) (hzs : z.cells.size = size) (hsz : 0 < size)
    (v : Value) (n : Nat) (xs : List Value) (hs : a.eval s = v) (hown : w.ownsRow base e size v n xs)
    (A : Option Addr) (m c : Nat) (news : List Value) (hx : a.eval x = .slice A m c) (hl : news.length = m * size) (hr : 0 < m → ∃ ad, A = some ad ∧ ∀ j u, news[j]? = some u → w.cell? (ad.add j) = some u) (h1 : ∀ u ∈ news, u.oneCell' = true)
    (h63 : n + m ≤ maxLen) (hbytes : (n + m) * bytes ≤ 140737488355328) (hbase : base ≤ w.heap.size)
    (h : ∀ v' w', w'.ownsRow base e size v' (n + m) (xs ++ news) → w.grownBy w' v.ownBlock → wpList P ops Q rest (a.put o.dst v') w') : wpList P ops Q (o :: rest) a w :=
  wpList_plain hgd fun K hK => by
    obtain ⟨v', w', hrun, h2, h3, _⟩ := run_append_src (P := P) base t o.type e i z size bytes ht hi hz hsize hby hzs hsz v n xs hown A m c news hl hr h1 h63 hbytes hbase
    unfold Oper.wp execOp
    simp only [ho, resolve, invoke, builtin, Sem.run_bind, Sem.run_pure, Result.andThen_ok, List.map_toArray, List.map_cons, List.map_nil, hs, hx, hrun]
    exact hK _ _ (h v' w' h2 h3)
end
theorem sli_src {k : IntKind} {w : World} {A : Option Addr} {xs : List Int} (h : SlI k w A xs) : 0 < xs.length → ∃ ad, A = some ad ∧ ∀ j u, (xs.map (Value.int k))[j]? = some u → w.cell? (ad.add j) = some u := fun hn => by
  obtain ⟨b, o, e, hc⟩ := h hn
  refine ⟨_, e, fun j u hu => ?_⟩
  rw [List.getElem?_map, Option.map_eq_some_iff] at hu
  obtain ⟨z, hz, rfl⟩ := hu
  rw [show (⟨b, o, none⟩ : Addr).add j = ⟨b, o + j, none⟩ from by unfold Addr.add; split <;> simp_all]
  exact hc j z hz
theorem below_own {B : Nat} {a w w' : World} {e : TypeId} {size n : Nat} {v : Value} {xs : List Value} (h : Below B a w) (hown : w.ownsRow B e size v n xs) (hg : w.grownBy w' v.ownBlock) (hB : B ≤ w.heap.size) : Below B a w' :=
  h.grown hg hB (fun k hk => (hown.lt k hk).1)
end Go.Proofs.YtedjadicdodahaaGreatDoor
