/- Slices: append in a region that draws; rows of the call's own behind other steps. -/
import Derived.Lib.Buffer
import Derived.Deep.DrawnRows
import Derived.Deep.RegionHeld3
import Derived.Deep.RegionLaw
import Derived.Test.YtedjadicdodahaaGreatDoorSl
namespace Go.Proofs.YtedjadicdodahaaGreatDoor
open Go.RowKit

section
variable {w w' : World} {base size n : Nat} {e : TypeId} {v : Value} {xs : List Value}
theorem own_block {h0 : w.ownsRow base e size v n xs} (hk : ∀ k, v.ownBlock = some k → w'.heap[k]? = w.heap[k]?) : w'.ownsRow base e size v n xs := by
  obtain ⟨h1, h2⟩ := h0
  refine ⟨h1, ?_⟩
  rcases h2 with h2 | ⟨g, cap, cur, rfl, hb, hh, r⟩
  · exact .inl h2
  · exact .inr ⟨g, cap, cur, rfl, hb, (hk g rfl).trans hh, r⟩
theorem own_here (h : w.ownsRow base e size v n xs) (hb : Below w.heap.size w w') : w'.ownsRow base e size v n xs :=
  own_block (h0 := h) fun k hk => hb.block k (h.lt k hk).2
theorem own_drewN (h : w.ownsRow base e size v n xs) (m : Nat) : (w.drewN m).ownsRow base e size v n xs := h
theorem own_set (h : w.ownsRow base e size v n xs) {p : Addr} (hp : v.ownBlock ≠ some p.block) (u : Value) : (w.setCell p u).ownsRow base e size v n xs :=
  own_block (h0 := h) fun k hk => Below.heap_setCell w p u k (by rintro rfl; exact hp hk)
theorem own_grown {row : Option Nat} (h : w.ownsRow base e size v n xs) (hg : w.grownBy w' row) (hr : ∀ k, v.ownBlock = some k → row ≠ some k) : w'.ownsRow base e size v n xs :=
  own_block (h0 := h) fun k hk => hg.block k (h.lt k hk).2 (fun h' => hr k hk h'.symm)
theorem Blk.grown {g : Nat} {t : TypeId} {cs : Array Value} {row : Option Nat} (h : Blk w g t cs) (hg : w.grownBy w' row) (hr : row ≠ some g) : Blk w' g t cs := (hg.block g h.lt (fun h' => hr h'.symm)).trans h
theorem own_slice (h : w.ownsRow base e size v n xs) : ∃ A c, v = .slice A n c ∧ n ≤ c := by
  rcases h.2 with ⟨rfl, h0⟩ | ⟨g, cap, cur, rfl, _, _, hn, _⟩
  · exact ⟨none, 0, by rw [h0], by omega⟩
  · exact ⟨_, cap, rfl, hn⟩
theorem own_mono {base' : Nat} (h : w.ownsRow base e size v n xs) (hb : base' ≤ base) : w.ownsRow base' e size v n xs := by
  obtain ⟨h1, h2⟩ := h
  refine ⟨h1, ?_⟩
  rcases h2 with h2 | ⟨g, cap, cur, rfl, hg, r⟩
  · exact .inl h2
  · exact .inr ⟨g, cap, cur, rfl, Nat.le_trans hb hg, r⟩
theorem own_ne_low {k : Nat} (h : w.ownsRow base e size v n xs) (hk : k < base) : v.ownBlock ≠ some k := fun h' => by have := (h.lt k h').1; omega
theorem SlI.grown {k : IntKind} {A : Option Addr} {zs : List Int} {row : Option Nat} {B : Nat} (h : SlI k w A zs) (hg : w.grownBy w' row) (hr : ∀ k, row = some k → B ≤ k) (hB : ∀ a, A = some a → a.block < B) : SlI k w' A zs := fun hn => by
  obtain ⟨b, o, rfl, hc⟩ := h hn
  exact ⟨b, o, rfl, fun j z hz => (World.cell?_of_block (hg.block b (World.block_lt_of_cell? w _ (hc j z hz)) (fun h' => by have := hr b h'.symm; have := hB _ rfl; simp at this; omega))).trans (hc j z hz)⟩
end

section
variable {P : Program} {w : World}
theorem wp_append_src {o : Oper} {a : Act} {K : Act → World → Prop} {Q : Exit → Act → World → Prop} (s x : Operand) (t : TypeId)
    (ho : o.op = .call { callee := .builtin .append, args := #[s, x], argTypes := #[t, t] })
    (base : Nat) (e : TypeId) (i : TypeInfo) (z : Value) (size bytes : Nat) (ht : P.underlying t = some (.slice e)) (hi : P.info? e = some i) (hz : i.zero = some z)
    (hsize : i.size = size) (hby : i.bytes = bytes) (hzs : z.cells.size = size) (hsz : 0 < size)
    (v : Value) (n : Nat) (xs : List Value) (hs : a.eval s = v) (hown : w.ownsRow base e size v n xs)
    (A : Option Addr) (m c : Nat) (news : List Value) (hx : a.eval x = .slice A m c) (hl : news.length = m * size) (hr : 0 < m → ∃ ad, A = some ad ∧ ∀ j u, news[j]? = some u → w.cell? (ad.add j) = some u) (h1 : ∀ u ∈ news, u.oneCell' = true)
    (h63 : n + m ≤ maxLen) (hbytes : (n + m) * bytes ≤ 140737488355328) (hbase : base ≤ w.heap.size)
    (h : ∀ v' w', w'.ownsRow base e size v' (n + m) (xs ++ news) → w.grownBy w' v.ownBlock → K (a.put o.dst v') w') : o.wp P a w K Q := by
  obtain ⟨v', w', hrun, h2, h3, _⟩ := run_append_src (P := P) base t o.type e i z size bytes ht hi hz hsize hby hzs hsz v n xs hown A m c news hl hr h1 h63 hbytes hbase
  unfold Oper.wp execOp
  simp only [ho, resolve, invoke, builtin, Sem.run_bind, Sem.run_pure, Result.andThen_ok, List.map_toArray, List.map_cons, List.map_nil, hs, hx, hrun]
  exact h v' w' h2 h3

theorem step_append_src {ops : Array Oper} {o : Oper} {a : Act} {K : Act → World → Prop} {Q : Exit → Act → World → Prop} {E : Prop} (hgd : o.guard = none) (s x : Operand) (t : TypeId)
    (ho : o.op = .call { callee := .builtin .append, args := #[s, x], argTypes := #[t, t] })
    (base : Nat) (e : TypeId) (i : TypeInfo) (z : Value) (size bytes : Nat) (ht : P.underlying t = some (.slice e)) (hi : P.info? e = some i) (hz : i.zero = some z)
    (hsize : i.size = size) (hby : i.bytes = bytes) (hzs : z.cells.size = size) (hsz : 0 < size)
    (v : Value) (n : Nat) (xs : List Value) (hs : a.eval s = v) (hown : w.ownsRow base e size v n xs)
    (A : Option Addr) (m c : Nat) (news : List Value) (hx : a.eval x = .slice A m c) (hl : news.length = m * size) (hr : 0 < m → ∃ ad, A = some ad ∧ ∀ j u, news[j]? = some u → w.cell? (ad.add j) = some u) (h1 : ∀ u ∈ news, u.oneCell' = true)
    (h63 : n + m ≤ maxLen) (hbytes : (n + m) * bytes ≤ 140737488355328) (hbase : base ≤ w.heap.size)
    (h : ∀ v' w', w'.ownsRow base e size v' (n + m) (xs ++ news) → w.grownBy w' v.ownBlock → K (a.put o.dst v') w') :
    if Region.wanted o (yielded ops a.tmps) = true then Oper.wp P o a w K Q else E := by
  have hw : Region.wanted o (yielded ops a.tmps) = true := by simp [Region.wanted, hgd]
  rw [if_pos hw]
  exact wp_append_src s x t ho base e i z size bytes ht hi hz hsize hby hzs hsz v n xs hs hown A m c news hx hl hr h1 h63 hbytes hbase h
/-- append, the new value written out: in a plain list of operations. -/
theorem wpList_append_sl {ops : Array Oper} {rest : List Oper} {o : Oper} {a : Act} {Q : Exit → Act → World → Prop} (hgd : o.guard = none) (s x : Operand) (t : TypeId)
    (ho : o.op = .call { callee := .builtin .append, args := #[s, x], argTypes := #[t, t] })
    (base : Nat) (e : TypeId) (i : TypeInfo) (z : Value) (size bytes : Nat) (ht : P.underlying t = some (.slice e)) (hi : P.info? e = some i) (hz : i.zero = some z)
    (hsize : i.size = size) (hby : i.bytes = bytes) (hzs : z.cells.size = size) (hsz : 0 < size)
    (v : Value) (n : Nat) (xs : List Value) (hs : a.eval s = v) (hown : w.ownsRow base e size v n xs)
    (A : Option Addr) (m c : Nat) (news : List Value) (hx : a.eval x = .slice A m c) (hl : news.length = m * size) (hr : 0 < m → ∃ ad, A = some ad ∧ ∀ j u, news[j]? = some u → w.cell? (ad.add j) = some u) (h1 : ∀ u ∈ news, u.oneCell' = true)
    (h63 : n + m ≤ maxLen) (hbytes : (n + m) * bytes ≤ 140737488355328) (hbase : base ≤ w.heap.size)
    (h : ∀ A' c' w', w'.ownsRow base e size (.slice A' (n + m) c') (n + m) (xs ++ news) → w.grownBy w' v.ownBlock → wpList P ops Q rest (a.put o.dst (.slice A' (n + m) c')) w') : wpList P ops Q (o :: rest) a w :=
  wpList_append_src hgd s x t ho base e i z size bytes ht hi hz hsize hby hzs hsz v n xs hs hown A m c news hx hl hr h1 h63 hbytes hbase fun v' w' h2 h3 => by
    obtain ⟨A', c', rfl, _⟩ := own_slice h2
    exact h A' c' w' h2 h3
/-- append, the new value written out: a step of a region that draws. -/
theorem step_append_sl {ops : Array Oper} {o : Oper} {a : Act} {K : Act → World → Prop} {Q : Exit → Act → World → Prop} {E : Prop} (hgd : o.guard = none) (s x : Operand) (t : TypeId)
    (ho : o.op = .call { callee := .builtin .append, args := #[s, x], argTypes := #[t, t] })
    (base : Nat) (e : TypeId) (i : TypeInfo) (z : Value) (size bytes : Nat) (ht : P.underlying t = some (.slice e)) (hi : P.info? e = some i) (hz : i.zero = some z)
    (hsize : i.size = size) (hby : i.bytes = bytes) (hzs : z.cells.size = size) (hsz : 0 < size)
    (v : Value) (n : Nat) (xs : List Value) (hs : a.eval s = v) (hown : w.ownsRow base e size v n xs)
    (A : Option Addr) (m c : Nat) (news : List Value) (hx : a.eval x = .slice A m c) (hl : news.length = m * size) (hr : 0 < m → ∃ ad, A = some ad ∧ ∀ j u, news[j]? = some u → w.cell? (ad.add j) = some u) (h1 : ∀ u ∈ news, u.oneCell' = true)
    (h63 : n + m ≤ maxLen) (hbytes : (n + m) * bytes ≤ 140737488355328) (hbase : base ≤ w.heap.size)
    (h : ∀ A' c' w', w'.ownsRow base e size (.slice A' (n + m) c') (n + m) (xs ++ news) → w.grownBy w' v.ownBlock → K (a.put o.dst (.slice A' (n + m) c')) w') :
    if Region.wanted o (yielded ops a.tmps) = true then Oper.wp P o a w K Q else E :=
  step_append_src hgd s x t ho base e i z size bytes ht hi hz hsize hby hzs hsz v n xs hs hown A m c news hx hl hr h1 h63 hbytes hbase fun v' w' h2 h3 => by
    obtain ⟨A', c', rfl, _⟩ := own_slice h2
    exact h A' c' w' h2 h3
end
theorem le_later {B : Nat} {w w1 : World} {o o' : Obj} (h : B ≤ w.heap.size) (hb : Below (w.alloc o).drew.heap.size (w.alloc o).drew w1) : B ≤ (w1.alloc o').heap.size := by
  have h1 : (w.alloc o).drew.heap.size ≤ w1.heap.size := hb.size
  have h2 : (w.alloc o).drew.heap.size = w.heap.size + 1 := World.size_alloc _ _
  rw [World.size_alloc]
  omega
theorem own_ne_new {w : World} {base size n : Nat} {e : TypeId} {v : Value} {xs : List Value} (h : w.ownsRow base e size v n xs) : v.ownBlock ≠ some w.heap.size := fun h' => by have := (h.lt _ h').2; omega
/-- Cells of a new block, as a source of append. -/
theorem src_new (w : World) (t : TypeId) (cs : Array Value) (news : List Value) (h : cs.toList = news) (m : Nat) (W : World) (hb : Below (w.heap.size + 1) (w.alloc (.cells cs t)) W) : 0 < m → ∃ ad, some (⟨w.heap.size, 0, none⟩ : Addr) = some ad ∧ ∀ j u, news[j]? = some u → W.cell? (ad.add j) = some u := fun _ => by
  refine ⟨_, rfl, fun j u hu => ?_⟩
  subst h
  have h1 := Blk.new w t cs
  rw [Lib.addr_add, Nat.zero_add, (h1.below hb (by omega)).cell]
  simpa using hu
end Go.Proofs.YtedjadicdodahaaGreatDoor
