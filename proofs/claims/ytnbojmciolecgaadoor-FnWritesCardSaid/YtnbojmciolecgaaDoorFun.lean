/- What is known of a function, written: the closures. -/
import Derived.Test.YtnbojmciolecgaaDoorInlC
namespace Go.Proofs.YtnbojmciolecgaaDoor
open Go.RowKit

section
variable (B s q b : Nat) (xs : List Int) (w : World) (hE : PutEnv B s q b w) (h : IsBuf B b xs w) (hB : B ≤ w.heap.size)
include hE h hB
set_option maxHeartbeats 400000 in
theorem funPut_any (v : Int) (h0 : 0 ≤ v) (h1 : v < 4294967296) (hx : xs.length + 4 < 4294967296) : Calls Tryd.prog 91 #[.int .u32 v, .pointer (some ⟨s, 0, none⟩), .pointer (some ⟨q, 0, none⟩)] w (Putted B s q b (xs ++ le4 v) w) := by
  obtain ⟨low, ne, ⟨z0, z1, z2, z3, hs⟩, hq, nq⟩ := hE
  have HB := Lib.hid h
  have HS := Lib.hid hs
  have HQ := Lib.hid hq
  clear h hs hq
  go_enter Tryd.func91, Tryd.ntmps91
  go_wp2_with fail
  refine (putLe32_blk s 0 _ _ _ _ v _ HS.out (by omega) (by simp) h0 h1).mono ?_
  rintro e w1 ⟨rfl, hs1, hf1⟩
  have HB1 := Lib.hid (isBuf_fr HB.out HS.out (by decide) ne hf1)
  have hq1 := HQ.out.fr hf1 (by simpa using nq.1)
  have HQ1 := Lib.hid hq1
  have q1 : w1.cell? ⟨q, 0, none⟩ = some (.pointer (some ⟨b, 0, none⟩)) := (hq1.cell 0).trans rfl
  have hB1 : B ≤ w1.heap.size := Nat.le_trans hB hf1.size
  have HF1 := Lib.hid (wf_fr (e := 5) (own := [s, b]) hf1 (by simpa using low) hB)
  have hc1 := hs1.cell
  have src : ∀ j u, (bcs (le4 v))[j]? = some u → w1.cell? ((⟨s, 0, none⟩ : Addr).add j) = some u := by
    intro j u hu
    rw [Lib.addr_add, hc1]
    rcases j with _ | _ | _ | _ | j <;> simp [bcs, le4, set4] at hu ⊢ <;> exact hu
  have SR := Lib.hid src
  have HS1 := Lib.hid hs1
  clear src hc1 hs1 hf1 hq1 HB HS HQ
  go_wp2_with fail
  go_region_held3 (fun w' => w'.cell? ⟨q, 0, none⟩ = some (.pointer (some ⟨b, 0, none⟩))) (first | go_keep | exact e2)
    (first | (go_at_call 86; refine (Tryd.Buffer_Write_at _ _ B b 0 (bcs xs) (bcs (le4 v)) ⟨s, 0, none⟩ 4 4 w1.drew HB1.out hB1 (bcs_one _) (by simp [bcs, le4]) ne SR.out (bcs_one _) (by simp [bcs]; omega)).mono ?_; rintro e w2 ⟨rfl, hb2, hl2, ho2⟩; have wf2 := WF.of_buf hl2 ho2; have HQ2 := Lib.hid (wf2.blk HQ1.out (by simpa using nq.2) (by decide)); have HS2 := Lib.hid (wf2.blk HS1.out (by simpa using ne) (by decide)); have e2 : w2.cell? ⟨q, 0, none⟩ = some (.pointer (some ⟨b, 0, none⟩)) := (HQ2.out.cell 0).trans rfl))
  go_wp2_with fail
  go_end0
  rw [← bcs_append] at hb2
  exact ⟨rfl, hb2, ⟨low, ne, ⟨_, _, _, _, by simpa [set4] using HS2.out⟩, HQ2.out, nq⟩, HF1.out.drew.trans (wf2.more (by simp))⟩
set_option maxHeartbeats 400000 in
theorem funByte_any (v : Int) (hx : xs.length + 1 < 4294967296) : Calls Tryd.prog 89 #[.int .u8 v, .pointer (some ⟨q, 0, none⟩)] w (Putted B s q b (xs ++ [v]) w) := by
  obtain ⟨low, ne, ⟨z0, z1, z2, z3, hs⟩, hq, nq⟩ := hE
  have HB := Lib.hid h
  have HS := Lib.hid hs
  have HQ := Lib.hid hq
  have q1 : w.cell? ⟨q, 0, none⟩ = some (.pointer (some ⟨b, 0, none⟩)) := (hq.cell 0).trans rfl
  clear h hs hq
  go_enter Tryd.func89, Tryd.ntmps89
  go_wp2_with fail
  refine (Tryd.Buffer_WriteByte_at _ _ B b 0 (bcs xs) v w HB.out hB (bcs_one _) (by simp [bcs]; omega)).mono ?_
  rintro e w2 ⟨rfl, hb2, hl2, ho2⟩
  have wf2 := WF.of_buf hl2 ho2
  have HQ2 := Lib.hid (wf2.blk HQ.out (by simpa using nq.2) (by decide))
  have HS2 := Lib.hid (wf2.blk HS.out (by simpa using ne) (by decide))
  clear q1
  go_wp2_with fail
  go_end0
  rw [show bcs xs ++ [Value.int .u8 v] = bcs (xs ++ [v]) from by simp [bcs]] at hb2
  exact ⟨rfl, hb2, ⟨low, ne, ⟨_, _, _, _, HS2.out⟩, HQ2.out, nq⟩, wf2.more (by simp)⟩
end

/-- A row of the call's own of another type than the buffer's is as it was behind a write. -/
theorem WF.ownsRow {u e : TypeId} {own : List Nat} {B base size n : Nat} {v : Value} {xs : List Value} {w w' : World} (h : WF u own B w w') (ho : w.ownsRow base e size v n xs) (he : e ≠ u) (hn : ∀ k, v.ownBlock = some k → k ∉ own) : w'.ownsRow base e size v n xs := by
  obtain ⟨h1, h2⟩ := ho
  refine ⟨h1, ?_⟩
  rcases h2 with h2 | ⟨g, cap, cur, rfl, hb, hh, r⟩
  · exact .inl h2
  · exact .inr ⟨g, cap, cur, rfl, hb, h.keep g _ hh (hn g rfl) (fun c fz hc => by injection hc with _ h2 _; exact he h2), r⟩

theorem own_ne {B b base size n k : Nat} {e : TypeId} {v : Value} {ys : List Value} {xs : List Int} {w : World} (h : IsBuf B b xs w) (ho : w.ownsRow base e size v n ys) (he : e ≠ 78) (hk : v.ownBlock = some k) : k ≠ b := by
  rintro rfl
  obtain ⟨_, _, _, ⟨cs, hb, _⟩, _⟩ := h
  rcases ho.2 with ⟨rfl, _⟩ | ⟨g, cap, cur, rfl, _, hh, _⟩
  · simp [Value.ownBlock] at hk
  · simp only [Value.ownBlock, Option.some.injEq] at hk
    subst hk
    have := hh.symm.trans hb
    injection this with this
    injection this with _ h2 _
    exact he h2

/-- Scratch and box are as they were behind a write into the buffer alone. -/
theorem PutEnv.wf {B s q b : Nat} {w w' : World} (h : PutEnv B s q b w) (f : WF 5 [b] B w w') : PutEnv B s q b w' := by
  obtain ⟨low, ne, ⟨z0, z1, z2, z3, hs⟩, hq, nq⟩ := h
  exact ⟨low, ne, ⟨z0, z1, z2, z3, f.blk hs (by simpa using ne) (by decide)⟩, f.blk hq (by simpa using nq.2) (by decide), nq⟩

theorem PutEnv.drew {B s q b : Nat} {w : World} (h : PutEnv B s q b w) : PutEnv B s q b w.drew := ⟨h.low, h.ne, h.blk, h.box, h.nq⟩

/-- A call inlined: its six numbers. -/
structure Nd where
  (a f l p y c : Int)
def Nd.cells (n : Nd) : List Value := (nodeCells n.a n.f n.l n.p n.y n.c).toList
def Nd.bytes (n : Nd) : List Int := nodeBytes n.a n.f n.l n.p n.y n.c
/-- Its numbers are numbers of their kinds. -/
structure Nd.Ok (n : Nd) : Prop where
  a : -2147483648 ≤ n.a ∧ n.a < 2147483648
  f : 0 ≤ n.f ∧ n.f < 4294967296
  l : -2147483648 ≤ n.l ∧ n.l < 2147483648
  p : 0 ≤ n.p ∧ n.p < 4294967296
  y : 0 ≤ n.y ∧ n.y < 4294967296
  c : -2147483648 ≤ n.c ∧ n.c < 2147483648

theorem take_flatMap_succ {α : Type} (l : List α) (f : α → List Int) (k : Nat) (h : k < l.length) : (l.take (k + 1)).flatMap f = (l.take k).flatMap f ++ f l[k] := by
  rw [List.take_succ_eq_append_getElem h, List.flatMap_append]
  simp
theorem flatMap_le4_length : ∀ l : List Int, (l.flatMap le4).length = 4 * l.length
  | [] => rfl
  | x :: l => by simp [flatMap_le4_length l, le4_length]; omega
theorem flatMap_node_length : ∀ l : List Nd, (l.flatMap Nd.bytes).length = 24 * l.length
  | [] => rfl
  | x :: l => by simp [flatMap_node_length l, Nd.bytes, nodeBytes_length]; omega
/-- An element of a row of the call's own: where it stands. -/
theorem own_at {base n : Nat} {e : TypeId} {A : Option Addr} {c : Nat} {xs : List Value} {w : World} (h : w.ownsRow base e 1 (.slice A n c) n xs) (k : Nat) (hk : k < n) (u : Value) (hu : xs[k]? = some u) : ∃ g, A = some ⟨g, 0, none⟩ ∧ w.cell? ⟨g, k, none⟩ = some u := by
  rcases h.2 with ⟨h0, h1⟩ | ⟨g, cap, cur, h0, _⟩
  · omega
  · injection h0 with h0 _ _
    subst h0
    exact ⟨g, rfl, by have := h.cells (g := g) rfl k u hu; rwa [Lib.addr_add, Nat.zero_add] at this⟩
/-- The cells of an element of several of a row of the call's own. -/
theorem own_at_n {base n size : Nat} {e : TypeId} {A : Option Addr} {c : Nat} {xs : List Value} {w : World} (h : w.ownsRow base e size (.slice A n c) n xs) (k : Nat) (hk : k < n) : ∃ g, A = some ⟨g, 0, none⟩ ∧ (∃ o, w.heap[g]? = some o ∧ ∃ cs, o = .cells cs e (0, 0)) ∧ ∀ j u, xs[k * size + j]? = some u → w.cell? ⟨g, k * size + j, none⟩ = some u := by
  rcases h.2 with ⟨h0, h1⟩ | ⟨g, cap, cur, h0, _, hh, _⟩
  · omega
  · injection h0 with h0 _ _
    subst h0
    exact ⟨g, rfl, ⟨_, hh, _, rfl⟩, fun j u hu => by have := h.cells (g := g) rfl _ u hu; rwa [Lib.addr_add, Nat.zero_add] at this⟩
theorem tree_cell (l : List Nd) (k j : Nat) (hk : k < l.length) (hj : j < 6) : (l.flatMap Nd.cells)[k * 6 + j]? = (Nd.cells l[k])[j]? := by
  induction l generalizing k with
  | nil => simp at hk
  | cons x l ih =>
    rw [List.flatMap_cons]
    rcases k with _ | k
    · rw [Nat.zero_mul, Nat.zero_add, List.getElem?_append_left (by simp [Nd.cells]; omega)]
      rfl
    · rw [List.getElem?_append_right (by simp [Nd.cells]; omega)]
      have := ih k (by simpa using hk)
      rw [show (k + 1) * 6 + j - (Nd.cells x).length = k * 6 + j from by simp [Nd.cells]; omega, this]
      simp

/-- What is known of a function, as bytes. -/
def funBytes (args locals id flag line : Int) (files : List Int) (tree : List Nd) : List Int :=
  le4 args ++ (le4 locals ++ ([id, flag, 0, 0] ++ (le4 line ++ (le4 files.length ++ (files.flatMap le4 ++ (le4 tree.length ++ tree.flatMap Nd.bytes))))))
end Go.Proofs.YtnbojmciolecgaaDoor
