/- A builder's Write; a buffer poured into a buffer, into a builder. (printed by gen_pio.py) -/
import Derived.Deep.RegionHeld3
import Derived.Laws.Externs
import Derived.Lib.UnsafeStr
import Derived.Test.YtedjadicdodahaaDoorPEnC
import Derived.Test.YtedjadicdodahaaDoorQBuf
import Derived.BigRegion
namespace Go.Proofs.YtedjadicdodahaaDoor
open Go.RowKit Go.Maps

section
variable {own own' : Nat → Prop} {b : Nat} {bs : List UInt8} {w w' : World}
end
theorem Tryd.infoU8 : (Tryd.prog.info? 5).map (fun i => (i.zero, i.size, i.bytes)) = some (some (.int .u8 0), 1, 1) := by kernel_rfl
end Go.Proofs.YtedjadicdodahaaDoor

namespace Go.Proofs.YtedjadicdodahaaDoor
open Go.RowKit Go.Maps

/-- A buffer, what it owns. -/
structure Bo (own : Nat → Prop) (T : TypeId) (R : Nat → Option Value) (b q : Nat) (bs : List UInt8) (w : World) : Prop where
  low : own b
  is : ∃ F, Bf T R b q F bs w ∧ ∀ k ∈ F, own k
section
variable {own own' : Nat → Prop} {T : TypeId} {R : Nat → Option Value} {b q : Nat} {bs : List UInt8} {w w' : World}
theorem Bo.mono (h : Bo own T R b q bs w) (hs : ∀ k, own k → own' k) : Bo own' T R b q bs w := by
  obtain ⟨F, h1, h2⟩ := h.is
  exact ⟨hs _ h.low, F, h1, fun k hk => hs k (h2 k hk)⟩
theorem Bo.fr {G : List Nat} (h : Bo own T R b q bs w) (k : Fr G w w') (hG : ∀ g ∈ G, ¬ own g) : Bo own T R b q bs w' := by
  obtain ⟨F, h1, h2⟩ := h.is
  exact ⟨h.low, F, h1.fr k (fun hm => hG b hm h.low) (fun j hj hm => hG j hm (h2 j hj)), h2⟩
theorem Bo.kp {own2 : Nat → Prop} (h : Bo own T R b q bs w) (k : Kp own2 w w') (hd : ∀ g, own g → ¬ own2 g) : Bo own T R b q bs w' := by
  obtain ⟨F, ⟨lr, h1⟩, h2⟩ := h.is
  refine ⟨h.low, F, ⟨lr, ?_⟩, h2⟩
  rcases h1 with ⟨h0, h1⟩ | ⟨g, cap, cur, h1, hF, hg, hh, r⟩
  · exact .inl ⟨h0, h1.of_heap (k.block b h1.lt (hd b h.low))⟩
  · exact .inr ⟨g, cap, cur, h1.of_heap (k.block b h1.lt (hd b h.low)), hF, hg, (k.block g (Lib.lt_of_heap hh) (hd g (h2 g hF))).trans hh, r⟩
theorem Bo.here (h : Bo own T R b q bs w) (k : Below w.heap.size w w') : Bo own T R b q bs w' := h.fr (Fr.of_below (gs := []) k) (by simp)
theorem Bo.tight (h : Bo own T R b q bs w) : Bo (fun k => own k ∧ k < w.heap.size) T R b q bs w := by
  obtain ⟨F, h1, h2⟩ := h.is
  obtain ⟨F', h3, h4⟩ := h1.tight
  exact ⟨⟨h.low, h1.lt⟩, F', h4, fun k hk => ⟨h2 k (h3 k hk).1, (h3 k hk).2.1⟩⟩
theorem bo_of_bput {F : List Nat} {v : Value} {e : Ending} (hF : ∀ k ∈ F, own k) (hb : own b) (h : Bput T R b q F bs v w e w') : Met own w v (fun o w' => Bo o T R b q bs w') e w' := by
  obtain ⟨rfl, F', h1, h2⟩ := h
  have ho : ∀ k ∈ b :: F, own k := fun k hk => by
    rcases List.mem_cons.1 hk with rfl | hk
    · exact hb
    · exact hF k hk
  refine ⟨rfl, ⟨.inl hb, F', h1, fun k hk => ?_⟩, Kp.of_fr h2.fr fun k hk => .inl (ho k hk)⟩
  exact (h2.grow k (List.mem_cons_of_mem _ hk)).imp (ho k) id
theorem bo_Write (h : Bo own T R b q bs w) (ys : List UInt8) (a : Addr) (n c : Nat) (hn : ys.length = n) (h1 : 1 ≤ n) (hab : ¬ own a.block) (hsrc : ∀ j v, (Lib.byteCells ys)[j]? = some v → w.cell? (a.add j) = some v) (hlim : bs.length + n ≤ 140737488355328) :
    Calls Tryd.prog 60 #[.pointer (some ⟨b, q, none⟩), .slice (some a) n c] w (Met own w (.tuple #[.int .i64 n, .nilIface]) fun o w' => Bo o T R b q (bs ++ ys) w') := by
  obtain ⟨F, h2, h3⟩ := h.is
  exact (buf_Write T R b q F bs ys a n c w h2 hn h1 (fun e => hab (e ▸ h.low)) hsrc hlim).mono fun e w' hp => bo_of_bput h3 h.low hp
theorem bo_WriteString (h : Bo own T R b q bs w) (s : ByteArray) (hlim : bs.length + s.size ≤ 140737488355328) :
    Calls Tryd.prog 61 #[.pointer (some ⟨b, q, none⟩), .string s] w (Met own w (.tuple #[.int .i64 s.size, .nilIface]) fun o w' => Bo o T R b q (bs ++ s.data.toList) w') := by
  obtain ⟨F, h2, h3⟩ := h.is
  exact (buf_WriteString T R b q F bs s w h2 hlim).mono fun e w' hp => bo_of_bput h3 h.low hp
end
set_option maxRecDepth 100000 in
/-- Reset, wherever its reader stands. -/
theorem three_Reset (T : TypeId) (R : Nat → Option Value) (b q g n cap : Nat) (off lr : Int) (w : World) (h : LibA.Three w b q T R (.slice (some ⟨g, 0, none⟩) n cap) (.int .i64 off) (.int .i8 lr)) :
    Calls Tryd.prog 59 #[.pointer (some ⟨b, q, none⟩)] w fun e w' => e = .returned (.tuple #[]) ∧ LibA.Three w' b q T R (.slice (some ⟨g, 0, none⟩) 0 cap) (.int .i64 0) (.int .i8 0) ∧ Fr [b] w w' := by
  have c0 := h.c0
  have c1 := h.c1
  have c2 := h.c2
  have f0 := h.f q
  have f1 := h.f (q + 1)
  have f2 := h.f (q + 2)
  have H := Lib.hid h
  clear h
  go_enter Tryd.func59, Tryd.ntmps59
  go_wp2
  go_end0
  exact ⟨rfl, ((H.out.set0 _).set1 _).set2 _, (((Fr.refl _ _).setCell (.inl (by simp)) _).setCell (.inl (by simp)) _).setCell (.inl (by simp)) _⟩
set_option maxRecDepth 100000 in
theorem three_Reset0 (T : TypeId) (R : Nat → Option Value) (b q : Nat) (off lr : Int) (w : World) (h : LibA.Three w b q T R (.slice none 0 0) (.int .i64 off) (.int .i8 lr)) :
    Calls Tryd.prog 59 #[.pointer (some ⟨b, q, none⟩)] w fun e w' => e = .returned (.tuple #[]) ∧ LibA.Three w' b q T R (.slice none 0 0) (.int .i64 0) (.int .i8 0) ∧ Fr [b] w w' := by
  have c0 := h.c0
  have c1 := h.c1
  have c2 := h.c2
  have f0 := h.f q
  have f1 := h.f (q + 1)
  have f2 := h.f (q + 2)
  have H := Lib.hid h
  clear h
  go_enter Tryd.func59, Tryd.ntmps59
  go_wp2
  go_end0
  exact ⟨rfl, ((H.out.set0 _).set1 _).set2 _, (((Fr.refl _ _).setCell (.inl (by simp)) _).setCell (.inl (by simp)) _).setCell (.inl (by simp)) _⟩
theorem src_row {w : World} {g : Nat} {cur : Array Value} {bs : List UInt8} (hh : w.heap[g]? = some (.cells cur 5 (0, 0))) (ht : cur.toList.take bs.length = Lib.byteCells bs) (k : Nat) : ∀ j v, (Lib.byteCells bs)[j]? = some v → (w.drewN k).cell? ((⟨g, 0, none⟩ : Addr).add j) = some v := fun j v hj => by
  show w.cell? _ = _
  rw [Lib.addr_add, Nat.zero_add, cell_of_row w g j cur _ (0, 0) hh]
  have hlt : j < bs.length := by have := (List.getElem?_eq_some_iff.1 hj).1; rwa [byteCells_length] at this
  rw [← ht, List.getElem?_take, if_pos hlt] at hj
  simpa using hj
/-- What pouring leaves. -/
def PouredB (ownS ownD : Nat → Prop) (T : TypeId) (R : Nat → Option Value) (b q : Nat) (bs cs : List UInt8) (T2 : TypeId) (R2 : Nat → Option Value) (b2 : Nat) (w : World) (e : Ending) (w' : World) : Prop :=
  e = .returned (.tuple #[.int .i64 (bs.length : Nat), .nilIface]) ∧ Bo ownS T R b q [] w' ∧ Bo (grow ownD w) T2 R2 b2 0 (cs ++ bs) w' ∧ Kp (fun k => ownS k ∨ ownD k) w w'
end Go.Proofs.YtedjadicdodahaaDoor

namespace Go.Proofs.YtedjadicdodahaaDoor
open Go.RowKit Go.Maps

theorem Kp.freeze {own : Nat → Prop} {a w : World} (h : Kp own a w) {p : Addr} (hp : own p.block ∨ a.heap.size ≤ p.block) (n : Nat) : Kp own a (w.freeze p n) := by
  have hb := Lib.below_freeze (B := 0) (Below.refl 0 w) (p := p) (Nat.zero_le _) n
  refine ⟨hb.os.trans h.os, hb.tape.trans h.tape, hb.output.trans h.output, Nat.le_trans h.size hb.size, fun k hk hn => ?_⟩
  have hne : k ≠ p.block := by
    rintro rfl
    rcases hp with hp | hp
    · exact hn hp
    · omega
  rw [← h.block k hk hn]
  unfold World.freeze
  split
  · rfl
  · simp [Array.getElem?_modify, Ne.symm hne]
end Go.Proofs.YtedjadicdodahaaDoor
