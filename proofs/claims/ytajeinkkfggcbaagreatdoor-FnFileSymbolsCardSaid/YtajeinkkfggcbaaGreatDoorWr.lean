/- A writer over a buffer of the call's own: what is written goes behind what was. -/
import Derived.Lib.BufferAt
import Derived.Test.YtajeinkkfggcbaaGreatDoorPut
import Derived.Test.YtajeinkkfggcbaaGreatDoorShelf
namespace Go.Proofs.YtajeinkkfggcbaaGreatDoor
open Go.RowKit

/-- Numbers in two, four, eight bytes, the lowest first. -/
def le2 (v : Int) : List Int := [v % 256, v / 256 % 256]
def le4 (v : Int) : List Int := [v % 256, v / 256 % 256, v / 65536 % 256, v / 16777216 % 256]
def le8 (v : Int) : List Int := le4 v ++ le4 (v / 4294967296)
/-- Bytes as cells. -/
def bcs (xs : List Int) : List Value := xs.map (Value.int .u8)
theorem bcs_append (xs ys : List Int) : bcs (xs ++ ys) = bcs xs ++ bcs ys := by simp [bcs]
theorem bcs_length (xs : List Int) : (bcs xs).length = xs.length := by simp [bcs]
theorem bcs_one (xs : List Int) : ∀ v ∈ bcs xs, v.oneCell' = true := by
  intro v hv
  obtain ⟨z, _, rfl⟩ := List.mem_map.1 hv
  rfl

/-- Below block B, and of all else but the blocks own and rows of e's, nothing has turned. -/
structure WF (e : TypeId) (own : List Nat) (B : Nat) (w w' : World) : Prop where
  os : w'.os = w.os
  tape : w'.tape = w.tape
  output : w'.output = w.output
  size : w.heap.size ≤ w'.heap.size
  low : ∀ k, k < B → w'.heap[k]? = w.heap[k]?
  keep : ∀ k o, w.heap[k]? = some o → k ∉ own → (∀ c fz, o ≠ .cells c e fz) → w'.heap[k]? = some o

section
variable {e : TypeId} {own : List Nat} {B : Nat} {a b w w' : World}
theorem WF.refl (e : TypeId) (own : List Nat) (B : Nat) (w : World) : WF e own B w w := ⟨rfl, rfl, rfl, Nat.le_refl _, fun _ _ => rfl, fun _ _ h _ _ => h⟩
theorem WF.trans (h : WF e own B a b) (k : WF e own B b w) : WF e own B a w :=
  ⟨k.os.trans h.os, k.tape.trans h.tape, k.output.trans h.output, Nat.le_trans h.size k.size, fun i hi => (k.low i hi).trans (h.low i hi), fun i o hi hn ho => k.keep i o (h.keep i o hi hn ho) hn ho⟩
theorem WF.more {own' : List Nat} (h : WF e own B a b) (hs : ∀ k ∈ own, k ∈ own') : WF e own' B a b := ⟨h.os, h.tape, h.output, h.size, h.low, fun i o hi hn ho => h.keep i o hi (fun hm => hn (hs i hm)) ho⟩
theorem WF.drew (h : WF e own B a w) : WF e own B a w.drew := ⟨h.os, h.tape, h.output, h.size, h.low, h.keep⟩
theorem WF.drewN (h : WF e own B a w) (n : Nat) : WF e own B a (w.drewN n) := ⟨h.os, h.tape, h.output, h.size, h.low, h.keep⟩
theorem WF.of_below (h : Below w.heap.size w w') (hB : B ≤ w.heap.size) : WF e own B w w' :=
  ⟨h.os, h.tape, h.output, h.size, fun k hk => h.block k (by omega), fun k o hk _ _ => (h.block k (Array.getElem?_eq_some_iff.1 hk).1).trans hk⟩
theorem WF.alloc (h : WF e own B a w) (hB : B ≤ w.heap.size) (o : Obj) : WF e own B a (w.alloc o) := h.trans (WF.of_below (Below.alloc (Below.refl _ _) (Nat.le_refl _) o) hB)
theorem WF.setCell (h : WF e own B a w) {p : Addr} (hp : p.block ∈ own) (hB : B ≤ p.block) (u : Value) : WF e own B a (w.setCell p u) :=
  h.trans ⟨rfl, rfl, rfl, by simp [World.setCell], fun k hk => Below.heap_setCell w p u k (by omega), fun k o hk hn _ => (Below.heap_setCell w p u k (by rintro rfl; exact hn hp)).trans hk⟩
theorem WF.of_fr {gs : List Nat} (h : Fr gs w w') (hs : ∀ k ∈ gs, k ∈ own ∧ B ≤ k) (hB : B ≤ w.heap.size) : WF e own B w w' :=
  ⟨h.os, h.tape, h.output, h.size, fun k hk => h.block k (by omega) (fun hm => by have := (hs k hm).2; omega), fun k o hk hn _ => (h.block k (Array.getElem?_eq_some_iff.1 hk).1 (fun hm => hn (hs k hm).1)).trans hk⟩
theorem WF.of_buf {b : Nat} (h : Below B w w') (ho : Lib.OthersKept e (some b) w w') : WF e [b] B w w' :=
  ⟨h.os, h.tape, h.output, h.size, h.block, fun k o hk hn hx => ho k o hk (by simpa using hn) hx⟩
theorem WF.below (h : WF e own w.heap.size w w') : Below w.heap.size w w' := ⟨h.os, h.tape, h.output, h.size, h.low⟩
theorem WF.blk {g : Nat} {t : TypeId} {cs : Array Value} (h : WF e own B w w') (hb : Blk w g t cs) (hn : g ∉ own) (ht : t ≠ e) : Blk w' g t cs :=
  h.keep g _ hb hn (fun c fz hc => by injection hc with _ h2 _; exact ht h2)
theorem WF.lowBlk {g : Nat} {t : TypeId} {cs : Array Value} (h : WF e own B w w') (hb : Blk w g t cs) (hg : g < B) : Blk w' g t cs := (h.low g hg).trans hb
end

/-- Writer and buffer, in blocks of the call's own from B on: xs has been written. -/
structure IsWriter (B wb b mb : Nat) (xs : List Int) (w : World) : Prop where
  low : B ≤ wb
  blk : ∃ s0 s1 s2 s3 s4 s5 s6 s7, Blk w wb 100 #[.pointer (some ⟨b, 0, none⟩), .map (some mb), .int .u32 xs.length, s0, s1, s2, s3, s4, s5, s6, s7]
  buf : LibA.IsBuffer 72 (fun _ => none) 5 B b 0 (bcs xs) w

theorem IsWriter.ne {B wb b mb : Nat} {xs : List Int} {w : World} (h : IsWriter B wb b mb xs w) : wb ≠ b := by
  rintro rfl
  obtain ⟨s0, s1, s2, s3, s4, s5, s6, s7, hb⟩ := h.blk
  obtain ⟨_, v, lr, ht, _⟩ := h.buf
  have := ht.tag hb
  exact absurd this (by decide)

theorem isBuffer_fr {T : TypeId} {R : Nat → Option Value} {e : TypeId} {B b o : Nat} {bs : List Value} {gs : List Nat} {w w' : World} (h : LibA.IsBuffer T R e B b o bs w) (hf : Fr gs w w') (hb : b ∉ gs) (hg : ∀ g, (∃ c fz, w.heap[g]? = some (.cells c e fz)) → g ∉ gs) : LibA.IsBuffer T R e B b o bs w' := by
  obtain ⟨hB, v, lr, ht, hown, hne⟩ := h
  refine ⟨hB, v, lr, ht.of_heap (hf.block b ht.lt hb), ?_, hne⟩
  obtain ⟨h1, h2⟩ := hown
  refine ⟨h1, ?_⟩
  rcases h2 with h2 | ⟨g, cap, cur, hv, hgB, hh, r⟩
  · exact .inl h2
  · exact .inr ⟨g, cap, cur, hv, hgB, (hf.block g (Array.getElem?_eq_some_iff.1 hh).1 (hg g ⟨_, _, hh⟩)).trans hh, r⟩

/-- The bytes of a string as numbers. -/
def sbs (s : ByteArray) : List Int := s.data.toList.map fun c => (c.toNat : Int)
theorem sbs_length (s : ByteArray) : (sbs s).length = s.size := by simp [sbs]
theorem bcs_sbs (s : ByteArray) : bcs (sbs s) = Lib.byteCells s.data.toList := by simp [bcs, sbs, Lib.byteCells]

/-- What a writer's method leaves. -/
def Wrote (B wb b mb : Nat) (xs : List Int) (w : World) (e : Ending) (w' : World) : Prop := e = .returned (.tuple #[]) ∧ IsWriter B wb b mb xs w' ∧ WF 5 [wb, b] B w w'

theorem wrote_end {B wb b mb : Nat} {xs ys : List Int} {w0 w2 : World} {s0 s1 s2 s3 s4 s5 s6 s7 : Value} {n : Int} {zs : List Value} (hlow : B ≤ wb) (hne : wb ≠ b)
    (hk : Blk w2 wb 100 #[.pointer (some ⟨b, 0, none⟩), .map (some mb), .int .u32 xs.length, s0, s1, s2, s3, s4, s5, s6, s7])
    (hb : LibA.IsBuffer 72 (fun _ => none) 5 B b 0 (bcs xs ++ zs) w2) (hz : zs = bcs ys) (hwf : WF 5 [wb, b] B w0 w2) (hn : n = xs.length + ys.length) :
    IsWriter B wb b mb (xs ++ ys) (w2.setCell ⟨wb, 2, none⟩ (.int .u32 n)) ∧ WF 5 [wb, b] B w0 (w2.setCell ⟨wb, 2, none⟩ (.int .u32 n)) := by
  subst hz
  refine ⟨⟨hlow, ⟨s0, s1, s2, s3, s4, s5, s6, s7, ?_⟩, ?_⟩, hwf.setCell (by simp) hlow _⟩
  · have h := hk.set_ 2 (.int .u32 n)
    rw [hn] at h ⊢
    simpa using h
  · rw [bcs_append]
    exact isBuffer_fr hb ((Fr.refl [wb] w2).setCell (.inl (by simp)) _) (by simpa using Ne.symm hne) (by
      rintro g ⟨c, fz, hg⟩ hm
      simp only [List.mem_singleton] at hm
      subst hm
      exact absurd (Option.some.inj (hg.symm.trans hk)) (by intro hh; injection hh with _ h2 _; exact absurd h2 (by decide)))

theorem isBuffer_wb {B wb b mb : Nat} {n : Int} {bs : List Value} {w w' : World} {s0 s1 s2 s3 s4 s5 s6 s7 : Value} (hne : wb ≠ b)
    (hk : Blk w wb 100 #[.pointer (some ⟨b, 0, none⟩), .map (some mb), .int .u32 n, s0, s1, s2, s3, s4, s5, s6, s7])
    (hb : LibA.IsBuffer 72 (fun _ => none) 5 B b 0 bs w) (hf : Fr [wb] w w') : LibA.IsBuffer 72 (fun _ => none) 5 B b 0 bs w' :=
  isBuffer_fr hb hf (by simpa using Ne.symm hne) (by
    rintro g ⟨c, fz, hg⟩ hm
    simp only [List.mem_singleton] at hm
    subst hm
    exact absurd (Option.some.inj (hg.symm.trans hk)) (by intro hh; injection hh with _ h2 _; exact absurd h2 (by decide)))

section
variable (B wb b mb : Nat) (xs : List Int) (w : World) (h : IsWriter B wb b mb xs w) (hB : B ≤ w.heap.size)
include h hB
set_option maxHeartbeats 400000 in
theorem writer_Uint32 (v : Int) (h0 : 0 ≤ v) (h1 : v < 4294967296) (hx : xs.length + 4 < 4294967296) : Calls Tryz.prog 37 #[.pointer (some ⟨wb, 0, none⟩), .int .u32 v] w (Wrote B wb b mb (xs ++ le4 v) w) := by
  have hne := h.ne
  have hlow := h.low
  have hbuf := h.buf
  obtain ⟨s0, s1, s2, s3, s4, s5, s6, s7, hblk⟩ := h.blk
  have HB := Lib.hid hbuf
  have HK := Lib.hid hblk
  have hc := hblk.cell
  clear h hbuf hblk
  go_enter Tryz.func37, Tryz.ntmps37
  go_wp2_with fail
  refine (putLe32_blk wb 3 _ _ _ _ v _ HK.out (by omega) (by simp) h0 h1).mono ?_
  rintro e w1 ⟨rfl, hb1, hf1⟩
  have hc1 := hb1.cell
  have HK1 := Lib.hid hb1
  have hB1 : B ≤ w1.heap.size := Nat.le_trans hB hf1.size
  have HB1 := Lib.hid (isBuffer_wb hne HK.out HB.out hf1)
  have HF1 := Lib.hid (WF.of_fr (e := 5) (own := [wb, b]) hf1 (by simpa using hlow) hB)
  clear hc hb1 hf1 HB HK
  have e0 : w1.cell? ⟨wb, 0, none⟩ = some (.pointer (some ⟨b, 0, none⟩)) := by simp [hc1, set4]
  have src : ∀ j u, (bcs (le4 v))[j]? = some u → w1.cell? ((⟨wb, 3, none⟩ : Addr).add j) = some u := by
    intro j u hu
    rw [Lib.addr_add, hc1]
    rcases j with _ | _ | _ | _ | j <;> simp [bcs, le4, set4] at hu ⊢ <;> exact hu
  have SR := Lib.hid src
  clear src hc1
  go_wp2_with fail
  go_region_held3 (fun w' => w'.cell? ⟨wb, 0, none⟩ = some (.pointer (some ⟨b, 0, none⟩))) (first | go_keep | exact e2)
    (first | (go_at_call 72; refine (Tryz.Buffer_Write_at _ _ B b 0 (bcs xs) (bcs (le4 v)) ⟨wb, 3, none⟩ 4 8 w1.drew HB1.out hB1 (bcs_one _) (by simp [bcs, le4]) hne SR.out (bcs_one _) (by simp [bcs]; omega)).mono ?_; rintro e w2 ⟨rfl, hb2, hl2, ho2⟩; have wf2 := WF.of_buf hl2 ho2; have HK2 := Lib.hid (wf2.blk HK1.out (by simpa using hne) (by decide)); have e2 : w2.cell? ⟨wb, 0, none⟩ = some (.pointer (some ⟨b, 0, none⟩)) := by simp [HK2.out.cell, set4]))
  have hc2 := HK2.out.cell
  have hf2 := HK2.out.frozen
  go_wp2_with fail
  go_end0
  have hend := wrote_end (ys := le4 v) (n := xs.length + 4) hlow hne (by simpa [set4] using HK2.out) hb2 rfl (HF1.out.drew.trans (wf2.more (by simp))) (by simp [le4])
  exact ⟨rfl, hend.1, hend.2⟩
set_option maxHeartbeats 400000 in
theorem writer_Uint64 (v : Int) (h0 : 0 ≤ v) (h1 : v < 18446744073709551616) (hx : xs.length + 8 < 4294967296) : Calls Tryz.prog 46 #[.pointer (some ⟨wb, 0, none⟩), .int .u64 v] w (Wrote B wb b mb (xs ++ le8 v) w) := by
  have hne := h.ne
  have hlow := h.low
  have hbuf := h.buf
  obtain ⟨s0, s1, s2, s3, s4, s5, s6, s7, hblk⟩ := h.blk
  have HB := Lib.hid hbuf
  have HK := Lib.hid hblk
  have hc := hblk.cell
  clear h hbuf hblk
  go_enter Tryz.func46, Tryz.ntmps46
  go_wp2_with fail
  refine (putLe64_blk wb 3 _ _ _ _ v _ HK.out (by omega) (by omega) (by simp) h0 h1).mono ?_
  rintro e w1 ⟨rfl, hb1, hf1⟩
  have hc1 := hb1.cell
  have HK1 := Lib.hid hb1
  have hB1 : B ≤ w1.heap.size := Nat.le_trans hB hf1.size
  have HB1 := Lib.hid (isBuffer_wb hne HK.out HB.out hf1)
  have HF1 := Lib.hid (WF.of_fr (e := 5) (own := [wb, b]) hf1 (by simpa using hlow) hB)
  clear hc hb1 hf1 HB HK
  have e0 : w1.cell? ⟨wb, 0, none⟩ = some (.pointer (some ⟨b, 0, none⟩)) := by simp [hc1, set8, set4]
  have src : ∀ j u, (bcs (le8 v))[j]? = some u → w1.cell? ((⟨wb, 3, none⟩ : Addr).add j) = some u := by
    intro j u hu
    rw [Lib.addr_add, hc1]
    rcases j with _ | _ | _ | _ | _ | _ | _ | _ | j <;> simp [bcs, le8, le4, set8, set4] at hu ⊢ <;> exact hu
  have SR := Lib.hid src
  clear src hc1
  go_wp2_with fail
  go_region_held3 (fun w' => w'.cell? ⟨wb, 0, none⟩ = some (.pointer (some ⟨b, 0, none⟩))) (first | go_keep | exact e2)
    (first | (go_at_call 72; refine (Tryz.Buffer_Write_at _ _ B b 0 (bcs xs) (bcs (le8 v)) ⟨wb, 3, none⟩ 8 8 w1.drew HB1.out hB1 (bcs_one _) (by simp [bcs, le8, le4]) hne SR.out (bcs_one _) (by simp [bcs]; omega)).mono ?_; rintro e w2 ⟨rfl, hb2, hl2, ho2⟩; have wf2 := WF.of_buf hl2 ho2; have HK2 := Lib.hid (wf2.blk HK1.out (by simpa using hne) (by decide)); have e2 : w2.cell? ⟨wb, 0, none⟩ = some (.pointer (some ⟨b, 0, none⟩)) := by simp [HK2.out.cell, set8, set4]))
  have hc2 := HK2.out.cell
  have hf2 := HK2.out.frozen
  go_wp2_with fail
  go_end0
  have hend := wrote_end (ys := le8 v) (n := xs.length + 8) hlow hne (by simpa [set8, set4] using HK2.out) hb2 rfl (HF1.out.drew.trans (wf2.more (by simp))) (by simp [le8, le4])
  exact ⟨rfl, hend.1, hend.2⟩
set_option maxHeartbeats 400000 in
theorem writer_RawString (s : ByteArray) (hx : xs.length + s.size < 4294967296) : Calls Tryz.prog 35 #[.pointer (some ⟨wb, 0, none⟩), .string s] w (Wrote B wb b mb (xs ++ sbs s) w) := by
  have hne := h.ne
  have hlow := h.low
  have hbuf := h.buf
  obtain ⟨s0, s1, s2, s3, s4, s5, s6, s7, hblk⟩ := h.blk
  have HB := Lib.hid hbuf
  have HK := Lib.hid hblk
  have hc := hblk.cell
  clear h hbuf hblk
  go_enter Tryz.func35, Tryz.ntmps35
  go_wp2_with fail
  refine (Tryz.Buffer_WriteString_at _ _ B b 0 (bcs xs) s w HB.out hB (bcs_one _) (by simp [bcs]; omega)).mono ?_
  rintro e w2 ⟨rfl, hb2, hl2, ho2⟩
  have wf2 := WF.of_buf hl2 ho2
  have HK2 := Lib.hid (wf2.blk HK.out (by simpa using hne) (by decide))
  have hc2 := HK2.out.cell
  have hf2 := HK2.out.frozen
  clear hc
  have hi : ((xs.length : Int) + (s.size : Int)) < 4294967296 := by omega
  go_wp2_with fail
  go_end0
  have hend := wrote_end (ys := sbs s) (n := xs.length + s.size) hlow hne HK2.out hb2 (bcs_sbs s).symm (wf2.more (by simp)) (by simp [sbs_length])
  exact ⟨rfl, hend.1, hend.2⟩
set_option maxHeartbeats 400000 in
theorem writer_Bytes (a : Addr) (n c : Nat) (ys : List Int) (hn : ys.length = n) (ha : a.block ≠ b) (hs : ∀ j u, (bcs ys)[j]? = some u → w.cell? (a.add j) = some u) (hx : xs.length + n < 4294967296) :
    Calls Tryz.prog 36 #[.pointer (some ⟨wb, 0, none⟩), .slice (some a) n c] w (Wrote B wb b mb (xs ++ ys) w) := by
  have hne := h.ne
  have hlow := h.low
  have hbuf := h.buf
  obtain ⟨s0, s1, s2, s3, s4, s5, s6, s7, hblk⟩ := h.blk
  have HB := Lib.hid hbuf
  have HK := Lib.hid hblk
  have hc := hblk.cell
  clear h hbuf hblk
  have HS := Lib.hid hs
  have HN := Lib.hid hn
  clear hs hn
  go_enter Tryz.func36, Tryz.ntmps36
  go_wp2_with fail
  refine (Tryz.Buffer_Write_at _ _ B b 0 (bcs xs) (bcs ys) a n c w HB.out hB (bcs_one _) (by simp [bcs, HN.out]) ha HS.out (bcs_one _) (by simp [bcs]; omega)).mono ?_
  rintro e w2 ⟨rfl, hb2, hl2, ho2⟩
  have wf2 := WF.of_buf hl2 ho2
  have HK2 := Lib.hid (wf2.blk HK.out (by simpa using hne) (by decide))
  have hc2 := HK2.out.cell
  have hf2 := HK2.out.frozen
  clear hc
  have hi : ((xs.length : Int) + (n : Int)) < 4294967296 := by omega
  go_wp2_with fail
  go_end0
  have hend := wrote_end (ys := ys) (n := xs.length + n) hlow hne HK2.out hb2 rfl (wf2.more (by simp)) (by rw [HN.out])
  exact ⟨rfl, hend.1, hend.2⟩
end
end Go.Proofs.YtajeinkkfggcbaaGreatDoor
