/- Inlined calls written: the writing closures over a buffer of the call's own. -/
import Derived.Test.YtnbojmciolecgaaDoorBuf
namespace Go.Proofs.YtnbojmciolecgaaDoor
open Go.RowKit

theorem WF.shrink {e : TypeId} {s : Nat} {own : List Nat} {B : Nat} {w w' : World} (h : WF e (s :: own) B w w') (hs : w.heap.size ≤ s) : WF e own B w w' :=
  ⟨h.os, h.tape, h.output, h.size, h.low, fun k o hk hn ho => h.keep k o hk (by
    intro hm
    rcases List.mem_cons.1 hm with rfl | hm
    · have := (Array.getElem?_eq_some_iff.1 hk).1
      omega
    · exact hn hm) ho⟩
theorem wf_fr {e : TypeId} {own gs : List Nat} {B : Nat} {w w' : World} (h : Fr gs w w') (hs : ∀ k ∈ gs, k ∈ own ∧ B ≤ k) (hB : B ≤ w.heap.size) : WF e own B w w' := WF.of_fr h hs hB

/-- Scratch of four bytes and the box of the buffer's pointer. -/
structure PutEnv (B s q b : Nat) (w : World) : Prop where
  low : B ≤ s
  ne : s ≠ b
  blk : ∃ z0 z1 z2 z3, Blk w s 141 #[z0, z1, z2, z3]
  box : Blk w q 74 #[.pointer (some ⟨b, 0, none⟩)]
  nq : q ≠ s ∧ q ≠ b

theorem isBuf_fr {B b : Nat} {xs : List Int} {w w' : World} {g : Nat} {t : TypeId} {cs : Array Value} (h : IsBuf B b xs w) (hg : Blk w g t cs) (ht : t ≠ 5) (hne : g ≠ b) (hf : Fr [g] w w') : IsBuf B b xs w' :=
  isBuffer_fr h hf (by simpa using Ne.symm hne) (by
    rintro k ⟨c, fz, hk⟩ hm
    simp only [List.mem_singleton] at hm
    subst hm
    have := hk.symm.trans hg
    injection this with this
    injection this with _ h2 _
    exact ht h2.symm)

/-- What a writing closure leaves. -/
def Putted (B s q b : Nat) (xs : List Int) (w : World) (e : Ending) (w' : World) : Prop := e = .returned (.tuple #[]) ∧ IsBuf B b xs w' ∧ PutEnv B s q b w' ∧ WF 5 [s, b] B w w'

section
variable (B s q b : Nat) (xs : List Int) (w : World) (hE : PutEnv B s q b w) (h : IsBuf B b xs w) (hB : B ≤ w.heap.size)
include hE h hB
set_option maxHeartbeats 400000 in
theorem inlPut_any (v : Int) (h0 : 0 ≤ v) (h1 : v < 4294967296) (hx : xs.length + 4 < 4294967296) : Calls Tryd.prog 84 #[.int .u32 v, .pointer (some ⟨s, 0, none⟩), .pointer (some ⟨q, 0, none⟩)] w (Putted B s q b (xs ++ le4 v) w) := by
  obtain ⟨low, ne, ⟨z0, z1, z2, z3, hs⟩, hq, nq⟩ := hE
  have HB := Lib.hid h
  have HS := Lib.hid hs
  have HQ := Lib.hid hq
  clear h hs hq
  go_enter Tryd.func84, Tryd.ntmps84
  go_wp2_with fail
  refine (putLe32_blk s 0 _ _ _ _ v _ HS.out (by omega) (by simp) h0 h1).mono ?_
  rintro e w1 ⟨rfl, hs1, hf1⟩
  have HB1 := Lib.hid (isBuf_fr HB.out HS.out (by decide) ne hf1)
  have hq1 := HQ.out.fr hf1 (by simpa using nq.1)
  have HQ1 := Lib.hid hq1
  have q1 : w1.cell? ⟨q, 0, none⟩ = some (.pointer (some ⟨b, 0, none⟩)) := (hq1.cell 0).trans rfl
  have hB1 : B ≤ w1.heap.size := Nat.le_trans hB hf1.size
  have HF1 := Lib.hid (wf_fr (e := 5) (own := [s, b]) hf1 (by simpa using low) hB)
  have hc1 := hs1.cell
  have src : ∀ j u, (bcs (le4 v))[j]? = some u → w1.cell? ((⟨s, 0, none⟩ : Addr).add j) = some u := by
    intro j u hu
    rw [Lib.addr_add, hc1]
    rcases j with _ | _ | _ | _ | j <;> simp [bcs, le4, set4] at hu ⊢ <;> exact hu
  have SR := Lib.hid src
  have HS1 := Lib.hid hs1
  clear src hc1 hs1 hf1 hq1 HB HS HQ
  go_wp2_with fail
  go_region_held3 (fun w' => w'.cell? ⟨q, 0, none⟩ = some (.pointer (some ⟨b, 0, none⟩))) (first | go_keep | exact e2)
    (first | (go_at_call 86; refine (Tryd.Buffer_Write_at _ _ B b 0 (bcs xs) (bcs (le4 v)) ⟨s, 0, none⟩ 4 4 w1.drew HB1.out hB1 (bcs_one _) (by simp [bcs, le4]) ne SR.out (bcs_one _) (by simp [bcs]; omega)).mono ?_; rintro e w2 ⟨rfl, hb2, hl2, ho2⟩; have wf2 := WF.of_buf hl2 ho2; have HQ2 := Lib.hid (wf2.blk HQ1.out (by simpa using nq.2) (by decide)); have HS2 := Lib.hid (wf2.blk HS1.out (by simpa using ne) (by decide)); have e2 : w2.cell? ⟨q, 0, none⟩ = some (.pointer (some ⟨b, 0, none⟩)) := (HQ2.out.cell 0).trans rfl))
  go_wp2_with fail
  go_end0
  rw [← bcs_append] at hb2
  exact ⟨rfl, hb2, ⟨low, ne, ⟨_, _, _, _, by simpa [set4] using HS2.out⟩, HQ2.out, nq⟩, HF1.out.drew.trans (wf2.more (by simp))⟩
end
theorem le4_mod (v : Int) : le4 (v % 4294967296) = le4 v := by
  simp only [le4]
  rw [show v % 4294967296 % 256 = v % 256 from by omega, show v % 4294967296 / 256 % 256 = v / 256 % 256 from by omega, show v % 4294967296 / 65536 % 256 = v / 65536 % 256 from by omega, show v % 4294967296 / 16777216 % 256 = v / 16777216 % 256 from by omega]
theorem le4_length (v : Int) : (le4 v).length = 4 := rfl
def nodeBytes (a f l p y c : Int) : List Int := le4 a ++ (le4 f ++ (le4 l ++ (le4 p ++ (le4 y ++ le4 c))))
theorem nodeBytes_length (a f l p y c : Int) : (nodeBytes a f l p y c).length = 24 := rfl

set_option maxHeartbeats 1000000 in
theorem inlWrite_any (B b n o : Nat) (ob : Obj) (xs : List Int) (a f l p y c : Int) (w : World) (h : IsBuf B b xs w) (hB : B ≤ w.heap.size) (on : w.heap[n]? = some ob) (oe : ∀ cs fz, ob ≠ .cells cs 5 fz) (hnb : n ≠ b)
    (c0 : w.cell? ⟨n, o, none⟩ = some (.int .i32 a)) (c1 : w.cell? ⟨n, o + 1, none⟩ = some (.int .u32 f)) (c2 : w.cell? ⟨n, o + 2, none⟩ = some (.int .i32 l)) (c3 : w.cell? ⟨n, o + 3, none⟩ = some (.int .u32 p)) (c4 : w.cell? ⟨n, o + 4, none⟩ = some (.int .u32 y)) (c5 : w.cell? ⟨n, o + 5, none⟩ = some (.int .i32 c))
    (f0 : 0 ≤ f) (f1 : f < 4294967296) (p0 : 0 ≤ p) (p1 : p < 4294967296) (y0 : 0 ≤ y) (y1 : y < 4294967296) (hx : xs.length + 24 < 4294967296) :
    Calls Tryd.prog 51 #[.pointer (some ⟨n, o, none⟩), .pointer (some ⟨b, 0, none⟩)] w fun e w' => e = .returned (.tuple #[]) ∧ IsBuf B b (xs ++ nodeBytes a f l p y c) w' ∧ WF 5 [b] B w w' := by
  have HC := Lib.hid (fun (W : World) (hW : W.heap[n]? = some ob) => show W.cell? ⟨n, o, none⟩ = some (.int .i32 a) ∧ W.cell? ⟨n, o + 1, none⟩ = some (.int .u32 f) ∧ W.cell? ⟨n, o + 2, none⟩ = some (.int .i32 l) ∧ W.cell? ⟨n, o + 3, none⟩ = some (.int .u32 p) ∧ W.cell? ⟨n, o + 3 + 1, none⟩ = some (.int .u32 y) ∧ W.cell? ⟨n, o + 5, none⟩ = some (.int .i32 c) from
    ⟨(World.cell?_of_block (w := w) (hW.trans on.symm)).trans c0, (World.cell?_of_block (w := w) (hW.trans on.symm)).trans c1, (World.cell?_of_block (w := w) (hW.trans on.symm)).trans c2, (World.cell?_of_block (w := w) (hW.trans on.symm)).trans c3, (World.cell?_of_block (w := w) (hW.trans on.symm)).trans c4, (World.cell?_of_block (w := w) (hW.trans on.symm)).trans c5⟩)
  have nlt : n < w.heap.size := (Array.getElem?_eq_some_iff.1 on).1
  have blt := h.lt
  have E0 : PutEnv B (w.heap.size + 1) w.heap.size b ((w.alloc (.cells #[.pointer (some ⟨b, 0, none⟩)] 74)).alloc (.cells #[.int .u8 0, .int .u8 0, .int .u8 0, .int .u8 0] 141)) :=
    ⟨by omega, by omega, ⟨_, _, _, _, Blk.new1 w _ _ _⟩, (Blk.new w _ _).alloc _, by omega, by omega⟩
  have hbel : Below w.heap.size w ((w.alloc (.cells #[.pointer (some ⟨b, 0, none⟩)] 74)).alloc (.cells #[.int .u8 0, .int .u8 0, .int .u8 0, .int .u8 0] 141)) := by (repeat' (first | (with_reducible exact Below.refl _ _) | (with_reducible assumption) | (with_reducible refine below_drewN ?_ _) | (with_reducible refine Below.alloc ?_ ?_ _) | (with_reducible refine Below.drew ?_) | (with_reducible refine Below.setCell ?_ ?_ _) | go_size))
  have b0 : IsBuf B b xs _ := isBuffer_fr h (Fr.of_below (gs := []) hbel) (by simp) (by simp)
  have on0 := (hbel.block n nlt).trans on
  have F0 := Lib.hid (WF.of_below (e := 5) (own := [b]) hbel hB)
  have hB0 := Nat.le_trans hB hbel.size
  obtain ⟨d0, d1, d2, d3, d4, d5⟩ := HC.out _ on0
  clear c0 c1 c2 c3 c4 c5 hbel h
  go_enter Tryd.func51, Tryd.ntmps51
  go_wp2_with fail
  refine (inlPut_any B (w.heap.size + 1) w.heap.size b _ _ E0 b0 hB0 (a % 4294967296) (by omega) (by omega) (by first | omega | (simp only [List.length_append, le4_length]; omega))).mono ?_
  rintro e w1 ⟨rfl, b1, E1, f1⟩
  have z1 : B ≤ w1.heap.size := Nat.le_trans hB0 f1.size
  have F1 := Lib.hid (f1)
  obtain ⟨d0, d1, d2, d3, d4, d5⟩ := HC.out _ (F1.out.keep n ob on0 (by simpa using ⟨(by omega : n ≠ w.heap.size + 1), hnb⟩) oe)
  clear f1
  go_wp2_with fail
  refine (inlPut_any B (w.heap.size + 1) w.heap.size b _ _ E1 b1 z1 (f) (by omega) (by omega) (by first | omega | (simp only [List.length_append, le4_length]; omega))).mono ?_
  rintro e w2 ⟨rfl, b2, E2, f2⟩
  have z2 : B ≤ w2.heap.size := Nat.le_trans z1 f2.size
  have F2 := Lib.hid (F1.out.trans f2)
  obtain ⟨d0, d1, d2, d3, d4, d5⟩ := HC.out _ (F2.out.keep n ob on0 (by simpa using ⟨(by omega : n ≠ w.heap.size + 1), hnb⟩) oe)
  clear f2
  go_wp2_with fail
  refine (inlPut_any B (w.heap.size + 1) w.heap.size b _ _ E2 b2 z2 (l % 4294967296) (by omega) (by omega) (by first | omega | (simp only [List.length_append, le4_length]; omega))).mono ?_
  rintro e w3 ⟨rfl, b3, E3, f3⟩
  have z3 : B ≤ w3.heap.size := Nat.le_trans z2 f3.size
  have F3 := Lib.hid (F2.out.trans f3)
  obtain ⟨d0, d1, d2, d3, d4, d5⟩ := HC.out _ (F3.out.keep n ob on0 (by simpa using ⟨(by omega : n ≠ w.heap.size + 1), hnb⟩) oe)
  clear f3
  go_wp2_with fail
  refine (inlPut_any B (w.heap.size + 1) w.heap.size b _ _ E3 b3 z3 (p) (by omega) (by omega) (by first | omega | (simp only [List.length_append, le4_length]; omega))).mono ?_
  rintro e w4 ⟨rfl, b4, E4, f4⟩
  have z4 : B ≤ w4.heap.size := Nat.le_trans z3 f4.size
  have F4 := Lib.hid (F3.out.trans f4)
  obtain ⟨d0, d1, d2, d3, d4, d5⟩ := HC.out _ (F4.out.keep n ob on0 (by simpa using ⟨(by omega : n ≠ w.heap.size + 1), hnb⟩) oe)
  clear f4
  go_wp2_with fail
  refine (inlPut_any B (w.heap.size + 1) w.heap.size b _ _ E4 b4 z4 (y) (by omega) (by omega) (by first | omega | (simp only [List.length_append, le4_length]; omega))).mono ?_
  rintro e w5 ⟨rfl, b5, E5, f5⟩
  have z5 : B ≤ w5.heap.size := Nat.le_trans z4 f5.size
  have F5 := Lib.hid (F4.out.trans f5)
  obtain ⟨d0, d1, d2, d3, d4, d5⟩ := HC.out _ (F5.out.keep n ob on0 (by simpa using ⟨(by omega : n ≠ w.heap.size + 1), hnb⟩) oe)
  clear f5
  go_wp2_with fail
  refine (inlPut_any B (w.heap.size + 1) w.heap.size b _ _ E5 b5 z5 (c % 4294967296) (by omega) (by omega) (by first | omega | (simp only [List.length_append, le4_length]; omega))).mono ?_
  rintro e w6 ⟨rfl, b6, E6, f6⟩
  have z6 : B ≤ w6.heap.size := Nat.le_trans z5 f6.size
  have F6 := Lib.hid (F5.out.trans f6)
  obtain ⟨d0, d1, d2, d3, d4, d5⟩ := HC.out _ (F6.out.keep n ob on0 (by simpa using ⟨(by omega : n ≠ w.heap.size + 1), hnb⟩) oe)
  clear f6
  go_wp2_with fail
  go_end0
  refine ⟨rfl, ?_, ((F0.out.more (by simp)).trans F6.out).shrink (by omega)⟩
  simp only [le4_mod] at b6
  simpa [nodeBytes] using b6
end Go.Proofs.YtnbojmciolecgaaDoor
