/- sha256: the rounds of a block: blockGeneric. (printed by gen_psha.py) -/
import Derived.Deep.RegionWith
import Derived.Test.YtedjadicdodahaaGreatDoorPShaE
namespace Go.Proofs.YtedjadicdodahaaGreatDoor
open Go.RowKit

theorem slice_eq2 {A : Addr} {x x2 y y2 : Nat} (h2 : x = x2) (h3 : y = y2) : Value.slice (some A) x y = .slice (some A) x2 y2 := by rw [h2, h3]
theorem slice_if {P : Prop} [Decidable P] {A B : Addr} {x x2 y y2 : Nat} (h2 : x = x2) (h3 : y = y2) : Value.slice (if P then some A else some B) x y = .slice (some (if P then A else B)) x2 y2 := by rw [h2, h3]; split <;> rfl
theorem set8 (v x : V8) (rest : List Value) : (((((((((v.cells ++ rest).toArray.setIfInBounds 0 (.int .u32 x.a)).setIfInBounds 1 (.int .u32 x.b)).setIfInBounds 2 (.int .u32 x.c)).setIfInBounds 3 (.int .u32 x.d)).setIfInBounds 4 (.int .u32 x.e)).setIfInBounds 5 (.int .u32 x.f)).setIfInBounds 6 (.int .u32 x.g)).setIfInBounds 7 (.int .u32 x.h)) = (x.cells ++ rest).toArray := by
  simp [V8.cells]
theorem addr_next {mc b x y : Nat} {A : Addr} (h : mc ≠ 64) (h2 : x = y) : (if mc = 64 then A else ⟨b, x, none⟩) = (⟨b, y, none⟩ : Addr) := by rw [if_neg h, h2]
def V8.add (x y : V8) : V8 := ⟨(x.a + y.a) % 4294967296, (x.b + y.b) % 4294967296, (x.c + y.c) % 4294967296, (x.d + y.d) % 4294967296, (x.e + y.e) % 4294967296, (x.f + y.f) % 4294967296, (x.g + y.g) % 4294967296, (x.h + y.h) % 4294967296⟩
/-- Over q blocks of 64 bytes; b is 64. -/
def blkGoN (b : Nat) (K ps : List Int) (s : V8 × List Int) : Nat → V8 × List Int
  | 0 => s
  | q + 1 => ((blkGoN b K ps s q).1.add (rounds K (ps.drop (64 * q)) (blkGoN b K ps s q) b).1, (rounds K (ps.drop (64 * q)) (blkGoN b K ps s q) b).2)
theorem blkGoN_len (b : Nat) (K ps : List Int) (s : V8 × List Int) : ∀ q, (blkGoN b K ps s q).2.length = s.2.length
  | 0 => rfl
  | q + 1 => (rounds_len K _ _ b).trans (blkGoN_len b K ps s q)
theorem blkGoN_succ (b : Nat) (K ps : List Int) (s : V8 × List Int) (q : Nat) : blkGoN b K ps s (q + 1) = ((blkGoN b K ps s q).1.add (rounds K (ps.drop (64 * q)) (blkGoN b K ps s q) b).1, (rounds K (ps.drop (64 * q)) (blkGoN b K ps s q) b).2) := rfl
def blkGo (K ps : List Int) (s : V8 × List Int) (q : Nat) : V8 × List Int := blkGoN 64 K ps s q
theorem blkGo_len (K ps : List Int) (s : V8 × List Int) (q : Nat) : (blkGo K ps s q).2.length = s.2.length := blkGoN_len 64 K ps s q
theorem blkGo_step (K ps : List Int) (s : V8 × List Int) (q : Nat) (t : V8 × List Int) (ht : t = blkGo K ps s q) (S : Nat → V8 × List Int) (hS : S = rounds K (ps.drop (64 * q)) t) (n : Nat) (hn : n = 64) : blkGo K ps s (q + 1) = (t.1.add (S n).1, (S n).2) := by
  subst hn
  rw [hS, ht]
  exact blkGoN_succ 64 K ps s q
def blkF (K ps : List Int) (v : V8) : V8 := (blkGo K ps (v, List.replicate 64 0) (ps.length / 64)).1
set_option maxRecDepth 1000000 in
set_option maxHeartbeats 8000000 in
theorem blockGeneric_any (K ps : List Int) (v : V8) (dg pb po n c : Nat) (rest : List Value) (w : World) (hK : K.length = 64) (hn : ps.length = n) (hc : n ≤ c) (hm : n ≤ 140737488355328)
    (hd : Blk w dg 215 (v.cells ++ rest).toArray)
    (hk : Blk w 10 250 (K.map (Value.int .u32)).toArray) (hp : ∀ j z, ps[j]? = some z → w.cell? ⟨pb, po + j, none⟩ = some (.int .u8 z)) :
    Calls Tryz.prog 110 #[.pointer (some ⟨dg, 0, none⟩), .slice (some ⟨pb, po, none⟩) n c] w fun e w' => e = .returned (.tuple #[]) ∧ Blk w' dg 215 ((blkF K ps v).cells ++ rest).toArray ∧ Fr [dg] w w' := by
  obtain ⟨X0, hX0⟩ : ∃ X0 : List Int, X0 = List.replicate 64 0 := ⟨_, rfl⟩
  obtain ⟨w1, hw1⟩ : ∃ w1, w1 = w.alloc (.cells w0Cells 250) := ⟨_, rfl⟩
  have HX0 := Lib.hid hX0
  have HW1 := Lib.hid hw1
  have BW := Lib.hid (show Blk w1 w.heap.size 250 (X0.map (Value.int .u32)).toArray from by rw [hw1, hX0]; exact Blk.new _ _ _)
  have BD := Lib.hid (show Blk w1 dg 215 (v.cells ++ rest).toArray from by rw [hw1]; exact hd.alloc _)
  have HD0 := Lib.hid hd
  have B1 := Lib.hid (show Below w.heap.size w w1 from by rw [hw1]; exact (Below.refl _ _).alloc (Nat.le_refl _) _)
  have HKB := Lib.hid (show ∀ k, k < 64 → ∀ W, Fr [w.heap.size] w1 W → W.cell? ⟨10, k, none⟩ = some (.int .u32 (K.getD k 0)) from fun k hk2 W hf => by
    have h1 := (hk.here B1.out).fr hf (by have := hk.lt; simp; omega)
    rw [h1.cell, List.getElem?_toArray, List.getElem?_map, List.getD_eq_getElem?_getD, List.getElem?_eq_getElem (by omega)]
    rfl)
  have HCH := Lib.hid (show ∀ q, 64 * q + 64 ≤ n → ∀ j, j < 64 → ∀ W, Fr [w.heap.size] w1 W → W.cell? ⟨pb, po + 64 * q + j, none⟩ = some (.int .u8 ((ps.drop (64 * q)).getD j 0)) from fun q hq j hj W hf => by
    have h0 := hp (64 * q + j) (ps[64 * q + j]'(by omega)) (List.getElem?_eq_getElem (by omega))
    have h1 := hf.cell (keep_cell B1.out h0) (by have := World.block_lt_of_cell? w _ h0; simp at this ⊢; omega)
    rw [Nat.add_assoc, h1, List.getD_eq_getElem?_getD, List.getElem?_drop, List.getElem?_eq_getElem (by omega)]
    rfl)
  have c0 : w1.cell? ⟨dg, 0, none⟩ = some (.int .u32 v.a) := BD.out.cell 0
  have c1 : w1.cell? ⟨dg, 1, none⟩ = some (.int .u32 v.b) := BD.out.cell 1
  have c2 : w1.cell? ⟨dg, 2, none⟩ = some (.int .u32 v.c) := BD.out.cell 2
  have c3 : w1.cell? ⟨dg, 3, none⟩ = some (.int .u32 v.d) := BD.out.cell 3
  have c4 : w1.cell? ⟨dg, 4, none⟩ = some (.int .u32 v.e) := BD.out.cell 4
  have c5 : w1.cell? ⟨dg, 5, none⟩ = some (.int .u32 v.f) := BD.out.cell 5
  have c6 : w1.cell? ⟨dg, 6, none⟩ = some (.int .u32 v.g) := BD.out.cell 6
  have c7 : w1.cell? ⟨dg, 7, none⟩ = some (.int .u32 v.h) := BD.out.cell 7
  have k0 : (n : Int) ≤ 140737488355328 := by omega
  have HN := Lib.hid hn
  clear hw1 hd hp hn hk hX0 hK
  go_enter Tryz.func110, Tryz.ntmps110
  go_wp2_with (refine Go.Great.wpList_allocTo rfl (some 4) (by rfl) (.pointer (some ⟨w.heap.size, 0, none⟩)) (.cells w0Cells 250) (by as_aux_lemma => kernel_rfl) ?_; rw [← HW1.out])
  go_quiet (fail)
  clear c0 c1 c2 c3 c4 c5 c6 c7
  go_wp2_with fail
  go_loopw [1, 5, 6, 7, 8, 9, 10, 11, 12, 13, 14, 15, 16, 17, 18, 19, 20, 21, 22, 23, 24, 25, 26, 27, 28, 80] (fun p h0 h1 h2 h3 h4 h5 h6 h7 _ _ _ _ _ _ _ _ _ _ _ _ _ _ _ _ _ wr => ∃ (q : Nat) (s : V8 × List Int) (A : Addr), s = blkGo K ps (v, X0) q ∧ 64 * q ≤ n ∧ (64 * q < c → A = ⟨pb, po + 64 * q, none⟩) ∧ p = .slice (some A) (n - 64 * q : Nat) (c - 64 * q : Nat) ∧ h0 = .int .u32 s.1.a ∧ h1 = .int .u32 s.1.b ∧ h2 = .int .u32 s.1.c ∧ h3 = .int .u32 s.1.d ∧ h4 = .int .u32 s.1.e ∧ h5 = .int .u32 s.1.f ∧ h6 = .int .u32 s.1.g ∧ h7 = .int .u32 s.1.h ∧ Blk wr w.heap.size 250 (s.2.map (Value.int .u32)).toArray ∧ Fr [w.heap.size] w1 wr) (fun p _ _ _ _ _ _ _ _ _ _ _ _ _ _ _ _ _ _ _ _ _ _ _ _ _ _ => match p with | .slice _ l _ => l | _ => 0)
  case atStart => exact ⟨0, (v, X0), ⟨pb, po, none⟩, rfl, by omega, fun _ => rfl, rfl, rfl, rfl, rfl, rfl, rfl, rfl, rfl, rfl, BW.out.drewN _, (Fr.refl _ _).drewN _⟩
  case round =>
    obtain ⟨q, s, A, hs, hq, hA, rfl, rfl, rfl, rfl, rfl, rfl, rfl, rfl, rfl, hbk, hfr⟩ := hrel
    have HBK := Lib.hid hbk
    have HFR := Lib.hid hfr
    have HS := Lib.hid hs
    obtain ⟨S, hSS⟩ : ∃ S, S = rounds K (ps.drop (64 * q)) s := ⟨_, rfl⟩
    have HSS := Lib.hid hSS
    have hl64 : s.2.length = 64 := by rw [hs, blkGo_len, HX0.out]; exact List.length_replicate
    have HL := Lib.hid hl64
    clear hbk hfr hs hSS hl64
    by_cases hlt : 64 * q + 64 ≤ n
    · obtain ⟨m, hm2⟩ : ∃ m, m = n - 64 * q := ⟨_, rfl⟩
      obtain ⟨mc, hmc⟩ : ∃ mc, mc = c - 64 * q := ⟨_, rfl⟩
      rw [← hm2, ← hmc]
      have k1 : (64 : Int) ≤ (m : Int) := by omega
      have HCQ := Lib.hid (HCH.out q hlt)
      have HM := Lib.hid hm2
      have HMC := Lib.hid hmc
      clear hm2 hmc
      obtain ⟨sv, sx⟩ := s
      obtain rfl := hA (by omega)
      go_wp2_with fail
      refine sha_loopS K (ps.drop (64 * q)) sv sx S HSS.out w.heap.size w1 pb (po + 64 * q) m mc _ _ _ _ _ _ _ _ _ _ _ _ _ _ _ _ _ _ _ _ _ _ _ _ _ _ _ _ _ _ _ _ _ _ _ _ _ _ _ _ _ _ _ _ _ _ _ _ _ _ _ _ _ _ _ _ _ _ _ _ _ _ _ _ _ _ _ _ _ _ _ _ _ _ _ _ _ _ _ _ _ _ _ _ _ _ _ _ _ _ _ _ _ _ _ _ _ _ _ _ _ _ _ _ _ _ _ _ _ _ _ _ _ _ _ _ _ _ _ _ _ _ _ _ _ _ _ _ _ _ _ _ _ _ _ _ _ _ _ _ _ _ _ _ _ _ _ _ _ _ _ _ _ _ _ _ _ _ _ _ _ _ _ _ _ _ _ _ _ _ _ _ _ _ _ _ _ _ _ _ _ _ _ _ _ _ _ _ _ _ _ _ _ _ _ _ _ _ _ _ _ _ _ _ _ _ _ _ _ _ _ _ _ _ _ _ _ _ _ _ _ _ _ _ _ _ _ _ _ _ _ _ _ _ _ _ _ _ _ _ _ _ _ _ _ _ _ _ _ _ _ _ _ _ _ _ _ _ _ _ _ _ _ _ _ _ _ _ _ _ _ _ _ _ HL.out ?_ HCQ.out HKB.out HBK.out HFR.out ?_
      · omega
      intro u21 u22 u23 u24 u25 u26 u27 u28 u81 u82 u83 u84 u85 u86 u87 u88 u89 u90 u91 u92 u93 u94 u95 u96 u97 u98 u99 u100 u101 u102 u103 u104 u105 u106 u107 u108 u109 u110 u111 u112 u113 u114 u115 u116 u117 u118 u119 u120 u121 u122 u123 u124 u125 u126 u127 u128 u129 u130 u131 u132 u133 u134 u135 u136 u137 u138 u139 u140 u141 u142 u143 u144 u145 u146 u147 u148 u149 u150 u151 u152 u153 u154 u155 u156 u157 u158 u159 u160 u161 u162 u163 u164 u165 u166 u167 u168 u169 u170 u171 u172 u173 u174 u175 u176 u177 u178 u179 u180 u181 u182 u183 u184 u185 u186 u187 u188 u189 u190 u191 u192 u193 u194 u195 u196 u197 u198 u199 u200 u201 u202 u203 u204 u205 u206 u207 u208 u209 u210 u211 u212 u213 u214 u215 u216 w2 R
      obtain ⟨k64, hk64⟩ : ∃ k64 : Nat, k64 = 64 := ⟨_, rfl⟩
      have RR := Lib.hid (show ShaR S w.heap.size w1 k64 w2 from hk64 ▸ R)
      have HST := Lib.hid (blkGo_step K ps (v, X0) q (sv, sx) HS.out S HSS.out k64 hk64)
      rw [show ((64 : Nat)) = k64 from hk64.symm]
      clear R
      obtain ⟨T, hT⟩ : ∃ T, T = S k64 := ⟨_, rfl⟩
      rw [← hT]
      have HT := Lib.hid hT
      clear hT
      go_wp2_with fail
      go_roundw
      case rel => exact ⟨q + 1, (sv.add T.1, T.2), _, by rw [HST.out, HT.out], by omega, fun hc2 => addr_next (by have := HMC.out; omega) (by omega), slice_if (by have := HM.out; omega) (by have := HMC.out; omega), rfl, rfl, rfl, rfl, rfl, rfl, rfl, rfl, by rw [HT.out]; exact RR.out.blk, RR.out.fr⟩
      case measure => simp; omega
    · have BDq := Lib.hid (BD.out.fr HFR.out (by have := HD0.out.lt; simp; omega))
      have c0 : wr.cell? ⟨dg, 0, none⟩ = some (.int .u32 v.a) := BDq.out.cell 0
      have c1 : wr.cell? ⟨dg, 1, none⟩ = some (.int .u32 v.b) := BDq.out.cell 1
      have c2 : wr.cell? ⟨dg, 2, none⟩ = some (.int .u32 v.c) := BDq.out.cell 2
      have c3 : wr.cell? ⟨dg, 3, none⟩ = some (.int .u32 v.d) := BDq.out.cell 3
      have c4 : wr.cell? ⟨dg, 4, none⟩ = some (.int .u32 v.e) := BDq.out.cell 4
      have c5 : wr.cell? ⟨dg, 5, none⟩ = some (.int .u32 v.f) := BDq.out.cell 5
      have c6 : wr.cell? ⟨dg, 6, none⟩ = some (.int .u32 v.g) := BDq.out.cell 6
      have c7 : wr.cell? ⟨dg, 7, none⟩ = some (.int .u32 v.h) := BDq.out.cell 7
      have f0 : wr.frozen? ⟨dg, 0, none⟩ = false := BDq.out.frozen 0
      have f1 : wr.frozen? ⟨dg, 1, none⟩ = false := BDq.out.frozen 1
      have f2 : wr.frozen? ⟨dg, 2, none⟩ = false := BDq.out.frozen 2
      have f3 : wr.frozen? ⟨dg, 3, none⟩ = false := BDq.out.frozen 3
      have f4 : wr.frozen? ⟨dg, 4, none⟩ = false := BDq.out.frozen 4
      have f5 : wr.frozen? ⟨dg, 5, none⟩ = false := BDq.out.frozen 5
      have f6 : wr.frozen? ⟨dg, 6, none⟩ = false := BDq.out.frozen 6
      have f7 : wr.frozen? ⟨dg, 7, none⟩ = false := BDq.out.frozen 7
      obtain ⟨m, hm2⟩ : ∃ m, m = n - 64 * q := ⟨_, rfl⟩
      obtain ⟨mc, hmc⟩ : ∃ mc, mc = c - 64 * q := ⟨_, rfl⟩
      rw [← hm2, ← hmc]
      have k1 : (m : Int) < 64 := by omega
      have HSE := Lib.hid (show q = n / 64 from by omega)
      clear hm2 hmc hlt hq k0 hA
      obtain ⟨sv, sx⟩ := s
      obtain ⟨wq, hwq⟩ : ∃ wq : World, wq = wr := ⟨_, rfl⟩
      obtain ⟨wf, hwf⟩ : ∃ wf, wf = ((((((((wr.setCell ⟨dg, 0, none⟩ (.int .u32 sv.a)).setCell ⟨dg, 1, none⟩ (.int .u32 sv.b)).setCell ⟨dg, 2, none⟩ (.int .u32 sv.c)).setCell ⟨dg, 3, none⟩ (.int .u32 sv.d)).setCell ⟨dg, 4, none⟩ (.int .u32 sv.e)).setCell ⟨dg, 5, none⟩ (.int .u32 sv.f)).setCell ⟨dg, 6, none⟩ (.int .u32 sv.g)).setCell ⟨dg, 7, none⟩ (.int .u32 sv.h)) := ⟨_, rfl⟩
      have FIN := Lib.hid (show Blk wf dg 215 ((blkF K ps v).cells ++ rest).toArray ∧ Fr [dg] w wf from by
        have hv : blkF K ps v = sv := by
          unfold blkF
          rw [HN.out, ← HSE.out, ← HX0.out, ← HS.out]
        rw [hv, hwf]
        refine ⟨?_, ?_⟩
        · have h8 := (((((((BDq.out.set_ 0 (.int .u32 sv.a)).set_ 1 (.int .u32 sv.b)).set_ 2 (.int .u32 sv.c)).set_ 3 (.int .u32 sv.d)).set_ 4 (.int .u32 sv.e)).set_ 5 (.int .u32 sv.f)).set_ 6 (.int .u32 sv.g)).set_ 7 (.int .u32 sv.h)
          rw [set8] at h8
          exact h8
        · have h0 : Fr [dg] w wr := (Fr.of_below B1.out).trans HFR.out (by simp)
          exact (((((((h0.setCell (.inl (by simp)) _).setCell (.inl (by simp)) _).setCell (.inl (by simp)) _).setCell (.inl (by simp)) _).setCell (.inl (by simp)) _).setCell (.inl (by simp)) _).setCell (.inl (by simp)) _).setCell (.inl (by simp)) _)
      have HWF := Lib.hid hwf
      clear hwf
      go_wp2_with fail
      have hwf := HWF.out
      go_region
      rw [← hwf]
      clear hwf
      refine bodyPost_end (results_none rfl _ _ _) rfl ?_
      exact ⟨rfl, FIN.out.1.drew, FIN.out.2.drew⟩
end Go.Proofs.YtedjadicdodahaaGreatDoor
