/- An element's encoder: references, strings. (printed by gen_penE.py) -/
import Derived.Test.YtedjadicdodahaaGreatDoorPEnD
namespace Go.Proofs.YtedjadicdodahaaGreatDoor
open Go.RowKit Go.Maps

set_option maxRecDepth 100000 in
set_option maxHeartbeats 4000000 in
theorem rawReloc_old {own : Nat → Prop} {pb eb mb : Nat} {ver : Int} {s : Bool} {p : Pk} {e : Es} {k ix : Int} {hd : Bool} {w : World} (h : En own pb eb mb ver s p e k ix hd w) (K I : Int) (hK : 0 ≤ K ∧ K < 2147483648) (hI : 0 ≤ I ∧ I < 2147483648) (hnr : e.rs.length ≤ 1000000) (hx : (K, I) ∈ e.rs) :
    Calls Tryz.prog 90 #[.pointer (some ⟨eb, 0, none⟩), .int .i32 K, .int .i32 I] w (Met own w (.int .i64 (idx e.rs (K, I) : Nat)) fun o w' => En o pb eb mb ver s p e k ix hd w') := by
  obtain ⟨w1, hw1⟩ : ∃ w1, w1 = w.alloc (.cells #[.int .i32 K, .int .i32 I] 131) := ⟨_, rfl⟩
  have b1 : Below w.heap.size w w1 := by rw [hw1]; exact Below.alloc (Below.refl _ _) (Nat.le_refl _) _
  have ht : Blk w1 w.heap.size 131 #[.int .i32 K, .int .i32 I] := by rw [hw1]; exact Blk.new _ _ _
  obtain ⟨F0, rs0, rm0, hb0, _, _, hR0⟩ := h.en.is
  have c2 : w.cell? ⟨eb, 2, none⟩ = some rm0 := hb0.rest 2 (.inl (by omega))
  have c2' : w1.cell? ⟨eb, 2, none⟩ = some rm0 := keep_cell b1 c2
  have ez := hb0.lt
  obtain ⟨kl, hkl⟩ := keyRef (K, I) (by simp [Lit.wf, IntKind.bits, IntKind.signed, IntKind.min, IntKind.max]; omega) (by simp [Lit.wf, IntKind.bits, IntKind.signed, IntKind.min, IntKind.max]; omega)
  have H := Lib.hid h
  rcases hR0 with ⟨rfl, hrs⟩ | ⟨m, rfl, _, _, hm⟩
  · rw [hrs] at hx
    cases hx
  · have hq : ∀ W, (binOp .neq 120 (.map (some m)) (.map none)).run Tryz.prog W = .ok (.bool true) W := fun W => by kernel_rfl
    obtain ⟨D, hown, hM, hD⟩ := hm.is
    obtain ⟨n, hn⟩ : ∃ n, n = idx e.rs (K, I) := ⟨_, rfl⟩
    have hlt := idx_lt hx
    have hb1 : Maps.has D kl = true := by rw [(hD _ _ hkl).1, placeT, if_pos hx]; rfl
    have hb2 : D.atKey kl (.lit (.int .u32 0)) = .lit (.int .u32 (n : Int)) := (hD _ _ hkl).2 _ (by rw [placeT, if_pos hx, hn])
    have hlk : ∀ W : World, W.heap[m]? = w.heap[m]? → (Instr.lookup 120 (.map (some m)) (.agg #[.int .i32 K, .int .i32 I]) true).run Tryz.prog W = .ok (.tuple #[.int .u32 (n : Int), .bool true]) W := fun W hW => by
      obtain ⟨v, ps, hrun, hv⟩ := (ownsMap_block hown hW).look_ok Tryz.keyR Tryz.underlying120 (Tryz.zeroU32 W) (plainElem_int (q := .u32) Tryz.underlying53 (by decide)) hkl
      obtain ⟨c, rfl, hc, _⟩ := plainElem_int_inv Tryz.underlying53 hv
      have hc2 := (congrArg Prod.fst hc).symm.trans hb2
      injection hc2 with hc2
      injection hc2 with _ hc2
      rw [hb1, hc2] at hrun
      exact hrun
    have hlk1 := hlk w1 (b1.block m hm.lt)
    have hlk2 := hlk w1.drew (b1.block m hm.lt)
    rw [← hn]
    have n0 : (0 : Int) ≤ n := by omega
    have n1 : (n : Int) < 2147483648 := by omega
    have ts0 := ht.cell 0
    have ts1 := ht.cell 1
    have B1 := Lib.hid b1
    have HW1 := Lib.hid hw1
    clear h hnr hx b1 hw1 hb0 ht hkl hm hown hM hD hb1 hb2 hlk hn hlt
    go_enter Tryz.func90, Tryz.ntmps90
    go_wp2_with fail
    rw [← HW1.out]
    go_region
    go_wp2_with fail
    go_ret
    have bd : Below w.heap.size w w1.drew := Below.drew B1.out
    exact ⟨rfl, (H.out.here bd).mono (grow_of own w), Kp.of_below bd⟩
theorem rawReloc_any {own : Nat → Prop} {pb eb mb : Nat} {ver : Int} {s : Bool} {p : Pk} {e : Es} {k ix : Int} {hd : Bool} {w : World} (h : En own pb eb mb ver s p e k ix hd w) (K I : Int) (hK : 0 ≤ K ∧ K < 2147483648) (hI : 0 ≤ I ∧ I < 2147483648) (hnr : e.rs.length ≤ 1000000) :
    Calls Tryz.prog 90 #[.pointer (some ⟨eb, 0, none⟩), .int .i32 K, .int .i32 I] w (Met own w (.int .i64 (idx e.rs (K, I) : Nat)) fun o w' => En o pb eb mb ver s p ⟨e.ss, put e.rs (K, I), e.ds⟩ k ix hd w') := by
  by_cases hx : (K, I) ∈ e.rs
  · rw [put_of_mem hx]
    exact rawReloc_old h K I hK hI hnr hx
  · rw [put_of_not hx, idx_of_not hx]
    exact rawReloc_new h K I hK hI hnr hx
set_option maxRecDepth 100000 in
set_option maxHeartbeats 1000000 in
theorem encReloc_any {own : Nat → Prop} {pb eb mb : Nat} {ver : Int} {s : Bool} {p : Pk} {e : Es} {k ix : Int} {hd : Bool} {w : World} (h : En own pb eb mb ver s p e k ix hd w) (K I : Int) (hK : 0 ≤ K ∧ K < 2147483648) (hI : 0 ≤ I ∧ I < 2147483648) (hnr : e.rs.length ≤ 1000000) (hl : e.ds.length ≤ 70000000) :
    Calls Tryz.prog 58 #[.pointer (some ⟨eb, 0, none⟩), .int .i32 K, .int .i32 I] w (Met own w (.tuple #[]) fun o w' => En o pb eb mb ver s p (e.ref s K I) k ix hd w') := by
  have h2 := Es.put_len hl (sy_len s (m := 10) (by decide))
  have h3 := idx_le e.rs (K, I)
  have HS := Lib.hid (sync_any h 10 (by decide) (by omega))
  clear h
  go_enter Tryz.func58, Tryz.ntmps58
  go_wp2_with fail
  refine (HS.out).mono ?_
  intro e' w1 k10
  obtain ⟨rfl, s1, k1⟩ := k10
  have S1 := Lib.hid s1
  have K1 := Lib.hid k1
  clear s1 k1
  go_wp2_with fail
  refine (rawReloc_any S1.out K I hK hI hnr).mono ?_
  intro e' w2 k20
  obtain ⟨rfl, s2, k2⟩ := k20.from K1.out (fun _ _ h S => S.mono h)
  have S2 := Lib.hid s2
  have K2 := Lib.hid k2
  clear k20 s2 k2
  go_wp2_with fail
  refine (encLen_any S2.out (idx e.rs (K, I)) (by omega) (by show (e.put (sy s 10)).ds.length ≤ _; omega)).mono ?_
  intro e' w3 k30
  obtain ⟨rfl, s3, k3⟩ := k30.from K2.out (fun _ _ h S => S.mono h)
  have S3 := Lib.hid s3
  have K3 := Lib.hid k3
  clear k30 s3 k3
  go_wp2_with fail
  go_end0
  have e0 : e.ref s K I = Es.put ⟨(e.put (sy s 10)).ss, put (e.put (sy s 10)).rs (K, I), (e.put (sy s 10)).ds⟩ (eU s (idx e.rs (K, I))) := by simp [Es.put, Es.ref, List.append_assoc]
  rw [e0]
  exact ⟨rfl, S3.out, K3.out⟩
set_option maxRecDepth 100000 in
set_option maxHeartbeats 1000000 in
theorem encStringRef_any {own : Nat → Prop} {pb eb mb : Nat} {ver : Int} {s : Bool} {p : Pk} {e : Es} {k ix : Int} {hd : Bool} {w : World} (h : En own pb eb mb ver s p e k ix hd w) (I : Int) (hI : 0 ≤ I ∧ I < 2147483648) (hnr : e.rs.length ≤ 1000000) (hl : e.ds.length ≤ 60000000) :
    Calls Tryz.prog 93 #[.pointer (some ⟨eb, 0, none⟩), .int .i32 I] w (Met own w (.tuple #[]) fun o w' => En o pb eb mb ver s p ((e.put (sy s 5)).ref s 0 I) k ix hd w') := by
  have h2 := Es.put_len hl (sy_len s (m := 5) (by decide))
  have HS := Lib.hid (sync_any h 5 (by decide) (by omega))
  clear h
  go_enter Tryz.func93, Tryz.ntmps93
  go_wp2_with fail
  refine (HS.out).mono ?_
  intro e' w1 k10
  obtain ⟨rfl, s1, k1⟩ := k10
  have S1 := Lib.hid s1
  have K1 := Lib.hid k1
  clear s1 k1
  go_wp2_with fail
  refine (encReloc_any S1.out 0 I (by omega) hI hnr (by omega)).mono ?_
  intro e' w2 k20
  obtain ⟨rfl, s2, k2⟩ := k20.from K1.out (fun _ _ h S => S.mono h)
  have S2 := Lib.hid s2
  have K2 := Lib.hid k2
  clear k20 s2 k2
  go_wp2_with fail
  go_end0
  exact ⟨rfl, S2.out, K2.out⟩
set_option maxRecDepth 100000 in
set_option maxHeartbeats 1000000 in
theorem encString_any {own : Nat → Prop} {pb eb mb : Nat} {ver : Int} {s : Bool} {p : Pk} {e : Es} {k ix : Int} {hd : Bool} {w : World} (h : En own pb eb mb ver s p e k ix hd w) (t : ByteArray) (ht : t.size ≤ 2147483647) (hns : e.ss.length ≤ 1000000) (hnr : e.rs.length ≤ 1000000) (hl : e.ds.length ≤ 60000000) :
    Calls Tryz.prog 56 #[.pointer (some ⟨eb, 0, none⟩), .string t] w (Met own w (.tuple #[]) fun o w' => En o pb eb mb ver s p (e.str s t) k ix hd w') := by
  have hi := idx_le e.ss t
  obtain ⟨F, rs, rm, hb, _⟩ := h.en.is
  have c0 : w.cell? ⟨eb, 0, none⟩ = some (.pointer (some ⟨pb, 0, none⟩)) := hb.rest 0 (.inl (by omega))
  have hss : withS p e.ss 0 = e.ss := rfl
  have hsi := stringIdx_any h.pk t ht (by rw [hss]; exact hns)
  rw [hss] at hsi
  have hwt : withT (withS p e.ss) t = withS p (put e.ss t) := by
    funext j
    show (if j = 0 then put (if (0 : Nat) = 0 then e.ss else p 0) t else if j = 0 then e.ss else p j) = if j = 0 then put e.ss t else p j
    by_cases hj : j = 0
    · rw [if_pos hj, if_pos hj, if_pos rfl]
    · rw [if_neg hj, if_neg hj, if_neg hj]
  rw [hwt] at hsi
  have HS := Lib.hid hsi
  have HM := Lib.hid h.pk.map.tag
  have HE := Lib.hid h.en
  clear h hb hsi hwt hss
  go_enter Tryz.func56, Tryz.ntmps56
  go_wp2_with fail
  refine HS.out.mono ?_
  intro e' w1 k10
  have hen := HE.out
  have s1 : En (grow own w) pb eb mb ver s p ⟨put e.ss t, e.rs, e.ds⟩ k ix hd w1 := ⟨k10.st, by
    have := k10.en HM.out hen
    exact ⟨this.low, this.is⟩⟩
  have S1 := Lib.hid s1
  have K1 := Lib.hid k10.kp
  obtain rfl := k10.ret
  clear k10 s1 hen c0
  go_wp2_with fail
  refine (encStringRef_any S1.out (idx e.ss t : Nat) (by omega) hnr hl).mono ?_
  intro e' w2 k20
  obtain ⟨rfl, s2, k2⟩ := k20.from K1.out (fun _ _ h S => S.mono h)
  have S2 := Lib.hid s2
  have K2 := Lib.hid k2
  clear k20 s2 k2
  go_wp2_with fail
  go_end0
  exact ⟨rfl, S2.out, K2.out⟩
theorem src_texts {w : World} {A : Option Addr} {l : List ByteArray} (h : 0 < l.length → ∃ b o, A = some ⟨b, o, none⟩ ∧ ∀ j t, l[j]? = some t → w.cell? ⟨b, o + j, none⟩ = some (.string t)) (i : Nat) (hi : i < l.length) : ∃ b o, A = some ⟨b, o, none⟩ ∧ w.cell? ⟨b, o + i, none⟩ = some (.string l[i]) := by
  obtain ⟨b, o, e, hc⟩ := h (by omega)
  exact ⟨b, o, e, hc i _ (List.getElem?_eq_getElem hi)⟩
/-- Texts that came in, or that do not turn. -/
def Txt (own : Nat → Prop) (w : World) (A : Option Addr) (l : List ByteArray) : Prop := 0 < l.length → ∃ b o, A = some ⟨b, o, none⟩ ∧ ¬ own b ∧ b < w.heap.size ∧ ∀ j t, l[j]? = some t → w.cell? ⟨b, o + j, none⟩ = some (.string t)
theorem Txt.kp {own : Nat → Prop} {w w' : World} {A : Option Addr} {l : List ByteArray} (h : Txt own w A l) (k : Kp own w w') : Txt (grow own w) w' A l := fun h0 => by
  obtain ⟨b, o, e, h1, h2, h3⟩ := h h0
  refine ⟨b, o, e, fun hm => ?_, Nat.lt_of_lt_of_le h2 k.size, fun j t hj => k.cell (h3 j t hj) h1⟩
  rcases hm with hm | hm
  · exact h1 hm
  · omega
set_option maxRecDepth 100000 in
set_option maxHeartbeats 1000000 in
theorem encStrings_any {own : Nat → Prop} {pb eb mb : Nat} {ver : Int} {s : Bool} {p : Pk} {e : Es} {k ix : Int} {hd : Bool} {w : World} (h : En own pb eb mb ver s p e k ix hd w) {n a : Nat} (hle : e.Le n a 50000000) (hn : n ≤ 100000) (ha : a ≤ 100000) (A : Option Addr) (C : Nat) (l : List ByteArray) (hA : Txt own w A l) (hll : l.length ≤ 20) (hlt : ∀ t ∈ l, t.size ≤ 200) :
    Calls Tryz.prog 57 #[.pointer (some ⟨eb, 0, none⟩), .slice A l.length C] w (Met own w (.tuple #[]) fun o w' => En o pb eb mb ver s p (e.strs s l) k ix hd w') := by
  have hds := hle.ds
  have HE := Lib.hid (encLen_any h l.length (by omega) (by omega))
  have HA := Lib.hid hA
  have HT := Lib.hid hlt
  have HL := Lib.hid hle
  have l0 : (0 : Int) ≤ l.length := by omega
  obtain ⟨e1, he1⟩ : ∃ e1, e1 = e.put (eU s l.length) := ⟨_, rfl⟩
  have L1 := Lib.hid (show e1.Le n a 50000030 from by rw [he1]; exact hle.put (eU_len s (by omega)))
  have es : e.strs s l = l.foldl (fun e t => e.str s t) e1 := by rw [he1]; rfl
  rw [es, ]
  rw [← he1] at HE
  clear h hA hlt hle es he1 hds
  go_enter Tryz.func57, Tryz.ntmps57
  go_wp2_with fail
  refine (HE.out).mono ?_
  intro e' w1 k10
  obtain ⟨rfl, s1, k1⟩ := k10
  have S1 := Lib.hid s1
  have K1 := Lib.hid k1
  clear s1 k1
  go_wp2_with fail
  go_loopw [5, 12] (fun _ i wr => ∃ j : Nat, j ≤ l.length ∧ i = .int .i64 j ∧ En (grow own w) pb eb mb ver s p ((l.take j).foldl (fun e t => e.str s t) e1) k ix hd wr ∧ Kp own w wr) (fun _ i _ => l.length - (intOf i).toNat)
  case atStart => exact ⟨0, by omega, rfl, S1.out, K1.out⟩
  case round =>
    obtain ⟨j, hj, rfl, s2, k2⟩ := hrel
    obtain ⟨w2, rfl⟩ : ∃ w2 : World, w2 = wr := ⟨_, rfl⟩
    have S2 := Lib.hid s2
    have K2 := Lib.hid k2
    clear s2 k2 S1 K1
    by_cases hlt : j < l.length
    · obtain ⟨b, o, rfl, hnb, hbz, hc⟩ := HA.out (by omega)
      have hcj : w2.cell? ⟨b, o + j, none⟩ = some (.string l[j]) := K2.out.cell (hc j _ (List.getElem?_eq_getElem hlt)) hnb
      have hg := strs_go s (l.take j) e1 a 50000030 L1.out (fun t ht => HT.out t (List.mem_of_mem_take ht)) (by rw [List.length_take]; omega)
      have hm : (l.take j).length ≤ 20 := by rw [List.length_take]; omega
      have h1 := hg.ss
      have h2 := hg.rs
      have h3 := hg.ds
      have hts : l[j].size ≤ 200 := HT.out _ (List.getElem_mem hlt)
      have HF := Lib.hid (show (l.take (j + 1)).foldl (fun e t => e.str s t) e1 = ((l.take j).foldl (fun e t => e.str s t) e1).str s l[j] from by rw [List.take_succ_eq_append_getElem hlt, List.foldl_append]; rfl)
      obtain ⟨e2, he2⟩ : ∃ e2, e2 = (l.take j).foldl (fun e t => e.str s t) e1 := ⟨_, rfl⟩
      rw [← he2] at S2 HF h1 h2 h3
      generalize l[j] = t at *
      clear hc hg he2
      go_wp2_with fail
      refine (encString_any S2.out t (by omega) (by omega) (by omega) (by omega)).mono ?_
      intro e' w3 k30
      have K3 := Lib.hid (K2.out.trans k30.kp)
      have S3 := Lib.hid (k30.st.mono (own' := grow own w) (grow_grow K2.out.size))
      obtain rfl := k30.ret
      clear k30 hcj S2 K2
      go_wp2_with fail
      go_roundw
      case rel => exact ⟨j + 1, by omega, by go_num, by rw [HF.out]; exact S3.out, K3.out⟩
      case measure => simp [intOf]; omega
    · obtain rfl : j = l.length := by omega
      rw [List.take_length] at S2
      go_wp2_with fail
      go_end0
      exact ⟨rfl, S2.out, K2.out⟩
end Go.Proofs.YtedjadicdodahaaGreatDoor
