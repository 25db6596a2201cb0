/- A writer of two: a buffer and a digest. -/
import Derived.Deep.RegionHeld3
import Derived.Test.YtedjadicdodahaaGreatDoorPSumC
import Derived.Test.YtedjadicdodahaaGreatDoorQIo
import Derived.Test.YtedjadicdodahaaGreatDoorQPk
import Derived.Laws.IdiomStrings
import Derived.Stop.Asserts
import Derived.Test.YtedjadicdodahaaGreatDoorPEnB
namespace Go.Proofs.YtedjadicdodahaaGreatDoor
open Go.RowKit Go.Maps

theorem Tryz.infoWr : (Tryz.prog.info? 133).map (fun i => (i.zero, i.size, i.bytes)) = some (some .nilIface, 1, 16) := by kernel_rfl
abbrev ifB (b : Nat) : Value := .iface 69 (.pointer (some ⟨b, 0, none⟩))
abbrev ifD (b : Nat) : Value := .iface 175 (.pointer (some ⟨b, 0, none⟩))
/-- The writer of both. -/
structure MwIs (mb g bb dg : Nat) (w : World) : Prop where
  blk : ∃ C, Blk w mb 181 #[.slice (some ⟨g, 0, none⟩) 2 C] ∧ 2 ≤ C
  c0 : w.cell? ⟨g, 0, none⟩ = some (ifB bb)
  c1 : w.cell? ⟨g, 1, none⟩ = some (ifD dg)
theorem MwIs.kp {own : Nat → Prop} {mb g bb dg : Nat} {w w' : World} (h : MwIs mb g bb dg w) (k : Kp own w w') (h1 : ¬ own mb) (h2 : ¬ own g) : MwIs mb g bb dg w' := by
  obtain ⟨C, hb, hC⟩ := h.blk
  exact ⟨⟨C, hb.kp k h1, hC⟩, k.cell h.c0 h2, k.cell h.c1 h2⟩
set_option maxRecDepth 100000 in
set_option maxHeartbeats 4000000 in
theorem multiWriter_any (bb dg a : Nat) (C : Nat) (w : World) (h0 : w.cell? ⟨a, 0, none⟩ = some (ifB bb)) (h1 : w.cell? ⟨a, 1, none⟩ = some (ifD dg)) (hC : 2 ≤ C) :
    Calls Tryz.prog 65 #[.slice (some ⟨a, 0, none⟩) 2 C] w fun e w' => ∃ mb g, e = .returned (.iface 178 (.pointer (some ⟨mb, 0, none⟩))) ∧ w.heap.size ≤ mb ∧ w.heap.size ≤ g ∧ MwIs mb g bb dg w' ∧ Below w.heap.size w w' := by
  have hta1 : ∀ W : World, (Instr.typeAssert (ifB bb) 133 178 true).run Tryz.prog W = .ok (.tuple #[.pointer none, .bool false]) W := fun W => by kernel_rfl
  have hta2 : ∀ W : World, (Instr.typeAssert (ifD dg) 133 178 true).run Tryz.prog W = .ok (.tuple #[.pointer none, .bool false]) W := fun W => by kernel_rfl
  have hmk : ∀ W : World, (Instr.makeSlice 177 (.int .i64 0) (.int .i64 2)).run Tryz.prog W = .ok (.slice (some ⟨W.heap.size, 0, none⟩) 0 2) (W.alloc (.cells #[.nilIface, .nilIface] 133)) := fun W => by kernel_rfl
  obtain ⟨i0, hj, jz0, jz1, jz2⟩ := info_parts Tryz.infoWr
  have hC2 : (2 : Int) ≤ C := by omega
  have az := World.block_lt_of_cell? w _ h0
  have H0 := Lib.hid h0
  have H1 := Lib.hid h1
  have R0 := Lib.hid (show Row (fun k => w.heap.size ≤ k) 133 1 (.slice (some ⟨w.heap.size, 0, none⟩) 0 2) 0 [] (w.alloc (.cells #[.nilIface, .nilIface] 133)) from
    ⟨⟨rfl, .inr ⟨w.heap.size, 2, _, rfl, Nat.zero_le _, Blk.new w 133 _, Nat.zero_le _, by decide, rfl, rfl⟩⟩, fun k hk => by injection hk with hk; exact Nat.le_of_eq hk⟩)
  clear h0 h1
  go_enter Tryz.func65, Tryz.ntmps65
  go_wp2_with fail
  go_loopw [3, 5, 6, 7, 13] (fun x _ _ _ i wr => ∃ (j : Nat) (A : Option Addr) (c : Nat), j ≤ 2 ∧ i = .int .i64 j ∧ x = .slice A j c ∧ Row (fun k => w.heap.size ≤ k) 133 1 (.slice A j c) j (([ifB bb, ifD dg]).take j) wr ∧ Below w.heap.size w wr)
    (fun _ _ _ _ i _ => 2 - (intOf i).toNat)
  case atStart => exact ⟨0, _, _, by omega, rfl, rfl, R0.out, Below.alloc (Below.refl _ _) (Nat.le_refl _) _⟩
  case round =>
    obtain ⟨j, A, c, hj2, rfl, rfl, hr, hb⟩ := hrel
    obtain ⟨w2, rfl⟩ : ∃ w2 : World, w2 = wr := ⟨_, rfl⟩
    have R2 := Lib.hid hr
    have B2 := Lib.hid hb
    by_cases hlt : j < 2
    · rcases (show j = 0 ∨ j = 1 from by omega) with rfl | rfl
      · have hcj : w2.cell? ⟨a, 0, none⟩ = some (ifB bb) := (hb.cell (p := ⟨a, 0, none⟩) az).trans H0.out
        have HF := Lib.hid (show ([ifB bb, ifD dg]).take (0 + 1) = ([ifB bb, ifD dg]).take 0 ++ [ifB bb] from rfl)
        have WA := Lib.hid (show Below w2.heap.size w2 (w2.alloc (.cells #[ifB bb] 133)) from Below.alloc (Below.refl _ _) (Nat.le_refl _) _)
        have RA := Lib.hid (R2.out.here WA.out)
        have SRC := Lib.hid (show 0 < 1 → ∃ ad, some (⟨w2.heap.size, 0, none⟩ : Addr) = some ad ∧ ∀ j u, ([ifB bb] : List Value)[j]? = some u → (w2.alloc (.cells #[ifB bb] 133)).cell? (ad.add j) = some u from
          src_new w2 133 #[ifB bb] [ifB bb] rfl 1 _ (Below.refl _ _))
        have O1 := Lib.hid (show ∀ u ∈ ([ifB bb] : List Value), u.oneCell' = true from by simp [Value.oneCell'])
        have O2 := Lib.hid (show 0 + 1 ≤ maxLen from by unfold maxLen; omega)
        have O3 := Lib.hid (show (0 + 1) * 16 ≤ 140737488355328 from by omega)
        clear hr hb
        go_wp2_with (refine wpList_append_row rfl _ _ 177 rfl (fun k => w.heap.size ≤ k) 133 i0 _ 1 16 Tryz.underlying177 hj jz0 jz1 jz2 rfl (by decide) (.slice A 0 c) 0 _ rfl RA.out _ 1 1 [ifB bb] rfl rfl SRC.out O1.out O2.out O3.out ?_; intro A2 C2 w3 hown2 hgrow2 hnew2)
        go_roundw
        case rel => exact ⟨0 + 1, A2, C2, by omega, by go_num, rfl, by
          rw [HF.out]
          refine hown2.mono fun k hk => ?_
          rcases hk with h | h
          · exact h
          · exact Nat.le_trans B2.out.size (Nat.le_trans WA.out.size h), (B2.out.trans (WA.out.mono B2.out.size)).grown hgrow2 (Nat.le_trans B2.out.size WA.out.size) (fun k hk => R2.out.own k hk)⟩
        case measure => simp [intOf]
      · have hcj : w2.cell? ⟨a, 1, none⟩ = some (ifD dg) := (hb.cell (p := ⟨a, 1, none⟩) az).trans H1.out
        have HF := Lib.hid (show ([ifB bb, ifD dg]).take (1 + 1) = ([ifB bb, ifD dg]).take 1 ++ [ifD dg] from rfl)
        have WA := Lib.hid (show Below w2.heap.size w2 (w2.alloc (.cells #[ifD dg] 133)) from Below.alloc (Below.refl _ _) (Nat.le_refl _) _)
        have RA := Lib.hid (R2.out.here WA.out)
        have SRC := Lib.hid (show 0 < 1 → ∃ ad, some (⟨w2.heap.size, 0, none⟩ : Addr) = some ad ∧ ∀ j u, ([ifD dg] : List Value)[j]? = some u → (w2.alloc (.cells #[ifD dg] 133)).cell? (ad.add j) = some u from
          src_new w2 133 #[ifD dg] [ifD dg] rfl 1 _ (Below.refl _ _))
        have O1 := Lib.hid (show ∀ u ∈ ([ifD dg] : List Value), u.oneCell' = true from by simp [Value.oneCell'])
        have O2 := Lib.hid (show 1 + 1 ≤ maxLen from by unfold maxLen; omega)
        have O3 := Lib.hid (show (1 + 1) * 16 ≤ 140737488355328 from by omega)
        clear hr hb
        go_wp2_with (refine wpList_append_row rfl _ _ 177 rfl (fun k => w.heap.size ≤ k) 133 i0 _ 1 16 Tryz.underlying177 hj jz0 jz1 jz2 rfl (by decide) (.slice A 1 c) 1 _ rfl RA.out _ 1 1 [ifD dg] rfl rfl SRC.out O1.out O2.out O3.out ?_; intro A2 C2 w3 hown2 hgrow2 hnew2)
        go_roundw
        case rel => exact ⟨1 + 1, A2, C2, by omega, by go_num, rfl, by
          rw [HF.out]
          refine hown2.mono fun k hk => ?_
          rcases hk with h | h
          · exact h
          · exact Nat.le_trans B2.out.size (Nat.le_trans WA.out.size h), (B2.out.trans (WA.out.mono B2.out.size)).grown hgrow2 (Nat.le_trans B2.out.size WA.out.size) (fun k hk => R2.out.own k hk)⟩
        case measure => simp [intOf]
    · obtain rfl : j = 2 := by omega
      obtain ⟨g, rfl, hog, htg, hnc, _, hcl⟩ := hr.at (by simp)
      have c0 := (hcl 0 (by simp)).1
      have c1 := (hcl 1 (by simp)).1
      have C0 := Lib.hid c0
      have C1 := Lib.hid c1
      clear hr hb hcl c0 c1
      go_wp2_with fail
      go_ret
      have WA : Below w2.heap.size w2 (w2.alloc (.cells #[.slice (some ⟨g, 0, none⟩) 2 c] 181)) := Below.alloc (Below.refl _ _) (Nat.le_refl _) _
      exact ⟨w2.heap.size, g, rfl, B2.out.size, hog, ⟨⟨c, Blk.new _ _ _, hnc⟩, keep_cell WA C0.out, keep_cell WA C1.out⟩, B2.out.trans (WA.mono B2.out.size)⟩
end Go.Proofs.YtedjadicdodahaaGreatDoor

namespace Go.Proofs.YtedjadicdodahaaGreatDoor
open Go.RowKit Go.Maps

def toI (l : List UInt8) : List Int := l.map fun z => (z.toNat : Int)
theorem toI_len (l : List UInt8) : (toI l).length = l.length := by simp [toI]
/-- The digest behind pieces. -/
def dgP (K : List Int) (q : List (List UInt8)) : Dg := q.foldl (fun D y => D.wr K (toI y)) dg0
theorem dgP_snoc (K : List Int) (q : List (List UInt8)) (y : List UInt8) : dgP K (q ++ [y]) = (dgP K q).wr K (toI y) := by simp [dgP]
theorem dgP_go (K : List Int) : ∀ (q : List (List UInt8)) (D : Dg) (_ : D.Ok) (_ : D.len + q.flatten.length ≤ 4611686018427387904), (q.foldl (fun D y => D.wr K (toI y)) D).Ok ∧ (q.foldl (fun D y => D.wr K (toI y)) D).len = D.len + q.flatten.length
  | [], D, h, _ => ⟨h, by simp⟩
  | y :: q, D, h, hl => by
    rw [List.flatten_cons, List.length_append] at hl
    obtain ⟨h1, h2⟩ := Dg.wr_ok h K (toI y) (by rw [toI_len]; omega)
    rw [toI_len] at h2
    obtain ⟨h3, h4⟩ := dgP_go K q (D.wr K (toI y)) h1 (by rw [h2]; omega)
    refine ⟨h3, ?_⟩
    rw [List.foldl_cons, h4, h2, List.flatten_cons, List.length_append]
    omega
theorem dgP_ok (K : List Int) (q : List (List UInt8)) (h : q.flatten.length ≤ 4611686018427387904) : (dgP K q).Ok ∧ (dgP K q).len = q.flatten.length := by
  have h1 := dgP_go K q dg0 dg0_ok (by show 0 + _ ≤ _; omega)
  refine ⟨h1.1, h1.2.trans ?_⟩
  show 0 + _ = _
  omega
/-- The writer of both, what has been written. -/
structure Dm (own : Nat → Prop) (K : List Int) (mb g bb dg : Nat) (q : List (List UInt8)) (w : World) : Prop where
  mwb : MwIs mb g bb dg w
  bob : Bo own 74 (fun _ => none) bb 0 q.flatten w
  dgb : Blk w dg 215 (dgP K q).arr
  kb : Blk w 10 250 (K.map (Value.int .u32)).toArray
  kl : K.length = 64
  nm : ¬ own mb
  ng : ¬ own g
  nd : ¬ own dg
  nk : ¬ own 10
  md : mb ≠ dg ∧ g ≠ dg
theorem Dm.lts {own : Nat → Prop} {K : List Int} {mb g bb dg : Nat} {q : List (List UInt8)} {w : World} (h : Dm own K mb g bb dg q w) : mb < w.heap.size ∧ g < w.heap.size ∧ dg < w.heap.size ∧ 10 < w.heap.size := by
  obtain ⟨C, hb, _⟩ := h.mwb.blk
  exact ⟨hb.lt, World.block_lt_of_cell? w _ h.mwb.c0, h.dgb.lt, h.kb.lt⟩
theorem kne_dg {K : List Int} {w : World} {dg : Nat} {A : Array Value} (hk : Blk w 10 250 (K.map (Value.int .u32)).toArray) (hd : Blk w dg 215 A) : 10 ≠ dg := fun e => by
  have h1 := hk.tag
  rw [e, hd.tag] at h1
  exact absurd h1 (by decide)
/-- Both have been written. -/
theorem Dm.wrote {own : Nat → Prop} {K : List Int} {mb g bb dg : Nat} {q : List (List UInt8)} {y : List UInt8} {w w1 w2 : World} (h : Dm own K mb g bb dg q w) (b1 : Bo (grow own w) 74 (fun _ => none) bb 0 (q.flatten ++ y) w1) (k1 : Kp own w w1)
    (d2 : Blk w2 dg 215 ((dgP K q).wr K (toI y)).arr) (f2 : Fr [dg] w1 w2) : Dm (grow own w) K mb g bb dg (q ++ [y]) w2 ∧ Kp (fun k => own k ∨ k = dg) w w2 := by
  obtain ⟨l1, l2, l3, l4⟩ := h.lts
  have ng : ∀ k, k < w.heap.size → ¬ own k → ¬ grow own w k := fun k hk hn hg => by
    rcases hg with hg | hg
    · exact hn hg
    · omega
  have kt : Kp (fun k => own k ∨ k = dg) w w2 := (k1.mono (fun k hk => .inl hk)).trans' (Kp.of_fr f2 (by simp))
  have hkd := kne_dg h.kb h.dgb
  refine ⟨⟨h.mwb.kp kt (fun hc => ?_) (fun hc => ?_), ?_, by rw [dgP_snoc]; exact d2, h.kb.kp kt (fun hc => ?_), h.kl, ng _ l1 h.nm, ng _ l2 h.ng, ng _ l3 h.nd, ng _ l4 h.nk, h.md⟩, kt⟩
  · rcases hc with hc | hc
    · exact h.nm hc
    · exact h.md.1 hc
  · rcases hc with hc | hc
    · exact h.ng hc
    · exact h.md.2 hc
  · rw [List.flatten_append, List.flatten_cons, List.flatten_nil, List.append_nil]
    exact b1.fr f2 (by simpa using ng _ l3 h.nd)
  · rcases hc with hc | hc
    · exact h.nk hc
    · exact hkd hc
theorem ps_bytes {w : World} {dg : Nat} {y : List UInt8} {a : Nat} {o c : Nat} (hc : y.length ≤ c) (hcm : c ≤ 9223372036854775807 ∧ y.length ≤ 140737488355328) (ha : a ≠ dg) (hs : ∀ j v, (Lib.byteCells y)[j]? = some v → w.cell? ⟨a, o + j, none⟩ = some v) : PS w dg (toI y) (.slice (some ⟨a, o, none⟩) y.length c) :=
  ⟨a, o, c, by rw [toI_len], by rw [toI_len]; exact hc, by rw [toI_len]; exact hcm, ha, fun j z hj => by
    refine hs j _ ?_
    unfold toI at hj
    rw [List.getElem?_map, Option.map_eq_some_iff] at hj
    obtain ⟨x, hx, rfl⟩ := hj
    rw [Lib.byteCells, List.getElem?_map, hx]
    rfl⟩
set_option maxRecDepth 100000 in
set_option maxHeartbeats 4000000 in
theorem mw_Write {own : Nat → Prop} {K : List Int} {mb g bb dg : Nat} {q : List (List UInt8)} {w : World} (h : Dm own K mb g bb dg q w) (y : List UInt8) (n a c : Nat) (hn : y.length = n) (h1 : 1 ≤ n) (hc : n ≤ c) (hcm : c ≤ 1000000000) (ha : ¬ own a) (had : a ≠ dg)
    (hs : ∀ j v, (Lib.byteCells y)[j]? = some v → w.cell? ⟨a, 0 + j, none⟩ = some v) (hl : q.flatten.length ≤ 1000000000) :
    Calls Tryz.prog 176 #[.pointer (some ⟨mb, 0, none⟩), .slice (some ⟨a, 0, none⟩) n c] w fun e w' => e = .returned (.tuple #[.int .i64 n, .nilIface]) ∧ Dm (grow own w) K mb g bb dg (q ++ [y]) w' ∧ Kp (fun k => own k ∨ k = dg) w w' := by
  obtain ⟨C, hmb, hC⟩ := h.mwb.blk
  have m0 := hmb.cell 0
  have c0 := h.mwb.c0
  have c1 := h.mwb.c1
  obtain ⟨l1, l2, l3, l4⟩ := h.lts
  have hsl : ∀ j v, (Lib.byteCells y)[j]? = some v → w.cell? ((⟨a, 0, none⟩ : Addr).add j) = some v := fun j v hj => by rw [Lib.addr_add]; exact hs j v hj
  have WB := Lib.hid (bo_Write h.bob y ⟨a, 0, none⟩ n c hn h1 ha hsl (by omega))
  have H := Lib.hid h
  have HS := Lib.hid hs
  have HN := Lib.hid hn
  have C2 : (2 : Int) ≤ C := by omega
  clear h hmb hs hsl hn
  go_enter Tryz.func176, Tryz.ntmps176
  go_wp2_with fail
  go_loopw [4, 5, 7, 13] (fun _ x _ i wr => (i = .int .i64 0 ∧ x = .nilIface ∧ wr = w) ∨ (i = .int .i64 1 ∧ x = .nilIface ∧ Bo (grow own w) 74 (fun _ => none) bb 0 (q.flatten ++ y) wr ∧ Kp own w wr) ∨ (i = .int .i64 2 ∧ x = .nilIface ∧ Dm (grow own w) K mb g bb dg (q ++ [y]) wr ∧ Kp (fun k => own k ∨ k = dg) w wr))
    (fun _ _ _ i _ => 2 - (intOf i).toNat)
  case atStart => exact .inl ⟨rfl, rfl, rfl⟩
  case round =>
    rcases hrel with ⟨rfl, rfl, rfl⟩ | ⟨rfl, rfl, hb, kb⟩ | ⟨rfl, rfl, hd, kd⟩
    · go_wp2_with fail
      refine WB.out.mono ?_
      rintro e w1 ⟨rfl, hb, kb⟩
      have HB := Lib.hid hb
      have KB := Lib.hid kb
      clear hb kb
      go_wp2_with fail
      go_roundw
      case rel => exact .inr (.inl ⟨rfl, rfl, HB.out, KB.out⟩)
      case measure => simp [intOf]
    · obtain ⟨w1, rfl⟩ : ∃ w1 : World, w1 = wr := ⟨_, rfl⟩
      have d1 := kb.cell c1 H.out.ng
      obtain ⟨dk, dl⟩ := dgP_ok K q (by omega)
      have WD := Lib.hid (digest_Write K (toI y) (dgP K q) dg _ n w1 H.out.kl (by rw [toI_len, HN.out]) dk (by rw [dl]; omega) (H.out.dgb.kp kb H.out.nd) (H.out.kb.kp kb H.out.nk)
        (ps_bytes (c := c) (by rw [HN.out]; exact hc) ⟨by omega, by rw [HN.out]; omega⟩ had (fun j v hj => kb.cell (HS.out j v hj) ha)))
      rw [HN.out] at WD
      have HB := Lib.hid hb
      have KB := Lib.hid kb
      clear hb kb dk dl
      go_wp2_with fail
      refine WD.out.mono ?_
      rintro e w2 ⟨rfl, d2, f2⟩
      have R := Lib.hid (H.out.wrote HB.out KB.out d2 f2)
      clear d2 f2 d1
      go_wp2_with fail
      go_roundw
      case rel => exact .inr (.inr ⟨rfl, rfl, R.out.1, R.out.2⟩)
      case measure => simp [intOf]
    · have HD := Lib.hid hd
      have KD := Lib.hid kd
      clear hd kd
      go_wp2_with fail
      go_ret2
      exact ⟨rfl, HD.out, KD.out⟩
end Go.Proofs.YtedjadicdodahaaGreatDoor

namespace Go.Proofs.YtedjadicdodahaaGreatDoor
open Go.RowKit Go.Maps

theorem bytesRow_cell (w : World) (e : TypeId) (s : ByteArray) (cap : Nat) (fz : Nat × Nat) (j : Nat) (z : UInt8) (hj : s.data.toList[j]? = some z) : (w.drew.alloc (.cells (bytesRow s cap) e fz)).cell? ⟨w.heap.size, 0 + j, none⟩ = some (.int .u8 z.toNat) := by
  have h1 : (w.drew.alloc (.cells (bytesRow s cap) e fz)).heap[w.heap.size]? = some (.cells (bytesRow s cap) e fz) := by
    show (w.heap.push _)[w.heap.size]? = _
    simp
  rw [Nat.zero_add]
  have h2 : (bytesRow s cap)[j]? = some (.int .u8 z.toNat) := by
    have hl := (List.getElem?_eq_some_iff.1 hj).1
    unfold bytesRow
    rw [Array.getElem?_append, if_pos (by simpa using hl), Array.getElem?_map, ← Array.getElem?_toList, hj]
    rfl
  simp only [World.cell?, h1]
  exact h2
theorem below_bytesRow (w : World) (e : TypeId) (C : Array Value) (fz : Nat × Nat) : Below w.heap.size w (w.drew.alloc (.cells C e fz)) := Below.alloc (below_drewN (Below.refl _ _) 1) (Nat.le_refl _) _
theorem toI_at {l : List UInt8} {j : Nat} {z : Int} (h : (toI l)[j]? = some z) : ∃ x, l[j]? = some x ∧ z = (x.toNat : Int) := by
  unfold toI at h
  rw [List.getElem?_map, Option.map_eq_some_iff] at h
  obtain ⟨x, hx, rfl⟩ := h
  exact ⟨x, hx, rfl⟩
set_option maxRecDepth 100000 in
set_option maxHeartbeats 4000000 in
theorem mw_WriteString {own : Nat → Prop} {K : List Int} {mb g bb dg : Nat} {q : List (List UInt8)} {w : World} (h : Dm own K mb g bb dg q w) (s : ByteArray) (hm : s.size ≤ 1000000000) (hl : q.flatten.length ≤ 1000000000) :
    Calls Tryz.prog 177 #[.pointer (some ⟨mb, 0, none⟩), .string s] w fun e w' => e = .returned (.tuple #[.int .i64 s.size, .nilIface]) ∧ Dm (grow own w) K mb g bb dg (q ++ [s.data.toList]) w' ∧ Kp (fun k => own k ∨ k = dg) w w' := by
  have hta1 : ∀ W : World, (Instr.typeAssert (ifB bb) 133 184 true).run Tryz.prog W = .ok (.tuple #[ifB bb, .bool true]) W := fun W => by kernel_rfl
  have hta2 : ∀ W : World, (Instr.typeAssert (ifD dg) 133 184 true).run Tryz.prog W = .ok (.tuple #[.nilIface, .bool false]) W := fun W =>
    run_typeAssert_lacksB Tryz.underlying184 (by kernel_rfl) (by kernel_rfl) _ _ W
  have heq : ∀ W : World, (binOp .eql 70 (.slice none 0 0) (.slice none 0 0)).run Tryz.prog W = .ok (.bool true) W := fun W => by kernel_rfl
  obtain ⟨C, hmb, hC⟩ := h.mwb.blk
  have m0 := hmb.cell 0
  have c0 := h.mwb.c0
  have c1 := h.mwb.c1
  obtain ⟨l1, l2, l3, l4⟩ := h.lts
  have WB := Lib.hid (bo_WriteString h.bob s (by omega))
  have H := Lib.hid h
  have C2 : (2 : Int) ≤ C := by omega
  clear h hmb
  go_enter Tryz.func177, Tryz.ntmps177
  go_wp2_with fail
  go_loopw [4, 5, 6, 8, 9, 10, 16] (fun _ x p _ _ _ i wr => (i = .int .i64 0 ∧ x = .nilIface ∧ p = .slice none 0 0 ∧ wr = w) ∨ (i = .int .i64 1 ∧ x = .nilIface ∧ p = .slice none 0 0 ∧ Bo (grow own w) 74 (fun _ => none) bb 0 (q.flatten ++ s.data.toList) wr ∧ Kp own w wr) ∨ (i = .int .i64 2 ∧ x = .nilIface ∧ Dm (grow own w) K mb g bb dg (q ++ [s.data.toList]) wr ∧ Kp (fun k => own k ∨ k = dg) w wr))
    (fun _ _ _ _ _ _ i _ => 2 - (intOf i).toNat)
  case atStart => exact .inl ⟨rfl, rfl, rfl, rfl⟩
  case round =>
    rcases hrel with ⟨rfl, rfl, rfl, rfl⟩ | ⟨rfl, rfl, rfl, hb, kb⟩ | ⟨rfl, rfl, hd, kd⟩
    · go_wp2_with fail
      refine WB.out.mono ?_
      rintro e w1 ⟨rfl, hb, kb⟩
      have HB := Lib.hid hb
      have KB := Lib.hid kb
      clear hb kb
      go_wp2_with fail
      go_roundw
      case rel => exact .inr (.inl ⟨rfl, rfl, rfl, HB.out, KB.out⟩)
      case measure => simp [intOf]
    · obtain ⟨w1, rfl⟩ : ∃ w1 : World, w1 = wr := ⟨_, rfl⟩
      have d1 := kb.cell c1 H.out.ng
      obtain ⟨dk, dl⟩ := dgP_ok K q (by omega)
      have hcv := run_bytes_of_string (P := Tryz.prog) w1 9 70 5 s Tryz.underlying9 Tryz.underlying70 Tryz.underlying5
      have g1 := grownCap_ge w1 s.size 0 5
      have g2 := grownCap_le_maxLen w1 s.size 0 5 (by unfold maxLen; omega)
      obtain ⟨cap, hcap⟩ : ∃ cap, cap = grownCap w1 s.size 0 5 := ⟨_, rfl⟩
      rw [← hcap] at g1 g2 hcv
      unfold maxLen at g2
      have bw := below_bytesRow w1 5 (bytesRow s cap) ((bytesRow s cap).size, (bytesRow s cap).size + 1)
      have cw := bytesRow_cell w1 5 s cap ((bytesRow s cap).size, (bytesRow s cap).size + 1)
      obtain ⟨w2, hw2⟩ : ∃ w2, w2 = w1.drew.alloc (.cells (bytesRow s cap) 5 ((bytesRow s cap).size, (bytesRow s cap).size + 1)) := ⟨_, rfl⟩
      rw [← hw2] at hcv bw cw
      have zk := kb.size
      have WD := Lib.hid (digest_Write K (toI s.data.toList) (dgP K q) dg (.slice (some ⟨w1.heap.size, 0, none⟩) s.size cap) s.size w2 H.out.kl (by rw [toI_len, str_len]) dk (by rw [dl]; omega) ((H.out.dgb.kp kb H.out.nd).here bw) ((H.out.kb.kp kb H.out.nk).here bw)
        ⟨w1.heap.size, 0, cap, by rw [toI_len, str_len], by rw [toI_len, str_len]; exact g1, ⟨g2, by rw [toI_len, str_len]; omega⟩, by omega, fun j z hj => by
          obtain ⟨x, hx, rfl⟩ := toI_at hj
          exact cw j x hx⟩)
      have HB := Lib.hid hb
      have KB := Lib.hid kb
      have BW := Lib.hid bw
      clear hb kb dk dl bw cw hw2 hcap
      go_wp2_with fail
      refine WD.out.mono ?_
      rintro e w3 ⟨rfl, d2, f2⟩
      have R := Lib.hid (H.out.wrote HB.out KB.out d2 ((Fr.of_below (gs := [dg]) BW.out).trans f2 (fun k hk => .inl hk)))
      clear d2 f2 d1
      go_wp2_with fail
      go_roundw
      case rel => exact .inr (.inr ⟨rfl, rfl, R.out.1, R.out.2⟩)
      case measure => simp [intOf]
    · have HD := Lib.hid hd
      have KD := Lib.hid kd
      clear hd kd
      go_wp2_with fail
      go_ret2
      exact ⟨rfl, HD.out, KD.out⟩
end Go.Proofs.YtedjadicdodahaaGreatDoor

namespace Go.Proofs.YtedjadicdodahaaGreatDoor
open Go.RowKit Go.Maps

theorem u8n (x : Nat) : x.toUInt8.toNat = x % 256 := by
  rw [Nat.toUInt8, UInt8.toNat_ofNat']
theorem le4_cells (x : Nat) (hx : x < 4294967296) : Lib.byteCells (le4 x) = [.int .u8 ((x : Int) % 256), .int .u8 ((x : Int) / 256 % 256), .int .u8 ((x : Int) / 65536 % 256), .int .u8 ((x : Int) / 16777216)] := by
  have h0 : ((x % 256 : Nat) : Int) = (x : Int) % 256 := by omega
  have h1 : ((x / 256 % 256 : Nat) : Int) = (x : Int) / 256 % 256 := by omega
  have h2 : ((x / 65536 % 256 : Nat) : Int) = (x : Int) / 65536 % 256 := by omega
  have h3 : ((x / 16777216 % 256 : Nat) : Int) = (x : Int) / 16777216 := by omega
  unfold Lib.byteCells le4
  simp only [List.map_cons, List.map_nil, u8n, h0, h1, h2, h3]
section
variable {own own' : Nat → Prop} {K : List Int} {mb g bb dg : Nat} {q : List (List UInt8)} {w w' : World}
theorem Dm.mono (h : Dm own K mb g bb dg q w) (hs : ∀ k, own k → own' k) (n1 : ¬ own' mb) (n2 : ¬ own' g) (n3 : ¬ own' dg) (n4 : ¬ own' 10) : Dm own' K mb g bb dg q w :=
  ⟨h.mwb, h.bob.mono hs, h.dgb, h.kb, h.kl, n1, n2, n3, n4, h.md⟩
theorem Dm.here (h : Dm own K mb g bb dg q w) (b : Below w.heap.size w w') : Dm own K mb g bb dg q w' :=
  ⟨h.mwb.kp (Kp.of_below (own := fun _ => False) b) id id, h.bob.kp (Kp.of_below (own := fun _ => False) b) (fun _ _ => id), h.dgb.here b, h.kb.here b, h.kl, h.nm, h.ng, h.nd, h.nk, h.md⟩
/-- Its own set held by what was there first. -/
theorem Dm.base {w0 : World} (h : Dm (grow (grow own w0) w) K mb g bb dg q w') (hs : w0.heap.size ≤ w.heap.size) (n1 : ¬ grow own w0 mb) (n2 : ¬ grow own w0 g) (n3 : ¬ grow own w0 dg) (n4 : ¬ grow own w0 10) : Dm (grow own w0) K mb g bb dg q w' :=
  h.mono (grow_grow hs) n1 n2 n3 n4
end
set_option maxRecDepth 100000 in
set_option maxHeartbeats 4000000 in
theorem writeLe_any {own : Nat → Prop} {K : List Int} {mb g bb dg : Nat} {q : List (List UInt8)} {w : World} (h : Dm own K mb g bb dg q w) (x : Nat) (hx : x < 4294967296) (hown : ∀ k, own k → k < w.heap.size) (hl : q.flatten.length ≤ 1000000000) :
    Calls Tryz.prog 68 #[.iface 178 (.pointer (some ⟨mb, 0, none⟩)), .int .u32 x] w fun e w' => e = .returned .nilIface ∧ Dm (grow own w) K mb g bb dg (q ++ [le4 x]) w' ∧ Kp (fun k => own k ∨ k = dg) w w' := by
  obtain ⟨w1, hw1⟩ : ∃ w1, w1 = w.alloc (.cells #[.int .u8 ((x : Int) % 256), .int .u8 ((x : Int) / 256 % 256), .int .u8 ((x : Int) / 65536 % 256), .int .u8 ((x : Int) / 16777216)] 5) := ⟨_, rfl⟩
  have b1 : Below w.heap.size w w1 := by rw [hw1]; exact Below.alloc (Below.refl _ _) (Nat.le_refl _) _
  obtain ⟨l1, l2, l3, l4⟩ := h.lts
  have WM := Lib.hid (mw_Write (h.here b1) (le4 x) 4 w.heap.size 4 rfl (by omega) (by omega) (by omega) (fun hc => by have := hown _ hc; omega) (by omega) (fun j v hj => by
    rw [le4_cells x hx] at hj
    have hb : Blk w1 w.heap.size 5 #[.int .u8 ((x : Int) % 256), .int .u8 ((x : Int) / 256 % 256), .int .u8 ((x : Int) / 65536 % 256), .int .u8 ((x : Int) / 16777216)] := by rw [hw1]; exact Blk.new _ _ _
    rw [Nat.zero_add, hb.cell]
    simpa using hj) hl)
  have ng : ∀ k, k < w.heap.size → ¬ own k → ¬ grow own w k := fun k hk hn hg => by
    rcases hg with hg | hg
    · exact hn hg
    · omega
  have N := Lib.hid (show ¬ grow own w mb ∧ ¬ grow own w g ∧ ¬ grow own w dg ∧ ¬ grow own w 10 from ⟨ng _ l1 h.nm, ng _ l2 h.ng, ng _ l3 h.nd, ng _ l4 h.nk⟩)
  have HW := Lib.hid hw1
  have B := Lib.hid b1
  clear h hw1 ng b1
  go_enter Tryz.func68, Tryz.ntmps68
  go_wp2_with fail
  rw [← HW.out]
  refine WM.out.mono ?_
  rintro e w2 ⟨rfl, d2, k2⟩
  have R := Lib.hid (show Dm (grow own w) K mb g bb dg (q ++ [le4 x]) w2 ∧ Kp (fun k => own k ∨ k = dg) w w2 from
    ⟨d2.mono (grow_le B.out.size) N.out.1 N.out.2.1 N.out.2.2.1 N.out.2.2.2, (Kp.of_below B.out).trans' k2⟩)
  clear d2 k2
  go_wp2_with fail
  go_ret
  exact ⟨rfl, R.out.1, R.out.2⟩
theorem has0_any (v : Nat) (w : World) (hi : w.cell? ⟨0, 0, none⟩ = some (.int .u32 1)) (hr : w.cell? ⟨1, 0, none⟩ = some (.int .u32 0)) :
    Calls Tryz.prog 69 #[.int .u32 v, .int .i64 0] w fun e w' => e = .returned (.bool (decide (1 ≤ v))) ∧ w' = w := by
  by_cases hv : 1 ≤ v
  · have h1 : (1 : Int) ≤ v := by omega
    rw [decide_eq_true hv]
    go_enter Tryz.func69, Tryz.ntmps69
    go_wp2
    go_ret
    exact ⟨rfl, rfl⟩
  · have h1 : ¬ (1 : Int) ≤ v := by omega
    rw [decide_eq_false hv]
    go_enter Tryz.func69, Tryz.ntmps69
    go_wp2
    go_ret
    exact ⟨rfl, rfl⟩
/-- DumpTo's own function: a number into both. -/
theorem dump1_any {own : Nat → Prop} {K : List Int} {mb g bb dg oa : Nat} {q : List (List UInt8)} {w : World} (h : Dm own K mb g bb dg q w) (x : Nat) (hx : x < 4294967296) (hown : ∀ k, own k → k < w.heap.size) (hl : q.flatten.length ≤ 1000000000)
    (ho : w.cell? ⟨oa, 0, none⟩ = some (.iface 178 (.pointer (some ⟨mb, 0, none⟩)))) :
    Calls Tryz.prog 66 #[.int .u32 x, .pointer (some ⟨oa, 0, none⟩)] w fun e w' => e = .returned (.tuple #[]) ∧ Dm (grow own w) K mb g bb dg (q ++ [le4 x]) w' ∧ Kp (fun k => own k ∨ k = dg) w w' := by
  have W := Lib.hid (writeLe_any h x hx hown hl)
  clear h
  go_enter Tryz.func66, Tryz.ntmps66
  go_wp2_with fail
  refine W.out.mono ?_
  rintro e w1 ⟨rfl, d1, k1⟩
  have D1 := Lib.hid d1
  have K1 := Lib.hid k1
  clear d1 k1
  go_wp2_with fail
  refine (assert_true _).mono ?_
  rintro e w2 ⟨rfl, n0, rfl⟩
  go_wp2_with fail
  go_end0
  exact ⟨rfl, D1.out.here (below_drewN (Below.refl _ _) n0), K1.out.here (below_drewN (Below.refl _ _) n0)⟩
/-- A string into both. -/
theorem ioWriteString_any {own : Nat → Prop} {K : List Int} {mb g bb dg : Nat} {q : List (List UInt8)} {w : World} (h : Dm own K mb g bb dg q w) (s : ByteArray) (hm : s.size ≤ 1000000000) (hl : q.flatten.length ≤ 1000000000) :
    Calls Tryz.prog 71 #[.iface 178 (.pointer (some ⟨mb, 0, none⟩)), .string s] w fun e w' => e = .returned (.tuple #[.int .i64 s.size, .nilIface]) ∧ Dm (grow own w) K mb g bb dg (q ++ [s.data.toList]) w' ∧ Kp (fun k => own k ∨ k = dg) w w' := by
  have hta : ∀ W : World, (Instr.typeAssert (.iface 178 (.pointer (some ⟨mb, 0, none⟩))) 133 184 true).run Tryz.prog W = .ok (.tuple #[.iface 178 (.pointer (some ⟨mb, 0, none⟩)), .bool true]) W := fun W => by kernel_rfl
  have WS := Lib.hid (mw_WriteString h s hm hl)
  clear h
  go_enter Tryz.func71, Tryz.ntmps71
  go_wp2_with fail
  refine WS.out.mono ?_
  rintro e w1 ⟨rfl, d1, k1⟩
  have D1 := Lib.hid d1
  have K1 := Lib.hid k1
  clear d1 k1
  go_wp2_with fail
  go_ret2
  exact ⟨rfl, D1.out, K1.out⟩
theorem Dm.tight {own : Nat → Prop} {K : List Int} {mb g bb dg : Nat} {q : List (List UInt8)} {w : World} (h : Dm own K mb g bb dg q w) : Dm (fun k => own k ∧ k < w.heap.size) K mb g bb dg q w :=
  ⟨h.mwb, h.bob.tight, h.dgb, h.kb, h.kl, fun c => h.nm c.1, fun c => h.ng c.1, fun c => h.nd c.1, fun c => h.nk c.1, h.md⟩
/-- Where the writers lie, as they were made in world w0. -/
structure DmA (own : Nat → Prop) (mb g dg oa : Nat) (w0 : World) : Prop where
  n1 : ¬ grow own w0 mb
  n2 : ¬ grow own w0 g
  n3 : ¬ grow own w0 dg
  n4 : ¬ grow own w0 10
  n5 : ¬ grow own w0 oa
  n6 : oa ≠ dg
  co : w0.cell? ⟨oa, 0, none⟩ = some (.iface 178 (.pointer (some ⟨mb, 0, none⟩)))
/-- The writers behind pieces, from world w0 on. -/
structure DmB (own : Nat → Prop) (K : List Int) (mb g bb dg : Nat) (q : List (List UInt8)) (w0 w : World) : Prop where
  dm : Dm (grow own w0) K mb g bb dg q w
  kp : Kp (fun k => grow own w0 k ∨ k = dg) w0 w
section
variable {own : Nat → Prop} {K : List Int} {mb g bb dg oa : Nat} {q : List (List UInt8)} {w0 w : World}
theorem DmB.oc (h : DmB own K mb g bb dg q w0 w) (a : DmA own mb g dg oa w0) : w.cell? ⟨oa, 0, none⟩ = some (.iface 178 (.pointer (some ⟨mb, 0, none⟩))) :=
  h.kp.cell a.co (fun c => c.elim a.n5 a.n6)
theorem DmB.next {q2 : List (List UInt8)} {w2 : World} {o : Nat → Prop} (h : DmB own K mb g bb dg q w0 w) (a : DmA own mb g dg oa w0) (d : Dm (grow o w) K mb g bb dg q2 w2) (k : Kp (fun k => o k ∨ k = dg) w w2) (ho : ∀ k, o k → grow own w0 k) : DmB own K mb g bb dg q2 w0 w2 :=
  ⟨d.mono (fun k hk => hk.elim (ho k) (fun c => .inr (Nat.le_trans h.kp.size c))) a.n1 a.n2 a.n3 a.n4, h.kp.trans' (k.mono (fun k hk => hk.imp (ho k) id))⟩
theorem DmB.dump1 (h : DmB own K mb g bb dg q w0 w) (a : DmA own mb g dg oa w0) (x : Nat) (hx : x < 4294967296) (hl : q.flatten.length ≤ 1000000000) :
    Calls Tryz.prog 66 #[.int .u32 x, .pointer (some ⟨oa, 0, none⟩)] w fun e w' => e = .returned (.tuple #[]) ∧ DmB own K mb g bb dg (q ++ [le4 x]) w0 w' :=
  (dump1_any h.dm.tight x hx (fun _ c => c.2) hl (h.oc a)).mono fun _ _ ⟨h1, h2, h3⟩ => ⟨h1, h.next a h2 h3 (fun _ c => c.1)⟩
theorem DmB.str (h : DmB own K mb g bb dg q w0 w) (a : DmA own mb g dg oa w0) (s : ByteArray) (hm : s.size ≤ 1000000000) (hl : q.flatten.length ≤ 1000000000) :
    Calls Tryz.prog 71 #[.iface 178 (.pointer (some ⟨mb, 0, none⟩)), .string s] w fun e w' => e = .returned (.tuple #[.int .i64 s.size, .nilIface]) ∧ DmB own K mb g bb dg (q ++ [s.data.toList]) w0 w' :=
  (ioWriteString_any h.dm.tight s hm hl).mono fun _ _ ⟨h1, h2, h3⟩ => ⟨h1, h.next a h2 h3 (fun _ c => c.1)⟩
theorem DmB.here {w2 : World} (h : DmB own K mb g bb dg q w0 w) (b : Below w.heap.size w w2) : DmB own K mb g bb dg q w0 w2 := ⟨h.dm.here b, h.kp.here b⟩
/-- The writers as they are made. -/
theorem Dm.start (h : Dm own K mb g bb dg q w) (hoa : w.cell? ⟨oa, 0, none⟩ = some (.iface 178 (.pointer (some ⟨mb, 0, none⟩)))) (hn : ¬ own oa) (hd : oa ≠ dg) : DmA own mb g dg oa w ∧ DmB own K mb g bb dg q w w := by
  obtain ⟨l1, l2, l3, l4⟩ := h.lts
  have ng : ∀ k, k < w.heap.size → ¬ own k → ¬ grow own w k := fun k hk hn hg => by
    rcases hg with hg | hg
    · exact hn hg
    · omega
  have a1 := ng _ l1 h.nm
  have a2 := ng _ l2 h.ng
  have a3 := ng _ l3 h.nd
  have a4 := ng _ l4 h.nk
  exact ⟨⟨a1, a2, a3, a4, ng _ (World.block_lt_of_cell? w _ hoa) hn, hd, hoa⟩, h.mono (grow_of own w) a1 a2 a3 a4, Kp.refl _ _⟩
end
end Go.Proofs.YtedjadicdodahaaGreatDoor
