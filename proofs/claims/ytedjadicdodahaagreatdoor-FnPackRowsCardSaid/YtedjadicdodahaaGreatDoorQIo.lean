/- A builder's Write; a buffer poured into a buffer, into a builder. (printed by gen_pio.py) -/
import Derived.Deep.RegionHeld3
import Derived.Laws.Externs
import Derived.Lib.UnsafeStr
import Derived.Test.YtedjadicdodahaaGreatDoorPEnC
import Derived.Test.YtedjadicdodahaaGreatDoorQBuf
import Derived.BigRegion
namespace Go.Proofs.YtedjadicdodahaaGreatDoor
open Go.RowKit Go.Maps

theorem Tryz.sizeBuilder : (Tryz.prog.info? 127).map (·.size) = some 2 := by kernel_rfl
theorem Tryz.liesBuilder : liesAt Tryz.prog Tryz.prog.depth 127 (2 / Tryz.prog.cellsOf 127) 0 127 1 = true := by kernel_rfl
/-- A builder at block b that holds bs, its row owned by own. -/
structure Bl (own : Nat → Prop) (b : Nat) (bs : List UInt8) (w : World) : Prop where
  low : own b
  is : ∃ ad v, Blk w b 127 #[ad, v] ∧ (ad = .pointer none ∨ ad = .pointer (some ⟨b, 0, none⟩)) ∧ Row own 5 1 v bs.length (Lib.byteCells bs) w
set_option maxRecDepth 100000 in
theorem copyCheck_used (b : Nat) (v : Value) (w : World) (h : Blk w b 127 #[.pointer (some ⟨b, 0, none⟩), v]) : Calls Tryz.prog 158 #[.pointer (some ⟨b, 0, none⟩)] w fun e w' => e = .returned (.tuple #[]) ∧ w' = w := by
  obtain ⟨j, hj, _⟩ := Option.map_eq_some_iff.1 Tryz.sizeBuilder
  have h0 := h.cell 0
  go_enter Tryz.func158, Tryz.ntmps158
  go_wp2
  rw [Lib.run_neq_ptr_same w _ Tryz.underlying125 hj]
  go_wp2
  go_end0
  exact ⟨rfl, rfl⟩
set_option maxRecDepth 100000 in
theorem copyCheck_fresh (b : Nat) (v : Value) (w : World) (h : Blk w b 127 #[.pointer none, v]) : Calls Tryz.prog 158 #[.pointer (some ⟨b, 0, none⟩)] w fun e w' => e = .returned (.tuple #[]) ∧ w' = w.setCell ⟨b, 0, none⟩ (.pointer (some ⟨b, 0, none⟩)) := by
  obtain ⟨j, hj, hjs⟩ := Option.map_eq_some_iff.1 Tryz.sizeBuilder
  have h0 := h.cell 0
  have hfz := h.frozen 0
  have hsh : w.shape? b = some (127, 2) := by
    unfold Blk at h
    simp [World.shape?, h]
  go_enter Tryz.func158, Tryz.ntmps158
  go_wp2
  rw [Lib.run_to_unsafe w ⟨b, 0, none⟩ Tryz.underlying125 Tryz.underlying240 hj (by rw [hjs]; decide) hsh (Nat.zero_lt_succ 1)]
  simp only [Result.andThen]
  rw [Oper.upon_value]
  go_wp2
  rw [run_callFunc_extern Tryz.func159 (by kernel_rfl) (by kernel_rfl) (by kernel_rfl) (e := Extern.AbiNoEscape.same) (by kernel_rfl)]
  rw [Lib.run_noEscape]
  simp only [Result.andThen]
  rw [Oper.upon_value]
  go_wp2
  rw [Lib.run_from_unsafe w ⟨b, 0, none⟩ Tryz.underlying240 Tryz.underlying125 hj hsh Tryz.liesBuilder]
  simp only [Result.andThen]
  rw [Oper.upon_value]
  go_wp2
  go_end0
  exact ⟨rfl, rfl⟩
section
variable {own own' : Nat → Prop} {b : Nat} {bs : List UInt8} {w w' : World}
theorem Bl.mono (h : Bl own b bs w) (hs : ∀ k, own k → own' k) : Bl own' b bs w := by
  obtain ⟨ad, v, h1, h2, h3⟩ := h.is
  exact ⟨hs _ h.low, ad, v, h1, h2, h3.mono hs⟩
theorem Bl.fr {G : List Nat} (h : Bl own b bs w) (k : Fr G w w') (hG : ∀ g ∈ G, ¬ own g) : Bl own b bs w' := by
  obtain ⟨ad, v, h1, h2, h3⟩ := h.is
  exact ⟨h.low, ad, v, h1.fr k (fun hm => hG b hm h.low), h2, h3.fr k fun _ hj hm => hG _ hm (h3.own _ hj)⟩
theorem Bl.kp {own2 : Nat → Prop} (h : Bl own b bs w) (k : Kp own2 w w') (hd : ∀ g, own g → ¬ own2 g) : Bl own b bs w' := by
  obtain ⟨ad, v, h1, h2, h3⟩ := h.is
  exact ⟨h.low, ad, v, h1.kp k (hd b h.low), h2, own_block (h0 := h3.row) fun j hj => k.block j (h3.row.lt j hj).2 (hd j (h3.own j hj)), h3.own⟩
theorem Bl.here (h : Bl own b bs w) (k : Below w.heap.size w w') : Bl own b bs w' := h.fr (Fr.of_below (gs := []) k) (by simp)
theorem Bl.tight (h : Bl own b bs w) : Bl (fun k => own k ∧ k < w.heap.size) b bs w := by
  obtain ⟨ad, v, h1, h2, h3⟩ := h.is
  exact ⟨⟨h.low, h1.lt⟩, ad, v, h1, h2, h3.row, fun k hk => ⟨h3.own k hk, (h3.row.lt k hk).2⟩⟩
end
theorem Tryz.infoU8 : (Tryz.prog.info? 5).map (fun i => (i.zero, i.size, i.bytes)) = some (some (.int .u8 0), 1, 1) := by kernel_rfl
/-- copyCheck: it holds its own address behind. -/
theorem copyCheck_any {own : Nat → Prop} {b : Nat} {bs : List UInt8} {w : World} (h : Bl own b bs w) : Calls Tryz.prog 158 #[.pointer (some ⟨b, 0, none⟩)] w fun e w' => e = .returned (.tuple #[]) ∧ Bl own b bs w' ∧ Kp own w w' := by
  obtain ⟨ad, v, h1, h2, h3⟩ := h.is
  rcases h2 with rfl | rfl
  · refine (copyCheck_fresh b v w h1).mono ?_
    rintro e w' ⟨rfl, rfl⟩
    have hn : ∀ j, v.ownBlock = some j → j ≠ b := fun j hj e => by
      have h9 := h3.tag hj
      rw [e, h1.tag] at h9
      exact absurd h9 (by decide)
    refine ⟨rfl, ⟨h.low, _, v, h1.set_ 0 _, .inr rfl, h3.fr (G := [b]) ((Fr.refl _ _).setCell (.inl (by simp)) _) (fun j hj => by simpa using hn j hj)⟩, (Kp.refl _ _).setCell (.inl h.low) _⟩
  · refine (copyCheck_used b v w h1).mono ?_
    rintro e w' ⟨rfl, rfl⟩
    exact ⟨rfl, h, Kp.refl _ _⟩
set_option maxRecDepth 100000 in
set_option maxHeartbeats 2000000 in
theorem bl_Write {own : Nat → Prop} {b : Nat} {bs : List UInt8} {w : World} (h : Bl own b bs w) (ys : List UInt8) (a : Addr) (n c : Nat) (hn : ys.length = n) (hab : ¬ own a.block) (hsrc : ∀ j v, (Lib.byteCells ys)[j]? = some v → w.cell? (a.add j) = some v) (hlim : bs.length + n ≤ 140737488355328) :
    Calls Tryz.prog 156 #[.pointer (some ⟨b, 0, none⟩), .slice (some a) n c] w (Met own w (.tuple #[.int .i64 n, .nilIface]) fun o w' => Bl o b (bs ++ ys) w') := by
  have HC := Lib.hid (copyCheck_any h)
  obtain ⟨i0, hj, jz0, jz1, jz2⟩ := info_parts Tryz.infoU8
  have O1 := Lib.hid (byteCells_one ys)
  have O2 := Lib.hid (show bs.length + n ≤ maxLen from by unfold maxLen; omega)
  have O3 := Lib.hid (show (bs.length + n) * 1 ≤ 140737488355328 from by omega)
  have O4 := Lib.hid (show (Lib.byteCells ys).length = n * 1 from by rw [byteCells_length, hn, Nat.mul_one])
  have HS := Lib.hid hsrc
  have HN := Lib.hid hn
  clear h hsrc hn
  go_enter Tryz.func156, Tryz.ntmps156
  go_wp2_with fail
  refine HC.out.mono ?_
  rintro e w1 ⟨rfl, h2, k2⟩
  obtain ⟨ad, v, hb, had, hr⟩ := h2.is
  obtain ⟨A0, C0, rfl, _⟩ := own_slice hr.row
  have H2 := Lib.hid h2
  have K2 := Lib.hid k2
  have c1 := hb.cell 1
  have f1 := hb.frozen 1
  have SRC := Lib.hid (show 0 < n → ∃ ad, some a = some ad ∧ ∀ j u, (Lib.byteCells ys)[j]? = some u → w1.cell? (ad.add j) = some u from fun _ => ⟨a, rfl, fun j u hu => k2.cell (HS.out j u hu) (by rw [Lib.block_add]; exact hab)⟩)
  have RR := Lib.hid hr
  have HB := Lib.hid hb
  have NP := Lib.hid (show (Value.slice A0 bs.length C0).ownBlock ≠ some b from fun h' => by
    have h9 := hr.tag h'
    rw [hb.tag] at h9
    exact absurd h9 (by decide))
  clear h2 k2 hb hr had
  go_wp2_with (refine wpList_append_row rfl _ _ 70 rfl own 5 i0 _ 1 1 Tryz.underlying70 hj jz0 jz1 jz2 rfl (by decide) (.slice A0 bs.length C0) bs.length _ rfl RR.out _ n c (Lib.byteCells ys) rfl O4.out SRC.out O1.out O2.out O3.out ?_; intro A2 C2 w3 hown2 hgrow2 hnew2; have x3 := HB.out.grown hgrow2 NP.out; have x3c := x3.cell 1; have x3f := x3.frozen 1)
  have hn2 : ∀ g, (Value.slice A2 (bs.length + n) C2).ownBlock = some g → g ≠ b := fun g hg => by
    rcases hnew2 g hg with h9 | h9
    · rintro rfl
      exact NP.out h9
    · have := HB.out.lt
      have h10 : w1.heap.size ≤ g := h9
      omega
  have BL := Lib.hid (show Bl (grow own w) b (bs ++ ys) (w3.setCell ⟨b, 1, none⟩ (.slice A2 (bs.length + n) C2)) from by
    refine ⟨.inl H2.out.low, ad, .slice A2 (bs.length + n) C2, x3.set_ 1 _, ?_, ?_⟩
    · obtain ⟨ad2, v2, g1, g2, _⟩ := H2.out.is
      have e1 : ad2 = ad := by
        have h9 := (g1.cell 0).symm.trans (HB.out.cell 0)
        simpa using h9
      rw [← e1]
      exact g2
    · have h9 := hown2.fr (G := [b]) ((Fr.refl _ _).setCell (p := ⟨b, 1, none⟩) (.inl (by simp)) (.slice A2 (bs.length + n) C2)) (fun g hg => by simpa using hn2 g hg)
      rw [List.length_append, byteCells_append, HN.out]
      exact h9.mono (grow_le K2.out.size))
  have KP := Lib.hid (show Kp own w (w3.setCell ⟨b, 1, none⟩ (.slice A2 (bs.length + n) C2)) from by
    refine (K2.out.grown hgrow2 (fun i hi => ?_)).setCell (.inl H2.out.low) _
    exact .inl (RR.out.own i hi))
  clear x3 x3c x3f hown2 hgrow2 hnew2 hn2
  go_ret2
  exact ⟨rfl, BL.out, KP.out⟩
end Go.Proofs.YtedjadicdodahaaGreatDoor

namespace Go.Proofs.YtedjadicdodahaaGreatDoor
open Go.RowKit Go.Maps

/-- A buffer, what it owns. -/
structure Bo (own : Nat → Prop) (T : TypeId) (R : Nat → Option Value) (b q : Nat) (bs : List UInt8) (w : World) : Prop where
  low : own b
  is : ∃ F, Bf T R b q F bs w ∧ ∀ k ∈ F, own k
section
variable {own own' : Nat → Prop} {T : TypeId} {R : Nat → Option Value} {b q : Nat} {bs : List UInt8} {w w' : World}
theorem Bo.mono (h : Bo own T R b q bs w) (hs : ∀ k, own k → own' k) : Bo own' T R b q bs w := by
  obtain ⟨F, h1, h2⟩ := h.is
  exact ⟨hs _ h.low, F, h1, fun k hk => hs k (h2 k hk)⟩
theorem Bo.fr {G : List Nat} (h : Bo own T R b q bs w) (k : Fr G w w') (hG : ∀ g ∈ G, ¬ own g) : Bo own T R b q bs w' := by
  obtain ⟨F, h1, h2⟩ := h.is
  exact ⟨h.low, F, h1.fr k (fun hm => hG b hm h.low) (fun j hj hm => hG j hm (h2 j hj)), h2⟩
theorem Bo.kp {own2 : Nat → Prop} (h : Bo own T R b q bs w) (k : Kp own2 w w') (hd : ∀ g, own g → ¬ own2 g) : Bo own T R b q bs w' := by
  obtain ⟨F, ⟨lr, h1⟩, h2⟩ := h.is
  refine ⟨h.low, F, ⟨lr, ?_⟩, h2⟩
  rcases h1 with ⟨h0, h1⟩ | ⟨g, cap, cur, h1, hF, hg, hh, r⟩
  · exact .inl ⟨h0, h1.of_heap (k.block b h1.lt (hd b h.low))⟩
  · exact .inr ⟨g, cap, cur, h1.of_heap (k.block b h1.lt (hd b h.low)), hF, hg, (k.block g (Lib.lt_of_heap hh) (hd g (h2 g hF))).trans hh, r⟩
theorem Bo.here (h : Bo own T R b q bs w) (k : Below w.heap.size w w') : Bo own T R b q bs w' := h.fr (Fr.of_below (gs := []) k) (by simp)
theorem Bo.tight (h : Bo own T R b q bs w) : Bo (fun k => own k ∧ k < w.heap.size) T R b q bs w := by
  obtain ⟨F, h1, h2⟩ := h.is
  obtain ⟨F', h3, h4⟩ := h1.tight
  exact ⟨⟨h.low, h1.lt⟩, F', h4, fun k hk => ⟨h2 k (h3 k hk).1, (h3 k hk).2.1⟩⟩
theorem bo_of_bput {F : List Nat} {v : Value} {e : Ending} (hF : ∀ k ∈ F, own k) (hb : own b) (h : Bput T R b q F bs v w e w') : Met own w v (fun o w' => Bo o T R b q bs w') e w' := by
  obtain ⟨rfl, F', h1, h2⟩ := h
  have ho : ∀ k ∈ b :: F, own k := fun k hk => by
    rcases List.mem_cons.1 hk with rfl | hk
    · exact hb
    · exact hF k hk
  refine ⟨rfl, ⟨.inl hb, F', h1, fun k hk => ?_⟩, Kp.of_fr h2.fr fun k hk => .inl (ho k hk)⟩
  exact (h2.grow k (List.mem_cons_of_mem _ hk)).imp (ho k) id
theorem bo_Write (h : Bo own T R b q bs w) (ys : List UInt8) (a : Addr) (n c : Nat) (hn : ys.length = n) (h1 : 1 ≤ n) (hab : ¬ own a.block) (hsrc : ∀ j v, (Lib.byteCells ys)[j]? = some v → w.cell? (a.add j) = some v) (hlim : bs.length + n ≤ 140737488355328) :
    Calls Tryz.prog 106 #[.pointer (some ⟨b, q, none⟩), .slice (some a) n c] w (Met own w (.tuple #[.int .i64 n, .nilIface]) fun o w' => Bo o T R b q (bs ++ ys) w') := by
  obtain ⟨F, h2, h3⟩ := h.is
  exact (buf_Write T R b q F bs ys a n c w h2 hn h1 (fun e => hab (e ▸ h.low)) hsrc hlim).mono fun e w' hp => bo_of_bput h3 h.low hp
theorem bo_WriteString (h : Bo own T R b q bs w) (s : ByteArray) (hlim : bs.length + s.size ≤ 140737488355328) :
    Calls Tryz.prog 148 #[.pointer (some ⟨b, q, none⟩), .string s] w (Met own w (.tuple #[.int .i64 s.size, .nilIface]) fun o w' => Bo o T R b q (bs ++ s.data.toList) w') := by
  obtain ⟨F, h2, h3⟩ := h.is
  exact (buf_WriteString T R b q F bs s w h2 hlim).mono fun e w' hp => bo_of_bput h3 h.low hp
end
set_option maxRecDepth 100000 in
/-- Reset, wherever its reader stands. -/
theorem three_Reset (T : TypeId) (R : Nat → Option Value) (b q g n cap : Nat) (off lr : Int) (w : World) (h : LibA.Three w b q T R (.slice (some ⟨g, 0, none⟩) n cap) (.int .i64 off) (.int .i8 lr)) :
    Calls Tryz.prog 108 #[.pointer (some ⟨b, q, none⟩)] w fun e w' => e = .returned (.tuple #[]) ∧ LibA.Three w' b q T R (.slice (some ⟨g, 0, none⟩) 0 cap) (.int .i64 0) (.int .i8 0) ∧ Fr [b] w w' := by
  have c0 := h.c0
  have c1 := h.c1
  have c2 := h.c2
  have f0 := h.f q
  have f1 := h.f (q + 1)
  have f2 := h.f (q + 2)
  have H := Lib.hid h
  clear h
  go_enter Tryz.func108, Tryz.ntmps108
  go_wp2
  go_end0
  exact ⟨rfl, ((H.out.set0 _).set1 _).set2 _, (((Fr.refl _ _).setCell (.inl (by simp)) _).setCell (.inl (by simp)) _).setCell (.inl (by simp)) _⟩
set_option maxRecDepth 100000 in
theorem three_Reset0 (T : TypeId) (R : Nat → Option Value) (b q : Nat) (off lr : Int) (w : World) (h : LibA.Three w b q T R (.slice none 0 0) (.int .i64 off) (.int .i8 lr)) :
    Calls Tryz.prog 108 #[.pointer (some ⟨b, q, none⟩)] w fun e w' => e = .returned (.tuple #[]) ∧ LibA.Three w' b q T R (.slice none 0 0) (.int .i64 0) (.int .i8 0) ∧ Fr [b] w w' := by
  have c0 := h.c0
  have c1 := h.c1
  have c2 := h.c2
  have f0 := h.f q
  have f1 := h.f (q + 1)
  have f2 := h.f (q + 2)
  have H := Lib.hid h
  clear h
  go_enter Tryz.func108, Tryz.ntmps108
  go_wp2
  go_end0
  exact ⟨rfl, ((H.out.set0 _).set1 _).set2 _, (((Fr.refl _ _).setCell (.inl (by simp)) _).setCell (.inl (by simp)) _).setCell (.inl (by simp)) _⟩
theorem src_row {w : World} {g : Nat} {cur : Array Value} {bs : List UInt8} (hh : w.heap[g]? = some (.cells cur 5 (0, 0))) (ht : cur.toList.take bs.length = Lib.byteCells bs) (k : Nat) : ∀ j v, (Lib.byteCells bs)[j]? = some v → (w.drewN k).cell? ((⟨g, 0, none⟩ : Addr).add j) = some v := fun j v hj => by
  show w.cell? _ = _
  rw [Lib.addr_add, Nat.zero_add, cell_of_row w g j cur _ (0, 0) hh]
  have hlt : j < bs.length := by have := (List.getElem?_eq_some_iff.1 hj).1; rwa [byteCells_length] at this
  rw [← ht, List.getElem?_take, if_pos hlt] at hj
  simpa using hj
/-- What pouring leaves. -/
def PouredB (ownS ownD : Nat → Prop) (T : TypeId) (R : Nat → Option Value) (b q : Nat) (bs cs : List UInt8) (T2 : TypeId) (R2 : Nat → Option Value) (b2 : Nat) (w : World) (e : Ending) (w' : World) : Prop :=
  e = .returned (.tuple #[.int .i64 (bs.length : Nat), .nilIface]) ∧ Bo ownS T R b q [] w' ∧ Bo (grow ownD w) T2 R2 b2 0 (cs ++ bs) w' ∧ Kp (fun k => ownS k ∨ ownD k) w w'
set_option maxRecDepth 100000 in
set_option maxHeartbeats 2000000 in
theorem writeTo_B {ownS ownD : Nat → Prop} {T : TypeId} {R : Nat → Option Value} {b q : Nat} {bs cs : List UInt8} {T2 : TypeId} {R2 : Nat → Option Value} {b2 : Nat} {w : World} (h : Bo ownS T R b q bs w) (hd : Bo ownD T2 R2 b2 0 cs w) (hdis : ∀ k, ownS k → ¬ ownD k) (hlim : cs.length + bs.length ≤ 100000000) :
    Calls Tryz.prog 149 #[.pointer (some ⟨b, q, none⟩), .iface 69 (.pointer (some ⟨b2, 0, none⟩))] w (PouredB ownS ownD T R b q bs cs T2 R2 b2 w) := by
  have hmf : ∀ (fn : Fn) (first cap : Array Value) (w : World), (Instr.makeFunc fn first cap).run Tryz.prog w = .ok (.func fn first cap) w := fun _ _ _ _ => rfl
  have hna : ∀ (k : Nat) (W : World), (nilAhead (k + 1) 69 (.pointer (some ⟨b2, 0, none⟩)) "Write").run Tryz.prog W = .ok (some false) W := fun k W => by kernel_rfl
  obtain ⟨F, hb, hF⟩ := h.is
  have hlow := h.low
  have c2 := hb.last
  obtain ⟨lr0, c2, f2⟩ := c2
  obtain ⟨w0, hw0⟩ : ∃ w0, w0 = w.setCell ⟨b, q + 2, none⟩ (.int .i8 0) := ⟨_, rfl⟩
  have f0 : Fr [b] w w0 := by rw [hw0]; exact (Fr.refl _ _).setCell (.inl (by simp)) _
  have hb0 : Bf T R b q F bs w0 := by rw [hw0]; exact hb.setLast 0
  have hd0 : Bo ownD T2 R2 b2 0 cs w0 := hd.fr f0 (by simpa using hdis b hlow)
  have LEN := Lib.hid (buf_Len T R b q F bs w0 hb0)
  have HW0 := Lib.hid hw0
  have FW0 := Lib.hid f0
  have HF := Lib.hid hF
  clear hb hd h
  obtain ⟨lr, ⟨rfl, th⟩ | ⟨g, cap, cur, th, hgF, hgb, hh, hl, hm, hs, ht⟩⟩ := hb0
  · have RES := Lib.hid (fun n => three_Reset0 T R b q 0 lr (w0.drewN n) (th.of_heap rfl))
    have HD := Lib.hid hd0
    clear f0 hw0 th hd0
    go_enter Tryz.func149, Tryz.ntmps149
    go_wp2_with fail
    rw [← HW0.out]
    refine LEN.out.mono ?_
    rintro e w1 ⟨rfl, n1, rfl⟩
    go_wp2_with fail
    refine (RES.out n1).mono ?_
    rintro e w2 ⟨rfl, r1, r2⟩
    go_wp2_with fail
    go_ret2
    have f2' : Fr [b] w0 w2 := ((Fr.refl _ _).drewN n1).trans1 r2
    refine ⟨rfl, ⟨hlow, [], ⟨0, .inl ⟨rfl, r1⟩⟩, by simp⟩, by rw [List.append_nil]; exact (HD.out.fr f2' (by simpa using hdis b hlow)).mono (grow_of _ _), Kp.of_fr (FW0.out.trans1 f2') (by simpa using .inl (.inl hlow))⟩
  · have hcl : cap ≤ 9223372036854775807 := by unfold maxLen at hm; omega
    have hgD : ¬ ownD g := hdis g (hF g hgF)
    by_cases h0 : bs.length = 0
    · obtain rfl : bs = [] := List.eq_nil_of_length_eq_zero h0
      have RES := Lib.hid (fun n => three_Reset T R b q g 0 cap 0 lr (w0.drewN n) (th.of_heap rfl))
      have HD := Lib.hid hd0
      have HH := Lib.hid hh
      clear f0 hw0 th hd0 hh
      go_enter Tryz.func149, Tryz.ntmps149
      go_wp2_with fail
      rw [← HW0.out]
      refine LEN.out.mono ?_
      rintro e w1 ⟨rfl, n1, rfl⟩
      go_wp2_with fail
      refine (RES.out n1).mono ?_
      rintro e w2 ⟨rfl, r1, r2⟩
      go_wp2_with fail
      go_ret2
      have f2' : Fr [b] w0 w2 := ((Fr.refl _ _).drewN n1).trans1 r2
      refine ⟨rfl, ⟨hlow, [g], ⟨0, .inr ⟨g, cap, cur, r1, by simp, hgb, (f2'.block g (Lib.lt_of_heap HH.out) (by simpa using hgb)).trans HH.out, Nat.zero_le _, hm, hs, rfl⟩⟩, by simpa using HF.out g hgF⟩, by rw [List.append_nil]; exact (HD.out.fr f2' (by simpa using hdis b hlow)).mono (grow_of _ _), Kp.of_fr (FW0.out.trans1 f2') (by simpa using .inl (.inl hlow))⟩
    · obtain ⟨n, hn⟩ : ∃ n, n = bs.length := ⟨_, rfl⟩
      rw [← hn] at h0 hl LEN th
      have c0 := th.c0
      have c1 := th.c1
      have g0 := th.f q
      have g1 := th.f (q + 1)
      have n0 : (0 : Int) < n := by omega
      have n1' : (n : Int) ≤ cap := by omega
      have n2 : (n : Int) ≤ 100000000 := by omega
      have HN := Lib.hid hn
      have HD := Lib.hid hd0
      have HH := Lib.hid hh
      have TH := Lib.hid th
      have WR := Lib.hid (fun k => bo_Write (w := (w0.drewN k).drew) (hd0.here (below_drewN (Below.refl _ _) (k + 1))) bs ⟨g, 0, none⟩ n cap hn.symm (by omega) hgD (src_row hh ht (k + 1)) (by omega))
      clear hw0 th hd0 hh hn
      go_enter Tryz.func149, Tryz.ntmps149
      go_wp2_with fail
      rw [← HW0.out]
      refine LEN.out.mono ?_
      rintro e w1 ⟨rfl, m1, rfl⟩
      go_wp2_with fail
      go_region_held3 (fun W => W.cell? ⟨b, q, none⟩ = some (.slice (some ⟨g, 0, none⟩) n cap) ∧ W.cell? ⟨b, q + 1, none⟩ = some (.int .i64 0)) (first | exact ⟨c0, c1⟩ | exact ⟨T3.out.c0, T3.out.c1⟩ | go_keep)
        (first | (go_at_call 106; refine (WR.out m1).mono ?_; intro e w3 hp; obtain ⟨rfl, d3, k3⟩ := hp; have T3 := Lib.hid (TH.out.of_heap (k3.block b TH.out.lt (hdis b hlow))); have H3 := Lib.hid ((k3.block g (Lib.lt_of_heap HH.out) hgD).trans HH.out); have D3 := Lib.hid d3; have K3 := Lib.hid k3; have e1 := T3.out.c1; have e2 := T3.out.f (q + 1); clear d3 k3))
      clear c0 c1 g0 g1 WR c2 f2
      go_wp2_with fail
      clear e1 e2
      obtain ⟨w4, hw4⟩ : ∃ w4, w4 = w3.setCell ⟨b, q + 1, none⟩ (.int .i64 n) := ⟨_, rfl⟩
      have T4 := T3.out.set1 (.int .i64 n)
      rw [← hw4] at T4 ⊢
      refine (three_Reset T R b q g n cap n lr w4 T4).mono ?_
      rintro e w5 ⟨rfl, r1, r2⟩
      have H5 := Lib.hid r1
      have F5 := Lib.hid (show Fr [b] w3 w5 from ((Fr.refl _ _).setCell (p := ⟨b, q + 1, none⟩) (.inl (by simp)) (.int .i64 n)).trans1 (by rw [← hw4]; exact r2))
      clear r1 r2 T4 hw4
      go_wp2_with fail
      go_ret2
      have hf : Fr [b] w (w0.drewN m1) := FW0.out.drewN m1
      refine ⟨?_, ⟨hlow, [g], ⟨0, .inr ⟨g, cap, cur, H5.out, by simp, hgb, (F5.out.block g (Lib.lt_of_heap H3.out) (by simpa using hgb)).trans H3.out, Nat.zero_le _, hm, hs, rfl⟩⟩, by simpa using HF.out g hgF⟩, ?_, ?_⟩
      · rw [← HN.out]
        rfl
      · refine (D3.out.fr F5.out ?_).mono (grow_le hf.size)
        simp only [List.mem_singleton, forall_eq]
        rintro (h9 | h9)
        · exact hdis b hlow h9
        · have := TH.out.lt
          have h10 : w0.heap.size ≤ b := h9
          omega
      · have k3 : Kp (fun k => ownS k ∨ ownD k) (w0.drewN m1).drew w3 := K3.out.mono fun k hk => .inr hk
        exact ((Kp.of_fr hf.drew (by simpa using .inl (.inl hlow))).trans' k3).trans' (Kp.of_fr F5.out (by simpa using .inl (.inl hlow)))
/-- What pouring leaves. -/
def PouredS (ownS ownD : Nat → Prop) (T : TypeId) (R : Nat → Option Value) (b q : Nat) (bs cs : List UInt8) (b2 : Nat) (w : World) (e : Ending) (w' : World) : Prop :=
  e = .returned (.tuple #[.int .i64 (bs.length : Nat), .nilIface]) ∧ Bo ownS T R b q [] w' ∧ Bl (grow ownD w) b2 (cs ++ bs) w' ∧ Kp (fun k => ownS k ∨ ownD k) w w'
set_option maxRecDepth 100000 in
set_option maxHeartbeats 2000000 in
theorem writeTo_S {ownS ownD : Nat → Prop} {T : TypeId} {R : Nat → Option Value} {b q : Nat} {bs cs : List UInt8} {b2 : Nat} {w : World} (h : Bo ownS T R b q bs w) (hd : Bl ownD b2 cs w) (hdis : ∀ k, ownS k → ¬ ownD k) (hlim : cs.length + bs.length ≤ 100000000) :
    Calls Tryz.prog 149 #[.pointer (some ⟨b, q, none⟩), .iface 125 (.pointer (some ⟨b2, 0, none⟩))] w (PouredS ownS ownD T R b q bs cs b2 w) := by
  have hmf : ∀ (fn : Fn) (first cap : Array Value) (w : World), (Instr.makeFunc fn first cap).run Tryz.prog w = .ok (.func fn first cap) w := fun _ _ _ _ => rfl
  have hna : ∀ (k : Nat) (W : World), (nilAhead (k + 1) 125 (.pointer (some ⟨b2, 0, none⟩)) "Write").run Tryz.prog W = .ok (some false) W := fun k W => by kernel_rfl
  obtain ⟨F, hb, hF⟩ := h.is
  have hlow := h.low
  have c2 := hb.last
  obtain ⟨lr0, c2, f2⟩ := c2
  obtain ⟨w0, hw0⟩ : ∃ w0, w0 = w.setCell ⟨b, q + 2, none⟩ (.int .i8 0) := ⟨_, rfl⟩
  have f0 : Fr [b] w w0 := by rw [hw0]; exact (Fr.refl _ _).setCell (.inl (by simp)) _
  have hb0 : Bf T R b q F bs w0 := by rw [hw0]; exact hb.setLast 0
  have hd0 : Bl ownD b2 cs w0 := hd.fr f0 (by simpa using hdis b hlow)
  have LEN := Lib.hid (buf_Len T R b q F bs w0 hb0)
  have HW0 := Lib.hid hw0
  have FW0 := Lib.hid f0
  have HF := Lib.hid hF
  clear hb hd h
  obtain ⟨lr, ⟨rfl, th⟩ | ⟨g, cap, cur, th, hgF, hgb, hh, hl, hm, hs, ht⟩⟩ := hb0
  · have RES := Lib.hid (fun n => three_Reset0 T R b q 0 lr (w0.drewN n) (th.of_heap rfl))
    have HD := Lib.hid hd0
    clear f0 hw0 th hd0
    go_enter Tryz.func149, Tryz.ntmps149
    go_wp2_with fail
    rw [← HW0.out]
    refine LEN.out.mono ?_
    rintro e w1 ⟨rfl, n1, rfl⟩
    go_wp2_with fail
    refine (RES.out n1).mono ?_
    rintro e w2 ⟨rfl, r1, r2⟩
    go_wp2_with fail
    go_ret2
    have f2' : Fr [b] w0 w2 := ((Fr.refl _ _).drewN n1).trans1 r2
    refine ⟨rfl, ⟨hlow, [], ⟨0, .inl ⟨rfl, r1⟩⟩, by simp⟩, by rw [List.append_nil]; exact (HD.out.fr f2' (by simpa using hdis b hlow)).mono (grow_of _ _), Kp.of_fr (FW0.out.trans1 f2') (by simpa using .inl (.inl hlow))⟩
  · have hcl : cap ≤ 9223372036854775807 := by unfold maxLen at hm; omega
    have hgD : ¬ ownD g := hdis g (hF g hgF)
    by_cases h0 : bs.length = 0
    · obtain rfl : bs = [] := List.eq_nil_of_length_eq_zero h0
      have RES := Lib.hid (fun n => three_Reset T R b q g 0 cap 0 lr (w0.drewN n) (th.of_heap rfl))
      have HD := Lib.hid hd0
      have HH := Lib.hid hh
      clear f0 hw0 th hd0 hh
      go_enter Tryz.func149, Tryz.ntmps149
      go_wp2_with fail
      rw [← HW0.out]
      refine LEN.out.mono ?_
      rintro e w1 ⟨rfl, n1, rfl⟩
      go_wp2_with fail
      refine (RES.out n1).mono ?_
      rintro e w2 ⟨rfl, r1, r2⟩
      go_wp2_with fail
      go_ret2
      have f2' : Fr [b] w0 w2 := ((Fr.refl _ _).drewN n1).trans1 r2
      refine ⟨rfl, ⟨hlow, [g], ⟨0, .inr ⟨g, cap, cur, r1, by simp, hgb, (f2'.block g (Lib.lt_of_heap HH.out) (by simpa using hgb)).trans HH.out, Nat.zero_le _, hm, hs, rfl⟩⟩, by simpa using HF.out g hgF⟩, by rw [List.append_nil]; exact (HD.out.fr f2' (by simpa using hdis b hlow)).mono (grow_of _ _), Kp.of_fr (FW0.out.trans1 f2') (by simpa using .inl (.inl hlow))⟩
    · obtain ⟨n, hn⟩ : ∃ n, n = bs.length := ⟨_, rfl⟩
      rw [← hn] at h0 hl LEN th
      have c0 := th.c0
      have c1 := th.c1
      have g0 := th.f q
      have g1 := th.f (q + 1)
      have n0 : (0 : Int) < n := by omega
      have n1' : (n : Int) ≤ cap := by omega
      have n2 : (n : Int) ≤ 100000000 := by omega
      have HN := Lib.hid hn
      have HD := Lib.hid hd0
      have HH := Lib.hid hh
      have TH := Lib.hid th
      have WR := Lib.hid (fun k => bl_Write (w := (w0.drewN k).drew) (hd0.here (below_drewN (Below.refl _ _) (k + 1))) bs ⟨g, 0, none⟩ n cap hn.symm hgD (src_row hh ht (k + 1)) (by omega))
      clear hw0 th hd0 hh hn
      go_enter Tryz.func149, Tryz.ntmps149
      go_wp2_with fail
      rw [← HW0.out]
      refine LEN.out.mono ?_
      rintro e w1 ⟨rfl, m1, rfl⟩
      go_wp2_with fail
      go_region_held3 (fun W => W.cell? ⟨b, q, none⟩ = some (.slice (some ⟨g, 0, none⟩) n cap) ∧ W.cell? ⟨b, q + 1, none⟩ = some (.int .i64 0)) (first | exact ⟨c0, c1⟩ | exact ⟨T3.out.c0, T3.out.c1⟩ | go_keep)
        (first | (go_at_call 156; refine (WR.out m1).mono ?_; intro e w3 hp; obtain ⟨rfl, d3, k3⟩ := hp; have T3 := Lib.hid (TH.out.of_heap (k3.block b TH.out.lt (hdis b hlow))); have H3 := Lib.hid ((k3.block g (Lib.lt_of_heap HH.out) hgD).trans HH.out); have D3 := Lib.hid d3; have K3 := Lib.hid k3; have e1 := T3.out.c1; have e2 := T3.out.f (q + 1); clear d3 k3))
      clear c0 c1 g0 g1 WR c2 f2
      go_wp2_with fail
      clear e1 e2
      obtain ⟨w4, hw4⟩ : ∃ w4, w4 = w3.setCell ⟨b, q + 1, none⟩ (.int .i64 n) := ⟨_, rfl⟩
      have T4 := T3.out.set1 (.int .i64 n)
      rw [← hw4] at T4 ⊢
      refine (three_Reset T R b q g n cap n lr w4 T4).mono ?_
      rintro e w5 ⟨rfl, r1, r2⟩
      have H5 := Lib.hid r1
      have F5 := Lib.hid (show Fr [b] w3 w5 from ((Fr.refl _ _).setCell (p := ⟨b, q + 1, none⟩) (.inl (by simp)) (.int .i64 n)).trans1 (by rw [← hw4]; exact r2))
      clear r1 r2 T4 hw4
      go_wp2_with fail
      go_ret2
      have hf : Fr [b] w (w0.drewN m1) := FW0.out.drewN m1
      refine ⟨?_, ⟨hlow, [g], ⟨0, .inr ⟨g, cap, cur, H5.out, by simp, hgb, (F5.out.block g (Lib.lt_of_heap H3.out) (by simpa using hgb)).trans H3.out, Nat.zero_le _, hm, hs, rfl⟩⟩, by simpa using HF.out g hgF⟩, ?_, ?_⟩
      · rw [← HN.out]
        rfl
      · refine (D3.out.fr F5.out ?_).mono (grow_le hf.size)
        simp only [List.mem_singleton, forall_eq]
        rintro (h9 | h9)
        · exact hdis b hlow h9
        · have := TH.out.lt
          have h10 : w0.heap.size ≤ b := h9
          omega
      · have k3 : Kp (fun k => ownS k ∨ ownD k) (w0.drewN m1).drew w3 := K3.out.mono fun k hk => .inr hk
        exact ((Kp.of_fr hf.drew (by simpa using .inl (.inl hlow))).trans' k3).trans' (Kp.of_fr F5.out (by simpa using .inl (.inl hlow)))
set_option maxRecDepth 100000 in
theorem copyBuffer_B {ownS ownD : Nat → Prop} {T : TypeId} {R : Nat → Option Value} {b q : Nat} {bs cs : List UInt8} {T2 : TypeId} {R2 : Nat → Option Value} {b2 : Nat} {w : World} (h : Bo ownS T R b q bs w) (hd : Bo ownD T2 R2 b2 0 cs w) (hdis : ∀ k, ownS k → ¬ ownD k) (hlim : cs.length + bs.length ≤ 100000000) :
    Calls Tryz.prog 97 #[.iface 69 (.pointer (some ⟨b2, 0, none⟩)), .iface 69 (.pointer (some ⟨b, q, none⟩)), .slice none 0 0] w (PouredB ownS ownD T R b q bs cs T2 R2 b2 w) := by
  have hta : ∀ W : World, (Instr.typeAssert (.iface 69 (.pointer (some ⟨b, q, none⟩))) 172 201 true).run Tryz.prog W = .ok (.tuple #[.iface 69 (.pointer (some ⟨b, q, none⟩)), .bool true]) W := fun W => by kernel_rfl
  have HC := Lib.hid (writeTo_B h hd hdis hlim)
  clear h hd
  go_enter Tryz.func97, Tryz.ntmps97
  go_wp2_with fail
  refine HC.out.mono ?_
  rintro e w1 ⟨rfl, h1, h2, h3⟩
  have H1 := Lib.hid h1
  have H2 := Lib.hid h2
  have H3 := Lib.hid h3
  clear h1 h2 h3
  go_wp2_with fail
  go_ret2
  exact ⟨rfl, H1.out, H2.out, H3.out⟩
theorem copy_B {ownS ownD : Nat → Prop} {T : TypeId} {R : Nat → Option Value} {b q : Nat} {bs cs : List UInt8} {T2 : TypeId} {R2 : Nat → Option Value} {b2 : Nat} {w : World} (h : Bo ownS T R b q bs w) (hd : Bo ownD T2 R2 b2 0 cs w) (hdis : ∀ k, ownS k → ¬ ownD k) (hlim : cs.length + bs.length ≤ 100000000) :
    Calls Tryz.prog 62 #[.iface 69 (.pointer (some ⟨b2, 0, none⟩)), .iface 69 (.pointer (some ⟨b, q, none⟩))] w (PouredB ownS ownD T R b q bs cs T2 R2 b2 w) := by
  have HC := Lib.hid (copyBuffer_B h hd hdis hlim)
  clear h hd
  go_enter Tryz.func62, Tryz.ntmps62
  go_wp2_with fail
  refine HC.out.mono ?_
  rintro e w1 ⟨rfl, h1, h2, h3⟩
  have H1 := Lib.hid h1
  have H2 := Lib.hid h2
  have H3 := Lib.hid h3
  clear h1 h2 h3
  go_wp2_with fail
  go_ret2
  exact ⟨rfl, H1.out, H2.out, H3.out⟩
set_option maxRecDepth 100000 in
theorem copyBuffer_S {ownS ownD : Nat → Prop} {T : TypeId} {R : Nat → Option Value} {b q : Nat} {bs cs : List UInt8} {b2 : Nat} {w : World} (h : Bo ownS T R b q bs w) (hd : Bl ownD b2 cs w) (hdis : ∀ k, ownS k → ¬ ownD k) (hlim : cs.length + bs.length ≤ 100000000) :
    Calls Tryz.prog 97 #[.iface 125 (.pointer (some ⟨b2, 0, none⟩)), .iface 69 (.pointer (some ⟨b, q, none⟩)), .slice none 0 0] w (PouredS ownS ownD T R b q bs cs b2 w) := by
  have hta : ∀ W : World, (Instr.typeAssert (.iface 69 (.pointer (some ⟨b, q, none⟩))) 172 201 true).run Tryz.prog W = .ok (.tuple #[.iface 69 (.pointer (some ⟨b, q, none⟩)), .bool true]) W := fun W => by kernel_rfl
  have HC := Lib.hid (writeTo_S h hd hdis hlim)
  clear h hd
  go_enter Tryz.func97, Tryz.ntmps97
  go_wp2_with fail
  refine HC.out.mono ?_
  rintro e w1 ⟨rfl, h1, h2, h3⟩
  have H1 := Lib.hid h1
  have H2 := Lib.hid h2
  have H3 := Lib.hid h3
  clear h1 h2 h3
  go_wp2_with fail
  go_ret2
  exact ⟨rfl, H1.out, H2.out, H3.out⟩
theorem copy_S {ownS ownD : Nat → Prop} {T : TypeId} {R : Nat → Option Value} {b q : Nat} {bs cs : List UInt8} {b2 : Nat} {w : World} (h : Bo ownS T R b q bs w) (hd : Bl ownD b2 cs w) (hdis : ∀ k, ownS k → ¬ ownD k) (hlim : cs.length + bs.length ≤ 100000000) :
    Calls Tryz.prog 62 #[.iface 125 (.pointer (some ⟨b2, 0, none⟩)), .iface 69 (.pointer (some ⟨b, q, none⟩))] w (PouredS ownS ownD T R b q bs cs b2 w) := by
  have HC := Lib.hid (copyBuffer_S h hd hdis hlim)
  clear h hd
  go_enter Tryz.func62, Tryz.ntmps62
  go_wp2_with fail
  refine HC.out.mono ?_
  rintro e w1 ⟨rfl, h1, h2, h3⟩
  have H1 := Lib.hid h1
  have H2 := Lib.hid h2
  have H3 := Lib.hid h3
  clear h1 h2 h3
  go_wp2_with fail
  go_ret2
  exact ⟨rfl, H1.out, H2.out, H3.out⟩
end Go.Proofs.YtedjadicdodahaaGreatDoor

namespace Go.Proofs.YtedjadicdodahaaGreatDoor
open Go.RowKit Go.Maps

theorem Kp.freeze {own : Nat → Prop} {a w : World} (h : Kp own a w) {p : Addr} (hp : own p.block ∨ a.heap.size ≤ p.block) (n : Nat) : Kp own a (w.freeze p n) := by
  have hb := Lib.below_freeze (B := 0) (Below.refl 0 w) (p := p) (Nat.zero_le _) n
  refine ⟨hb.os.trans h.os, hb.tape.trans h.tape, hb.output.trans h.output, Nat.le_trans h.size hb.size, fun k hk hn => ?_⟩
  have hne : k ≠ p.block := by
    rintro rfl
    rcases hp with hp | hp
    · exact hn hp
    · omega
  rw [← h.block k hk hn]
  unfold World.freeze
  split
  · rfl
  · simp [Array.getElem?_modify, Ne.symm hne]
set_option maxRecDepth 100000 in
set_option maxHeartbeats 2000000 in
theorem bl_String {own : Nat → Prop} {b : Nat} {l : List UInt8} {w : World} (h : Bl own b l w) (h0 : l ≠ []) : Calls Tryz.prog 63 #[.pointer (some ⟨b, 0, none⟩)] w fun e w' => e = .returned (.string ⟨l.toArray⟩) ∧ Kp own w w' := by
  obtain ⟨ad, v, hb, _, hr⟩ := h.is
  obtain ⟨A0, C0, rfl, _⟩ := own_slice hr.row
  have hl : 0 < l.length := List.length_pos_iff.2 h0
  obtain ⟨g, rfl, hog, htg, hnc, hcm, hcl⟩ := hr.at (by rw [byteCells_length]; exact hl)
  have c1 : w.drew.cell? ⟨b, 1, none⟩ = some (.slice (some ⟨g, 0, none⟩) l.length C0) := hb.drew.cell 1
  have hSD : (Builtin.unsafeSliceData_ #[70] 174 #[.slice (some ⟨g, 0, none⟩) l.length C0]).run Tryz.prog w.drew = .ok (.pointer (some ⟨g, 0, none⟩)) w.drew :=
    Lib.run_unsafeSliceData_row _ _ _ _ _ _ (by omega)
  obtain ⟨cur, hsz, hh⟩ : ∃ cur : Array Value, l.length ≤ cur.size ∧ w.heap[g]? = some (.cells cur 5 (0, 0)) := by
    rcases hr.row.2 with ⟨hv, _⟩ | ⟨g', cap, cur, hv, _, hh, hn, _, hcs, _⟩
    · simp at hv
    · simp only [Value.slice.injEq, Option.some.injEq, Addr.mk.injEq, and_true, true_and] at hv
      obtain ⟨rfl, rfl⟩ := hv
      exact ⟨cur, by omega, hh⟩
  have hUS : (Builtin.unsafeString_ #[174, 3] 9 #[.pointer (some ⟨g, 0, none⟩), .int .i64 l.length]).run Tryz.prog w.drew = .ok (.string ⟨l.toArray⟩) (w.drew.freeze ⟨g, 0, none⟩ l.length) := by
    refine Lib.run_unsafeString_row w.drew 174 3 9 5 Tryz.underlying174 (by kernel_rfl) g cur.size (by have hg' : w.drew.heap[g]? = some (.cells cur 5 (0, 0)) := hh; simp [World.shape?, hg']) l h0 hsz (by unfold maxLen at hcm; omega) ?_
    intro j x hx
    have h9 := (hcl j (by rw [byteCells_length]; exact (List.getElem?_eq_some_iff.1 hx).1)).1
    show w.cell? _ = _
    rw [Lib.addr_add, Nat.zero_add, h9]
    simp [Lib.byteCells, hx]
  clear h hb hr htg hcl hh
  go_enter Tryz.func63, Tryz.ntmps63
  go_wp2
  go_region
  all_goals (go_wp2; go_ret; exact ⟨rfl, ((Kp.refl own w).drewN 1).freeze (p := ⟨g, 0, none⟩) (.inl hog) _⟩)
end Go.Proofs.YtedjadicdodahaaGreatDoor
