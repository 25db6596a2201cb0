/- A package of strings alone, written. -/
import Derived.Test.YtedjadicdodahaaDoorPs
import Derived.Test.YtedjadicdodahaaDoorQPh
namespace Go.Proofs.YtedjadicdodahaaDoor
open Go.RowKit Go.Maps

/-- A package of strings. -/
def sp (l : List ByteArray) : Pk := fun k => if k = 0 then distinct l else []
theorem sp_snoc (l : List ByteArray) (t : ByteArray) : withT (sp l) t = sp (l ++ [t]) := by
  funext k
  unfold withT sp
  by_cases h : k = 0
  · rw [if_pos h, if_pos rfl, if_pos h, distinct_snoc]
  · rw [if_neg h, if_neg h, if_neg h]
theorem sp_elems (l : List ByteArray) : (sp l).elems 10 = distinct l := by
  simp only [Pk.elems_succ]
  simp [sp, Pk.elems, Pk.secs]
theorem sp_upto (l : List ByteArray) : ∀ i, 1 ≤ i → (sp l).elems i = distinct l
  | 0, h => by omega
  | 1, _ => by rw [Pk.elems_succ]; simp [sp, Pk.elems, Pk.secs]
  | i + 2, _ => by
    rw [Pk.elems_succ, sp_upto l (i + 1) (by omega)]
    simp [sp]
/-- The index that each text is told. -/
def ixs (l : List ByteArray) : List Int := (List.range l.length).map fun i => (idx (distinct (l.take i)) (l[i]?.getD ⟨#[]⟩) : Int)
theorem ixs_len (l : List ByteArray) : (ixs l).length = l.length := by simp [ixs]
theorem ixs_snoc (l : List ByteArray) (t : ByteArray) : ixs (l ++ [t]) = ixs l ++ [(idx (distinct l) t : Int)] := by
  unfold ixs
  rw [List.length_append, List.length_singleton, List.range_succ, List.map_append]
  congr 1
  · apply List.map_congr_left
    intro i hi
    rw [List.mem_range] at hi
    rw [List.take_append_of_le_length (by omega), List.getElem?_append_left hi]
  · simp
def strS (K : List Int) (l : List ByteArray) : ByteArray := str ((sp l).body 2 false ++ fpL K (q3 2 false (sp l) ((sp l).elems 10)))
/-- What Strings leaves. -/
def StrOut (K : List Int) (l : List ByteArray) (w : World) (e : Ending) (w' : World) : Prop :=
  ∃ (Ai : Option Addr) (ci : Nat), e = .returned (.tuple #[.string (strS K l), .slice Ai l.length ci]) ∧ l.length ≤ ci ∧ SlV w' Ai ((ixs l).map (Value.int .i64)) ∧ Below w.heap.size w w'
/-- What stands beside the encoder: the indices. -/
structure Bx (oP : Nat → Prop) (B : Nat) (vi : Value) (ix : List Int) (w0 w : World) : Prop where
  own : ∀ k, oP k → B ≤ k ∧ k < w.heap.size
  ri : Row (fun k => B ≤ k ∧ ¬ oP k) 2 1 vi ix.length (ix.map (Value.int .i64)) w
  be : Below B w0 w
  sz : B ≤ w.heap.size
theorem Bx.kp {oP : Nat → Prop} {B : Nat} {vi : Value} {ix : List Int} {w0 w w' : World} (h : Bx oP B vi ix w0 w) (q : Kp oP w w') : Bx (onw oP w w') B vi ix w0 w' := by
  have hn : ∀ k, k < w.heap.size → ¬ oP k → ¬ onw oP w w' k := fun k hk hn hg => by
    rcases hg.1 with h1 | h1
    · exact hn h1
    · omega
  refine ⟨fun k hk => ⟨?_, hk.2⟩, ?_, q.below h.be (fun k hk => (h.own k hk).1) h.sz, Nat.le_trans h.sz q.size⟩
  · rcases hk.1 with h1 | h1
    · exact (h.own k h1).1
    · have := h.sz
      omega
  · have h1 := h.ri.own2 (own2 := fun k => B ≤ k ∧ ¬ onw oP w w' k) (fun k hk hl => ⟨hk.1, hn k hl hk.2⟩)
    have h2 := h.ri.kp q (fun g hg => hg.2)
    exact ⟨h2.row, h1.own⟩
theorem Bx.here {oP : Nat → Prop} {B : Nat} {vi : Value} {ix : List Int} {w0 w w' : World} (h : Bx oP B vi ix w0 w) (q : Below w.heap.size w w') : Bx oP B vi ix w0 w' :=
  ⟨fun k hk => ⟨(h.own k hk).1, Nat.lt_of_lt_of_le (h.own k hk).2 q.size⟩, h.ri.here q, h.be.trans (q.mono h.sz), Nat.le_trans h.sz q.size⟩
theorem distinct_mem {l : List ByteArray} {t : ByteArray} : t ∈ distinct l → t ∈ l := by
  have h : ∀ (l d : List ByteArray), t ∈ l.foldl put d → t ∈ d ∨ t ∈ l := fun l => by
    induction l with
    | nil => intro d h; exact .inl h
    | cons x l ih =>
      intro d h
      rcases ih (put d x) h with h1 | h1
      · unfold put at h1
        split at h1
        · exact .inl h1
        · rcases List.mem_append.1 h1 with h2 | h2
          · exact .inl h2
          · exact .inr (by rw [List.mem_singleton.1 h2]; simp)
      · exact .inr (by simp [h1])
  intro h1
  rcases h l [] h1 with h2 | h2
  · simp at h2
  · exact h2
set_option maxRecDepth 100000 in
set_option maxHeartbeats 4000000 in
theorem strings_any {K : List Int} (A : Option Addr) (C : Nat) (l : List ByteArray) (u : World) (hG : Gl K u) (hs : SlR 1 u A (l.map strCells)) (hl : l.length ≤ 20) (ht : ∀ t ∈ l, t.size ≤ 200) :
    Calls Tryd.prog 7 #[.slice A l.length C] u (StrOut K l u) := by
  obtain ⟨n, hn⟩ : ∃ n, n = l.length := ⟨_, rfl⟩
  have HN := Lib.hid hn
  have HG := Lib.hid hG
  have HS := Lib.hid hs
  have HT := Lib.hid ht
  obtain ⟨PO, hPO⟩ : ∃ PO, PO = StrOut K l u := ⟨_, rfl⟩
  have HPQ := Lib.hid hPO
  rw [← hPO]
  rw [← hn] at hl ⊢
  obtain ⟨i0, hj0, jz0, jz1, jz2⟩ := info_parts Tryd.infoI64
  clear hG hs ht hn hPO
  go_enter Tryd.func7, Tryd.ntmps7
  go_wp2_with fail
  refine (newPkgEncoder_any 2 (-1) _).mono ?_
  rintro e w2 ⟨mb, rfl, hmb, map2, b2⟩
  have B2 := Lib.hid b2
  have MB := Lib.hid hmb
  have M2 := Lib.hid map2
  have z2 : u.heap.size ≤ w2.heap.size := b2.size
  clear hmb map2 b2
  go_wp2_with fail
  obtain ⟨w3, hw3⟩ : ∃ w3, w3 = (w2.alloc (.cells (pkArr 2 (fun _ => .slice none 0 0) mb (-1)) 38)).alloc (.cells #[] 2) := ⟨_, rfl⟩
  obtain ⟨pb, hpb⟩ : ∃ pb, pb = w2.heap.size := ⟨_, rfl⟩
  obtain ⟨ob, hob⟩ : ∃ ob, ob = pb + 1 := ⟨_, rfl⟩
  rw [← hw3, ← hpb, ← hob]
  have mlt := M2.out.lt
  have st3 : PkSt (fun k => k = pb ∨ k = mb) pb mb 2 (-1) (sp []) w3 := by
    refine ⟨⟨.inl rfl, .inr rfl⟩, ⟨fun _ => .slice none 0 0, ?_, fun k _ => ?_, fun j k _ _ _ g h => by simp [Value.ownBlock] at h⟩, ?_⟩
    · rw [hw3, hpb]
      exact (Blk.new _ _ _).alloc _
    · have h1 : sp [] k = [] := by unfold sp; split <;> rfl
      rw [h1]
      exact Row.nil _ _ _ _
    · rw [hw3]
      exact (M2.out.here (Below.alloc (Below.alloc (Below.refl _ _) (Nat.le_refl _) _) (by simp) _)).ext (fun s => rfl)
  have bs3 : Bx (fun k => k = pb ∨ k = mb) u.heap.size (.slice (some ⟨ob, 0, none⟩) 0 0) [] u w3 := by
    have hz : w3.heap.size = w2.heap.size + 2 := by rw [hw3]; simp
    refine ⟨fun k hk => ?_, ?_, ?_, by omega⟩
    · rcases hk with rfl | rfl
      · omega
      · exact ⟨MB.out, by omega⟩
    · have h1 := row_empty (w2.alloc (.cells (pkArr 2 (fun _ => .slice none 0 0) mb (-1)) 38)) 2
      rw [World.size_alloc, ← hpb, ← hob, ← hw3] at h1
      exact h1.own2 (fun k hk _ => ⟨by omega, fun e => by rcases e with e | e <;> omega⟩)
    · rw [hw3]
      exact Below.alloc (Below.alloc B2.out z2 _) (by simp; omega) _
  have ST3 := Lib.hid st3
  have BS3 := Lib.hid bs3
  clear st3 bs3 mlt hw3 hpb hob M2 MB B2 z2
  go_loopw [5, 7, 13] (fun vi _ x wr => ∃ i : Nat, i ≤ n ∧ x = .int .i64 i ∧ ∃ (oP : Nat → Prop), PkSt oP pb mb 2 (-1) (sp (l.take i)) wr ∧ Bx oP u.heap.size vi (ixs (l.take i)) u wr) (fun _ _ x _ => n - (intOf x).toNat)
  case atStart => exact ⟨0, by omega, rfl, _, ST3.out, BS3.out⟩
  case round =>
    obtain ⟨i, hi, rfl, oP, st, bs⟩ := hrel
    clear ST3 BS3
    by_cases hlt : i < n
    · have hil : i < l.length := by rw [← HN.out]; exact hlt
      obtain ⟨g, o, rfl, hc⟩ := SlR.at_ (HS.out.here bs.be) i hil
      have r0 := hc 0 _ rfl
      rw [Nat.add_zero, Nat.mul_one] at r0
      have ht := HT.out l[i] (List.getElem_mem hil)
      have HSN := Lib.hid (show sp (l.take (i + 1)) = withT (sp (l.take i)) l[i] from by rw [List.take_succ_eq_append_getElem hil, sp_snoc])
      have HIN := Lib.hid (show ixs (l.take (i + 1)) = ixs (l.take i) ++ [(idx (distinct (l.take i)) l[i] : Int)] from by rw [List.take_succ_eq_append_getElem hil, ixs_snoc])
      obtain ⟨A0, C0, rfl, hmc⟩ := own_slice bs.ri.row
      obtain ⟨X, hX⟩ : ∃ X, X = ixs (l.take i) := ⟨_, rfl⟩
      have hXl : X.length ≤ 20 := by
        rw [hX, ixs_len, List.length_take]
        omega
      rw [← hX] at bs HIN hmc ⊢
      have hdl : (distinct (l.take i)).length ≤ 20 := Nat.le_trans (distinct_len _) (by rw [List.length_take]; omega)
      obtain ⟨y, hy⟩ : ∃ y, y = idx (distinct (l.take i)) l[i] := ⟨_, rfl⟩
      have hy20 : y ≤ 20 := by rw [hy]; exact Nat.le_trans (idx_le _ _) hdl
      have SI := Lib.hid (show Calls Tryd.prog 15 #[.pointer (some ⟨pb, 0, none⟩), .string l[i]] wr (PkMet oP pb mb 2 (-1) (withT (sp (l.take i)) l[i]) wr (.int .i32 y)) from by
        have h := stringIdx_any st l[i] (by omega) (show (sp (l.take i) 0).length ≤ 1000000 from by show (distinct (l.take i)).length ≤ _; omega)
        rw [hy]
        exact h)
      rw [← hy] at HIN
      have BSH := Lib.hid bs
      have y0 : (0 : Int) ≤ y := by omega
      have y1 : (y : Int) ≤ 20 := by omega
      have yw : IntKind.i64.wrap (y : Int) = y := by rw [IntKind.wrap_i64]; omega
      have O1 := Lib.hid (show ∀ u ∈ ([.int .i64 y] : List Value), u.oneCell' = true from by simp [Value.oneCell'])
      have O2 := Lib.hid (show X.length + 1 ≤ maxLen from by unfold maxLen; omega)
      have O3 := Lib.hid (show (X.length + 1) * 8 ≤ 140737488355328 from by omega)
      clear st bs hc hX hy hdl
      generalize l[i] = t at *
      go_upto_region 6 with fail
      go_wp2_with (first
        | (go_at_call 15; refine SI.out.mono ?_; intro d w9 hm9; obtain rfl := hm9.ret; have ST9 := Lib.hid hm9.st.onw; have BS9 := Lib.hid (BSH.out.kp hm9.kp); have BA := Lib.hid (BS9.out.here (w' := w9.alloc (.cells #[.int .i64 y] 2)) (Below.alloc (Below.refl _ _) (Nat.le_refl _) _)); have SA := Lib.hid (ST9.out.here (w' := w9.alloc (.cells #[.int .i64 y] 2)) (Below.alloc (Below.refl _ _) (Nat.le_refl _) _)); clear hm9)
        | (refine wpList_append_row (by rfl) _ _ 24 (by rfl) (fun q => u.heap.size ≤ q ∧ ¬ onw oP wr w9 q) 2 i0 _ 1 8 Tryd.underlying24 hj0 jz0 jz1 jz2 (by rfl) (by decide) (.slice A0 X.length C0) X.length _ (by rfl) BA.out.ri _ 1 1 [.int .i64 y] (by rfl) rfl (src_new w9 2 #[.int .i64 y] [.int .i64 y] rfl 1 _ (Below.refl _ _)) O1.out O2.out O3.out ?_; intro A2 C2 w10 hown2 hgrow2 hnew2))
      have k10 : Kp (fun k => u.heap.size ≤ k ∧ ¬ onw oP wr w9 k) (w9.alloc (.cells #[.int .i64 y] 2)) w10 := (Kp.refl _ _).grown hgrow2 (fun q hq => .inl (BA.out.ri.own q hq))
      have ST10 := Lib.hid (show PkSt (onw oP wr w9) pb mb 2 (-1) (sp (l.take (i + 1))) w10 from by
        rw [HSN.out]
        exact SA.out.kp k10 (fun g hg hg2 => hg2.2 hg))
      have BX10 := Lib.hid (show Bx (onw oP wr w9) u.heap.size (.slice A2 (X.length + 1) C2) (ixs (l.take (i + 1))) u w10 from by
        rw [HIN.out]
        refine ⟨fun k hk => ⟨(BA.out.own k hk).1, Nat.lt_of_lt_of_le (BA.out.own k hk).2 k10.size⟩, ?_, k10.below BA.out.be (fun k hk => hk.1) BA.out.sz, Nat.le_trans BA.out.sz k10.size⟩
        have h9 := hown2.own2 (own2 := fun q => u.heap.size ≤ q ∧ ¬ onw oP wr w9 q) (fun q hq _ => by
          rcases hq with hq | hq
          · exact hq
          · exact ⟨Nat.le_trans BA.out.sz hq, fun hp => by have := (BA.out.own q hp).2; omega⟩)
        rw [List.length_append, List.length_singleton, List.map_append]
        exact h9)
      clear k10 hown2 hgrow2 hnew2
      go_roundw
      case rel => exact ⟨i + 1, by omega, by go_num, _, ST10.out, BX10.out⟩
      case measure => simp [intOf]; omega
    · obtain rfl : i = n := by omega
      have htk : l.take i = l := List.take_of_length_le (by rw [← HN.out]; exact Nat.le_refl _)
      rw [htk] at st bs
      obtain ⟨w6, rfl⟩ : ∃ w6 : World, w6 = wr := ⟨_, rfl⟩
      obtain ⟨Ai, ci, rfl, hci, sli⟩ := bs.ri.sl
      obtain ⟨w7, hw7⟩ : ∃ w7, w7 = w6.alloc (.cells bufZ 47) := ⟨_, rfl⟩
      have b7 : Below w6.heap.size w6 w7 := by rw [hw7]; exact Below.alloc (Below.refl _ _) (Nat.le_refl _) _
      have k7 : Blk w7 w6.heap.size 47 bufZ := by rw [hw7]; exact Blk.new _ _ _
      have z7 : w7.heap.size = w6.heap.size + 1 := by rw [hw7]; simp
      have B7 := Lib.hid (bs.here b7)
      have bo7 : Bo (fun g => g = w6.heap.size) 47 (fun _ => none) w6.heap.size 0 [] w7 := ⟨rfl, [], ⟨0, .inl ⟨rfl, LibA.three_whole k7⟩⟩, by simp⟩
      have g7 := HG.out.here (B7.out.be)
      have gl := HG.out.lt
      have hws : u.heap.size ≤ w6.heap.size := bs.sz
      have hln : (distinct l).length ≤ 20 := Nat.le_trans (distinct_len _) (by rw [← HN.out]; exact hl)
      have DT := Lib.hid (dumpTo_any (own := oP) (w := w7) (K := K) (v := 2) (s := false) (p := sp l) (st.here b7) bo7 (fun q hq e => by have := (bs.own q hq).2; omega) (fun q hq => by omega) (fun q hq => by have := (bs.own q hq).2; omega) g7.len g7.k (fun e => by omega) g7.i g7.r (fun e => by omega) (fun e => by omega) (by omega) (by rw [sp_elems]; omega) (by
        rw [sp_elems]
        have h1 := szs_le (distinct l) 200 (fun t ht => HT.out t (distinct_mem ht))
        omega))
      have HW7 := Lib.hid hw7
      have b7B := b7
      have BSS := Lib.hid bs
      have SLI := Lib.hid sli
      clear st bs sli bo7 g7 gl hw7 k7
      go_wp2_with fail
      rw [← HW7.out]
      refine DT.out.mono ?_
      rintro e w8 ⟨rfl, bo8, k8⟩
      have b8 : Below w6.heap.size w6 w8 := k8.below b7B (fun q hq => by omega) (by omega)
      have BS8 := Lib.hid (BSS.out.here b8)
      have SI8 := Lib.hid (SLI.out.here b8)
      obtain ⟨F, bf8, _⟩ := bo8.is
      have STR := Lib.hid (buf_String _ _ _ _ _ _ _ bf8)
      clear bo8 k8 b8 DT bf8
      go_wp2_with fail
      refine STR.out.mono ?_
      rintro e w9 ⟨rfl, n9, rfl⟩
      have IL := Lib.hid (ixs_len l)
      go_wp2_with fail
      rw [HPQ.out]
      exact ⟨Ai, ci, by show Ending.returned (.tuple #[.string (strS K l), .slice Ai (ixs l).length ci]) = _; rw [IL.out], by rw [← IL.out]; exact hci, SI8.out.here (below_drewN (Below.refl _ _) n9), below_drewN BS8.out.be n9⟩
end Go.Proofs.YtedjadicdodahaaDoor
