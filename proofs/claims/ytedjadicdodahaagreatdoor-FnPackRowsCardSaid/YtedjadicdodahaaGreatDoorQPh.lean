/- Places, distinct texts, texts of elements, how many elements a section has. -/
import Derived.Test.YtedjadicdodahaaGreatDoorQPa
import Derived.Test.YtedjadicdodahaaGreatDoorPf
import Derived.BigQuiet
namespace Go.Proofs.YtedjadicdodahaaGreatDoor
open Go.RowKit Go.Maps

def placeI {α : Type} [DecidableEq α] (xs : List α) (t : α) : Int := if t ∈ xs then (idx xs t : Nat) else -1
theorem idx_first {α : Type} [DecidableEq α] (xs : List α) (t : α) (k : Nat) (hk : k < xs.length) (h : t ∉ xs.take k) (e : xs[k] = t) : placeI xs t = k := by
  have h0 : xs = xs.take k ++ xs[k] :: xs.drop (k + 1) := by rw [List.getElem_cons_drop, List.take_append_drop]
  have hm : t ∈ xs := by rw [← e]; exact List.getElem_mem hk
  unfold placeI idx
  rw [if_pos hm]
  have h1 : xs.idxOf t = k := by
    conv => lhs; rw [h0]
    rw [List.idxOf_append, if_neg h, e, List.idxOf_cons_self, List.length_take]
    omega
  rw [h1]
theorem placeI_neg {α : Type} [DecidableEq α] (xs : List α) (t : α) : placeI xs t < 0 ↔ t ∉ xs := by
  unfold placeI
  split
  · constructor
    · intro h; omega
    · intro h; exact absurd ‹t ∈ xs› h
  · constructor
    · intro _; assumption
    · intro _; decide
theorem str_eqs (x t : ByteArray) : (x.toList == t.toList) = decide (x = t) := by
  rw [ByteArray.toList_eq, ByteArray.toList_eq, Bool.eq_iff_iff, beq_iff_eq, decide_eq_true_iff]
  constructor
  · intro h
    cases x
    cases t
    simpa using h
  · rintro rfl
    rfl
set_option maxRecDepth 100000 in
set_option maxHeartbeats 1000000 in
theorem placeOf_any (A : Option Addr) (c : Nat) (xs : List ByteArray) (t : ByteArray) (w : World) (hs : SlR 1 w A (xs.map strCells)) (hm : xs.length ≤ maxLen) : Calls Tryz.prog 87 #[.slice A xs.length c, .string t] w (RetV (.int .i64 (placeI xs t)) w) := by
  unfold maxLen at hm
  have n0 : (0 : Int) ≤ xs.length := by omega
  have n1 : (xs.length : Int) ≤ 9223372036854775807 := by omega
  have HS := Lib.hid hs
  clear hs hm
  go_enter Tryz.func87, Tryz.ntmps87
  go_wp2_with fail
  go_loopw [5, 6, 9] (fun _ _ i wr => ∃ k : Nat, k ≤ xs.length ∧ i = .int .i64 k ∧ t ∉ xs.take k ∧ Below w.heap.size w wr) (fun _ _ i _ => xs.length - (intOf i).toNat)
  case atStart => exact ⟨0, by omega, rfl, (by simp), Below.refl _ _⟩
  case round =>
    obtain ⟨k, hk, rfl, hr, hb⟩ := hrel
    have HB := Lib.hid hb
    have HR := Lib.hid hr
    have zb := hb.size
    clear hr
    by_cases hlt : k < xs.length
    · obtain ⟨b, oo, rfl, hc⟩ := SlR.at_ (HS.out.here hb) k hlt
      have TK := Lib.hid (List.take_succ_eq_append_getElem hlt)
      have FI := Lib.hid (idx_first xs t k hlt HR.out)
      have q0 := hc 0 _ rfl
      rw [Nat.add_zero, Nat.mul_one] at q0
      clear hb hc
      generalize xs[k] = x at *
      by_cases hx : x = t
      · go_wp2_with fail
        all_goals first
          | (go_ret; exact ⟨by rw [FI.out hx]; rfl, HB.out⟩)
          | (exfalso; simp_all; done)
      · have hx2 : (x.toList == t.toList) = false := by rw [str_eqs]; exact decide_eq_false hx
        go_wp2_with fail
        go_roundw
        case rel => exact ⟨k + 1, by omega, by go_num, by rw [TK.out]; intro h; exact (List.mem_append.1 h).elim HR.out (fun h => hx (List.mem_singleton.1 h).symm), HB.out⟩
        case measure => simp [intOf]; omega
    · have hkn : k = xs.length := by omega
      have HA := Lib.hid (List.take_of_length_le (Nat.le_of_eq hkn.symm) : xs.take k = xs)
      have HM := Lib.hid (show placeI xs t = -1 from by
        have h9 := HR.out
        rw [HA.out] at h9
        unfold placeI
        rw [if_neg h9])
      go_wp2_with fail
      go_ret
      exact ⟨by rw [HM.out]; rfl, HB.out⟩
theorem SlV.strs {w : World} {A : Option Addr} {xs : List ByteArray} (h : SlV w A (xs.map Value.string)) : SlR 1 w A (xs.map strCells) := fun h0 => by
  obtain ⟨b, o, e, hc⟩ := h (by simpa using h0)
  refine ⟨b, o, e, fun j cs hj i u hu => ?_⟩
  rw [List.getElem?_map] at hj
  obtain ⟨t, ht, rfl⟩ := Option.map_eq_some_iff.1 hj
  match i, hu with
  | 0, hu =>
    obtain rfl : Value.string t = u := Option.some.inj hu
    rw [Nat.mul_one, Nat.add_zero]
    exact hc j _ (by rw [List.getElem?_map, ht]; rfl)
  | i + 1, hu => simp at hu
/-- A slice of texts, new. -/
def RetTexts (xs : List ByteArray) (w : World) (e : Ending) (w' : World) : Prop := ∃ A c, e = .returned (.slice A xs.length c) ∧ xs.length ≤ c ∧ SlR 1 w' A (xs.map strCells) ∧ Below w.heap.size w w'
/-- An empty slice, made. -/
theorem row_empty (w : World) (e : TypeId) : Row (fun q => w.heap.size ≤ q) e 1 (.slice (some ⟨w.heap.size, 0, none⟩) 0 0) 0 [] (w.alloc (.cells #[] e)) :=
  ⟨World.ownsRow_made (base := 0) (e := e) (size := 1) w #[] 0 (Nat.zero_le _) (by simp) (by simp), fun k hk => by
    injection hk with hk
    exact Nat.le_of_eq hk⟩
theorem distinct_snoc (l : List ByteArray) (t : ByteArray) : distinct (l ++ [t]) = put (distinct l) t := by simp [distinct]
theorem distinct_len (l : List ByteArray) : (distinct l).length ≤ l.length := by
  have h : ∀ (l d : List ByteArray), (l.foldl put d).length ≤ d.length + l.length := fun l => by
    induction l with
    | nil => intro d; simp
    | cons t l ih =>
      intro d
      have h1 := ih (put d t)
      have h2 := put_len d t
      rw [List.foldl_cons, List.length_cons]
      omega
  simpa [distinct] using h l []
set_option maxRecDepth 100000 in
set_option maxHeartbeats 1000000 in
theorem distinct_any (A : Option Addr) (c : Nat) (xs : List ByteArray) (w : World) (hs : SlR 1 w A (xs.map strCells)) (hm : xs.length ≤ 1000000) : Calls Tryz.prog 45 #[.slice A xs.length c] w (RetTexts (distinct xs) w) := by
  have n0 : (0 : Int) ≤ xs.length := by omega
  have n1 : (xs.length : Int) ≤ 1000000 := by omega
  have HS := Lib.hid hs
  obtain ⟨i0, hj, jz0, jz1, jz2⟩ := info_parts Tryz.infoStr
  clear hs
  go_enter Tryz.func45, Tryz.ntmps45
  go_wp2_with fail
  obtain ⟨w0, hw0⟩ : ∃ w0, w0 = w.alloc (.cells #[] 9) := ⟨_, rfl⟩
  rw [← hw0]
  have b0 : Below w.heap.size w w0 := by rw [hw0]; exact Below.alloc (Below.refl _ _) (Nat.le_refl _) _
  have r0 : Row (fun q => w.heap.size ≤ q) 9 1 (.slice (some ⟨w.heap.size, 0, none⟩) 0 0) 0 [] w0 := by
    rw [hw0]
    exact row_empty w 9
  have B0 := Lib.hid b0
  have R0 := Lib.hid r0
  clear b0 r0 hw0
  go_loopw [3, 5, 9] (fun v _ i wr => ∃ k : Nat, k ≤ xs.length ∧ i = .int .i64 k ∧ Row (fun q => w.heap.size ≤ q) 9 1 v (distinct (xs.take k)).length ((distinct (xs.take k)).map Value.string) wr ∧ Below w.heap.size w wr) (fun _ _ i _ => xs.length - (intOf i).toNat)
  case atStart => exact ⟨0, by omega, rfl, R0.out, B0.out⟩
  case round =>
    obtain ⟨k, hk, rfl, hr, hb⟩ := hrel
    have HB := Lib.hid hb
    have zb := hb.size
    obtain ⟨A0, C0, rfl, hC, sl⟩ := hr.sl
    have HR := Lib.hid hr
    have SL := Lib.hid sl.strs
    clear hr sl
    by_cases hlt : k < xs.length
    · obtain ⟨b, oo, rfl, hc⟩ := SlR.at_ (HS.out.here hb) k hlt
      have TK := Lib.hid (show distinct (xs.take (k + 1)) = put (distinct (xs.take k)) xs[k] from by rw [List.take_succ_eq_append_getElem hlt, distinct_snoc])
      have hdl : (distinct (xs.take k)).length ≤ k := Nat.le_trans (distinct_len _) (by rw [List.length_take]; omega)
      obtain ⟨D, hD⟩ : ∃ D, D = distinct (xs.take k) := ⟨_, rfl⟩
      rw [← hD] at HR SL TK hdl hC ⊢
      have q0 := hc 0 _ rfl
      rw [Nat.add_zero, Nat.mul_one] at q0
      clear hb hc hD
      generalize xs[k] = x at *
      have PL := Lib.hid (placeOf_any A0 C0 D x wr SL.out (by unfold maxLen; omega))
      go_wp2_with fail
      refine PL.out.mono ?_
      rintro e w2 ⟨rfl, hb2⟩
      have B2 := Lib.hid (below_from HB.out hb2)
      have R2 := Lib.hid (HR.out.here hb2)
      clear hb2 PL
      by_cases hx : x ∈ D
      · have hx2 : ¬ placeI D x < 0 := fun h => (placeI_neg D x).1 h hx
        have HP := Lib.hid (put_of_mem hx)
        go_wp2_with fail
        go_roundw
        case rel => exact ⟨k + 1, by omega, by go_num, by rw [TK.out, HP.out]; exact R2.out, B2.out⟩
        case measure => simp [intOf]; omega
      · have hx2 : placeI D x < 0 := (placeI_neg D x).2 hx
        have HP := Lib.hid (put_of_not hx)
        have z2 : w.heap.size ≤ w2.heap.size := B2.out.size
        have R3 := Lib.hid (R2.out.here (w' := w2.alloc (.cells #[.string x] 9)) (Below.alloc (Below.refl _ _) (Nat.le_refl _) _))
        have B3 := Lib.hid (B2.out.alloc z2 (.cells #[.string x] 9))
        have O1 := Lib.hid (show ∀ u ∈ ([.string x] : List Value), u.oneCell' = true from by simp [Value.oneCell'])
        have O2 := Lib.hid (show D.length + 1 ≤ maxLen from by unfold maxLen; omega)
        have O3 := Lib.hid (show (D.length + 1) * 16 ≤ 140737488355328 from by omega)
        go_wp2_with (refine wpList_append_row (by rfl) _ _ 39 (by rfl) (fun q => w.heap.size ≤ q) 9 i0 _ 1 16 Tryz.underlying39 hj jz0 jz1 jz2 (by rfl) (by decide) (.slice A0 D.length C0) D.length _ (by rfl) R3.out _ 1 1 [.string x] (by rfl) rfl (src_new w2 9 #[.string x] [.string x] rfl 1 _ (Below.refl _ _)) O1.out O2.out O3.out ?_; intro A2 C2 w4 hown2 hgrow2 hnew2)
        have B4 := Lib.hid (B3.out.grown hgrow2 (by simp; omega) (fun q hq => R3.out.own q hq))
        have R4 := Lib.hid (show Row (fun q => w.heap.size ≤ q) 9 1 (.slice A2 (D.length + 1) C2) (D ++ [x]).length ((D ++ [x]).map Value.string) w4 from by
          rw [List.length_append, List.length_singleton, List.map_append]
          exact hown2.own2 (fun q hq _ => hq.elim id (fun h => Nat.le_trans (by simp; omega) h)))
        clear hown2 hgrow2 hnew2
        go_roundw
        case rel => exact ⟨k + 1, by omega, by go_num, by rw [TK.out, HP.out]; exact R4.out, B4.out⟩
        case measure => simp [intOf]; omega
    · have hkn : k = xs.length := by omega
      have HA := Lib.hid (List.take_of_length_le (Nat.le_of_eq hkn.symm) : xs.take k = xs)
      rw [HA.out] at SL hC ⊢
      go_wp2_with fail
      go_ret
      exact ⟨A0, C0, rfl, hC, SL.out, HB.out⟩
theorem bitTexts_len {b : Bt} (h : b.Ok) : (bitTexts b).length ≤ 20 := by
  unfold bitTexts
  split
  · simp
  · split
    · exact h.texts.1
    · simp
theorem bitsTexts_len : ∀ (l : List Bt) (_ : ∀ b ∈ l, b.Ok), (l.flatMap bitTexts).length ≤ 20 * l.length
  | [], _ => Nat.le_refl _
  | b :: l, h => by
    have h1 := bitsTexts_len l (fun y hy => h y (by simp [hy]))
    have h2 := bitTexts_len (h b (by simp))
    rw [List.flatMap_cons, List.length_append, List.length_cons]
    omega
theorem texts_len : ∀ (l : List El) (_ : ∀ x ∈ l, x.Ok), (texts l).length ≤ 1200 * l.length
  | [], _ => Nat.le_refl _
  | x :: l, h => by
    have h1 := texts_len l (fun y hy => h y (by simp [hy]))
    have h2 := bitsTexts_len x.bits.l (h x (by simp)).bits
    have h3 := (h x (by simp)).len
    unfold texts at h1 ⊢
    rw [List.flatMap_cons, List.length_append, List.length_cons, elTexts]
    omega
/-- The texts of a slice, from wherever. -/
theorem SlR.src {w : World} {A : Option Addr} {xs : List ByteArray} (h : SlR 1 w A (xs.map strCells)) : 0 < xs.length → ∃ ad, A = some ad ∧ ∀ j u, (xs.map Value.string)[j]? = some u → w.cell? (ad.add j) = some u := fun h0 => by
  obtain ⟨b, o, e, hc⟩ := h (by simpa using h0)
  refine ⟨_, e, fun j u hu => ?_⟩
  rw [List.getElem?_map] at hu
  obtain ⟨t, ht, rfl⟩ := Option.map_eq_some_iff.1 hu
  have h1 := hc j (strCells t) (by rw [List.getElem?_map, ht]; rfl) 0 _ rfl
  rw [Nat.mul_one, Nat.add_zero] at h1
  rw [add_at]
  exact h1
set_option maxRecDepth 100000 in
set_option maxHeartbeats 2000000 in
theorem textsOf_any (L : Sl El) (w : World) (hL : Els.In w L) (hok : ∀ x ∈ L.l, x.Ok) (hl : L.l.length ≤ 60) : Calls Tryz.prog 46 #[.slice L.A L.l.length L.c] w (RetTexts (texts L.l) w) := by
  obtain ⟨A, c, l⟩ := L
  replace hok : ∀ x ∈ l, x.Ok := hok
  replace hl : l.length ≤ 60 := hl
  show Calls Tryz.prog 46 #[.slice A l.length c] w (RetTexts (texts l) w)
  have n0 : (0 : Int) ≤ l.length := by omega
  have n1 : (l.length : Int) ≤ 60 := by omega
  have HL := Lib.hid hL
  have HOK := Lib.hid hok
  obtain ⟨i0, hj0, jz0, jz1, jz2⟩ := info_parts Tryz.infoStr
  clear hL hok
  go_enter Tryz.func46, Tryz.ntmps46
  go_wp2_with fail
  obtain ⟨w0, hw0⟩ : ∃ w0, w0 = w.alloc (.cells #[] 9) := ⟨_, rfl⟩
  rw [← hw0]
  have B0 := Lib.hid (show Below w.heap.size w w0 from by rw [hw0]; exact Below.alloc (Below.refl _ _) (Nat.le_refl _) _)
  have R0 := Lib.hid (show Row (fun q => w.heap.size ≤ q) 9 1 (.slice (some ⟨w.heap.size, 0, none⟩) 0 0) 0 [] w0 from by
    rw [hw0]
    exact row_empty w 9)
  clear hw0
  go_loopw [3, 11] (fun v i wr => ∃ k : Nat, k ≤ l.length ∧ i = .int .i64 k ∧ Row (fun q => w.heap.size ≤ q) 9 1 v (texts (l.take k)).length ((texts (l.take k)).map Value.string) wr ∧ Below w.heap.size w wr) (fun _ i _ => l.length - (intOf i).toNat)
  case atStart => exact ⟨0, by omega, rfl, R0.out, B0.out⟩
  case round =>
    obtain ⟨k, hk, rfl, hr, hb⟩ := hrel
    have HB := Lib.hid hb
    have zb := hb.size
    have HR := Lib.hid hr
    clear hr
    by_cases hlt : k < l.length
    · obtain ⟨b, oo, rfl, hc⟩ := SlR.at_ (HL.out.here hb).l k hlt
      have IN := Lib.hid (HL.out.sub l[k] (List.getElem_mem hlt))
      have OK := Lib.hid (HOK.out l[k] (List.getElem_mem hlt))
      have TK := Lib.hid (show texts (l.take (k + 1)) = texts (l.take k) ++ l[k].bits.l.flatMap bitTexts from by
        rw [List.take_succ_eq_append_getElem hlt, texts, texts, List.flatMap_append]
        simp [elTexts])
      have TL := Lib.hid (show (texts (l.take k)).length ≤ 72000 from by
        have h9 := texts_len (l.take k) (fun x hx => HOK.out x (List.mem_of_mem_take hx))
        rw [List.length_take] at h9
        omega)
      obtain ⟨T, hT⟩ : ∃ T, T = texts (l.take k) := ⟨_, rfl⟩
      rw [← hT] at HR TK TL
      have q0 := hc 0 _ rfl
      have q1 := hc 1 _ rfl
      have q2 := hc 2 _ rfl
      rw [Nat.add_zero] at q0
      clear hb hc hT
      generalize l[k] = x at *
      obtain ⟨sec, mark, ⟨BA, bc, bl⟩⟩ := x
      have hbl : bl.length ≤ 60 := OK.out.len
      obtain ⟨w1, hw1⟩ : ∃ w1, w1 = wr.alloc (.cells #[.int .i64 sec, .int .i64 mark, .slice BA bl.length bc] 24) := ⟨_, rfl⟩
      have B1 := Lib.hid (show Below w.heap.size w w1 from by rw [hw1]; exact HB.out.alloc zb _)
      have R1 := Lib.hid (HR.out.here (show Below wr.heap.size wr w1 from by rw [hw1]; exact Below.alloc (Below.refl _ _) (Nat.le_refl _) _))
      have b0 : (0 : Int) ≤ bl.length := by omega
      have b1 : (bl.length : Int) ≤ 60 := by omega
      have HW1 := Lib.hid hw1
      clear hw1
      go_wp2_with fail
      rw [← HW1.out]
      go_loopw [3, 18] (fun v i wr => ∃ j : Nat, j ≤ bl.length ∧ i = .int .i64 j ∧ Row (fun q => w.heap.size ≤ q) 9 1 v (T ++ (bl.take j).flatMap bitTexts).length ((T ++ (bl.take j).flatMap bitTexts).map Value.string) wr ∧ Below w.heap.size w wr) (fun _ i _ => bl.length - (intOf i).toNat)
      case atStart => exact ⟨0, by omega, rfl, by simpa using R1.out, B1.out⟩
      case round =>
        obtain ⟨j, hj, rfl, hr, hb⟩ := hrel
        obtain ⟨w2, rfl⟩ : ∃ w2 : World, w2 = wr := ⟨_, rfl⟩
        have HB2 := Lib.hid hb
        have zb2 := hb.size
        obtain ⟨A0, C0, rfl, hC, _⟩ := hr.sl
        have HR2 := Lib.hid hr
        clear hr
        by_cases hltj : j < bl.length
        · obtain ⟨h, u, rfl, hc⟩ := SlR.at_ (IN.out.bits.here hb).l j hltj
          have INB := Lib.hid (IN.out.bits.sub bl[j] (List.getElem_mem hltj))
          have OKB := Lib.hid (OK.out.bits bl[j] (List.getElem_mem hltj))
          have TKB := Lib.hid (show T ++ (bl.take (j + 1)).flatMap bitTexts = (T ++ (bl.take j).flatMap bitTexts) ++ bitTexts bl[j] from by
            rw [List.take_succ_eq_append_getElem hltj, List.flatMap_append, List.append_assoc]
            simp)
          have hdl : (T ++ (bl.take j).flatMap bitTexts).length ≤ 75000 := by
            have h9 := bitsTexts_len (bl.take j) (fun x hx => OK.out.bits x (List.mem_of_mem_take hx))
            rw [List.length_take] at h9
            rw [List.length_append]
            have := TL.out
            omega
          obtain ⟨D, hD⟩ : ∃ D, D = T ++ (bl.take j).flatMap bitTexts := ⟨_, rfl⟩
          rw [← hD] at HR2 TKB hdl hC ⊢
          have q0 := hc 0 _ rfl
          have q1 := hc 1 _ rfl
          have q2 := hc 2 _ rfl
          have q3 := hc 3 _ rfl
          have q4 := hc 4 _ rfl
          rw [Nat.add_zero] at q0
          clear hb hc hD
          generalize bl[j] = x at *
          obtain ⟨kind, num, bsec, text, ⟨TA, tc, tl⟩⟩ := x
          have htl : tl.length ≤ 20 := OKB.out.texts.1
          obtain ⟨w3, hw3⟩ : ∃ w3, w3 = w2.alloc (.cells #[.int .i64 kind, .int .i64 num, .int .i64 bsec, .string text, .slice TA tl.length tc] 41) := ⟨_, rfl⟩
          have b3 : Below w2.heap.size w2 w3 := by rw [hw3]; exact Below.alloc (Below.refl _ _) (Nat.le_refl _) _
          have B3 := Lib.hid (below_from HB2.out b3)
          have R3 := Lib.hid (HR2.out.here b3)
          have K3 := Lib.hid (show Blk w3 w2.heap.size 41 #[.int .i64 kind, .int .i64 num, .int .i64 bsec, .string text, .slice TA tl.length tc] from by rw [hw3]; exact Blk.new _ _ _)
          have HW3 := Lib.hid hw3
          clear b3 hw3
          by_cases h6 : kind = 6
          · subst h6
            have HT := Lib.hid (show bitTexts ⟨6, num, bsec, text, ⟨TA, tc, tl⟩⟩ = [text] from rfl)
            have k3 := K3.out
            go_upto_region 9 with fail
            rw [← HW3.out]
            have z3 : w.heap.size ≤ w3.heap.size := B3.out.size
            have d3 := k3.cell 3
            have d0 := (k3.alloc (.cells #[.string text] 9)).cell 0
            have R4 := Lib.hid (R3.out.here (w' := w3.alloc (.cells #[.string text] 9)) (Below.alloc (Below.refl _ _) (Nat.le_refl _) _))
            have B4 := Lib.hid (B3.out.alloc z3 (.cells #[.string text] 9))
            have K4 := Lib.hid (k3.alloc (.cells #[.string text] 9))
            have O1 := Lib.hid (show ∀ u ∈ ([.string text] : List Value), u.oneCell' = true from by simp [Value.oneCell'])
            have O2 := Lib.hid (show D.length + 1 ≤ maxLen from by unfold maxLen; omega)
            have O3 := Lib.hid (show (D.length + 1) * 16 ≤ 140737488355328 from by omega)
            go_upto_region 10 with (refine wpList_append_row (by rfl) _ _ 39 (by rfl) (fun q => w.heap.size ≤ q) 9 i0 _ 1 16 Tryz.underlying39 hj0 jz0 jz1 jz2 (by rfl) (by decide) (.slice A0 D.length C0) D.length _ (by rfl) R4.out _ 1 1 [.string text] (by rfl) rfl (src_new w3 9 #[.string text] [.string text] rfl 1 _ (Below.refl _ _)) O1.out O2.out O3.out ?_; intro A2 C2 w5 hown2 hgrow2 hnew2)
            have NB : (Value.slice A0 D.length C0).ownBlock ≠ some w2.heap.size := fun e => by
              have h1 := R4.out.tag e
              rw [K4.out.tag] at h1
              exact absurd h1 (by decide)
            have k5 := K4.out.grown hgrow2 NB
            have e0 := k5.cell 0
            have B5 := Lib.hid (B4.out.grown hgrow2 (by simp; omega) (fun q hq => R4.out.own q hq))
            have R5 := Lib.hid (show Row (fun q => w.heap.size ≤ q) 9 1 (.slice A2 (D.length + 1) C2) (D ++ [text]).length ((D ++ [text]).map Value.string) w5 from by
              rw [List.length_append, List.length_singleton, List.map_append]
              exact hown2.own2 (fun q hq _ => hq.elim id (fun h => Nat.le_trans (by simp; omega) h)))
            clear hown2 hgrow2 hnew2 k5 NB d3 d0 k3
            go_wp2_with fail
            go_roundw
            case rel => exact ⟨j + 1, by omega, by go_num, by rw [TKB.out, HT.out]; exact R5.out, B5.out⟩
            case measure => simp [intOf]; omega
          by_cases h7 : kind = 7
          · subst h7
            have HT := Lib.hid (show bitTexts ⟨7, num, bsec, text, ⟨TA, tc, tl⟩⟩ = tl from rfl)
            have k3 := K3.out
            have z3 : w.heap.size ≤ w3.heap.size := B3.out.size
            have SR := Lib.hid ((INB.out.here B3.out).tx.src)
            have O1 := Lib.hid (show ∀ u ∈ tl.map Value.string, u.oneCell' = true from fun u hu => by
              obtain ⟨t, _, rfl⟩ := List.mem_map.1 hu
              rfl)
            have O2 := Lib.hid (show D.length + tl.length ≤ maxLen from by unfold maxLen; omega)
            have O3 := Lib.hid (show (D.length + tl.length) * 16 ≤ 140737488355328 from by omega)
            have d0 := k3.cell 0
            have d4 := k3.cell 4
            go_upto_region 11 with fail
            rw [← HW3.out]
            go_wp2_with (refine wpList_append_row (by rfl) _ _ 39 (by rfl) (fun q => w.heap.size ≤ q) 9 i0 _ 1 16 Tryz.underlying39 hj0 jz0 jz1 jz2 (by rfl) (by decide) (.slice A0 D.length C0) D.length _ (by rfl) R3.out TA tl.length tc (tl.map Value.string) (by rfl) (by rw [List.length_map, Nat.mul_one]) SR.out O1.out O2.out O3.out ?_; intro A2 C2 w5 hown2 hgrow2 hnew2)
            have B5 := Lib.hid (B3.out.grown hgrow2 (by omega) (fun q hq => R3.out.own q hq))
            have R5 := Lib.hid (show Row (fun q => w.heap.size ≤ q) 9 1 (.slice A2 (D.length + tl.length) C2) (D ++ tl).length ((D ++ tl).map Value.string) w5 from by
              rw [List.length_append, List.map_append]
              exact hown2.own2 (fun q hq _ => hq.elim id (fun h => Nat.le_trans (by omega) h)))
            clear hown2 hgrow2 hnew2 k3
            go_roundw
            case rel => exact ⟨j + 1, by omega, by go_num, by rw [TKB.out, HT.out]; exact R5.out, B5.out⟩
            case measure => simp [intOf]; omega
          · have HT := Lib.hid (show bitTexts ⟨kind, num, bsec, text, ⟨TA, tc, tl⟩⟩ = [] from by unfold bitTexts; rw [if_neg h6, if_neg h7])
            have e6 : (kind == 6) = false := by simpa using h6
            have e7 : (kind == 7) = false := by simpa using h7
            go_wp2_with fail
            rw [← HW3.out]
            go_roundw
            case rel => exact ⟨j + 1, by omega, by go_num, by rw [TKB.out, HT.out, List.append_nil]; exact R3.out, B3.out⟩
            case measure => simp [intOf]; omega
        · have hjn : j = bl.length := by omega
          have HA := Lib.hid (List.take_of_length_le (Nat.le_of_eq hjn.symm) : bl.take j = bl)
          go_wp2_with fail
          go_roundw
          case rel => exact ⟨k + 1, by omega, by go_num, by rw [TK.out]; have h9 := HR2.out; rw [HA.out] at h9; rw [HA.out]; exact h9, HB2.out⟩
          case measure => simp [intOf]; omega
    · have hkn : k = l.length := by omega
      have HA := Lib.hid (List.take_of_length_le (Nat.le_of_eq hkn.symm) : l.take k = l)
      obtain ⟨A0, C0, rfl, hC, sl⟩ := HR.out.sl
      have SL := Lib.hid sl.strs
      rw [HA.out] at SL hC ⊢
      go_wp2_with fail
      go_ret
      exact ⟨A0, C0, rfl, hC, SL.out, HB.out⟩
end Go.Proofs.YtedjadicdodahaaGreatDoor

namespace Go.Proofs.YtedjadicdodahaaGreatDoor
open Go.RowKit Go.Maps

def cntI (l : List El) (k : Int) : Int := if k = 0 then ((distinct (texts l)).length : Nat) else (countOf l k : Nat)
theorem countOf_snoc (l : List El) (x : El) (k : Int) : countOf (l ++ [x]) k = countOf l k + (if x.sec = k then 1 else 0) := by
  unfold countOf
  rw [List.filter_append, List.length_append]
  by_cases h : x.sec = k <;> simp [h]
theorem countOf_le (l : List El) (k : Int) : countOf l k ≤ l.length := List.length_filter_le _ _
set_option maxRecDepth 100000 in
set_option maxHeartbeats 2000000 in
theorem countOf_any (L : Sl El) (k : Int) (w : World) (hL : Els.In w L) (hok : ∀ x ∈ L.l, x.Ok) (hl : L.l.length ≤ 60) : Calls Tryz.prog 21 #[.slice L.A L.l.length L.c, .int .i64 k] w (RetV (.int .i64 (cntI L.l k)) w) := by
  by_cases h0 : k = 0
  · have T := Lib.hid (textsOf_any L w hL hok hl)
    have TL := Lib.hid (texts_len L.l hok)
    obtain ⟨A, c, l⟩ := L
    subst h0
    clear hL hok
    go_enter Tryz.func21, Tryz.ntmps21
    go_wp2_with fail
    refine T.out.mono ?_
    rintro e w1 ⟨A1, c1, rfl, hc1, s1, b1⟩
    have B1 := Lib.hid b1
    have D := Lib.hid (distinct_any A1 c1 (texts l) w1 s1 (by have h9 : (texts l).length ≤ 1200 * l.length := TL.out; have h8 : l.length ≤ 60 := hl; omega))
    clear s1 b1
    go_wp2_with fail
    refine D.out.mono ?_
    rintro e w2 ⟨A2, c2, rfl, hc2, _, b2⟩
    go_wp2_with fail
    go_ret
    exact ⟨rfl, below_from B1.out b2⟩
  obtain ⟨A, c, l⟩ := L
  replace hok : ∀ x ∈ l, x.Ok := hok
  replace hl : l.length ≤ 60 := hl
  show Calls Tryz.prog 21 #[.slice A l.length c, .int .i64 k] w (RetV (.int .i64 (cntI l k)) w)
  have n0 : (0 : Int) ≤ l.length := by omega
  have n1 : (l.length : Int) ≤ 60 := by omega
  have HL := Lib.hid hL
  have e0 : (k == 0) = false := by simpa using h0
  have HC := Lib.hid (show cntI l k = (countOf l k : Nat) from if_neg h0)
  clear hL hok h0
  go_enter Tryz.func21, Tryz.ntmps21
  go_wp2_with fail
  go_loopw [5, 16] (fun v i wr => ∃ j : Nat, j ≤ l.length ∧ i = .int .i64 j ∧ v = .int .i64 (countOf (l.take j) k : Nat) ∧ Below w.heap.size w wr) (fun _ i _ => l.length - (intOf i).toNat)
  case atStart => exact ⟨0, by omega, rfl, rfl, Below.refl _ _⟩
  case round =>
    obtain ⟨j, hj, rfl, rfl, hb⟩ := hrel
    have HB := Lib.hid hb
    have zb := hb.size
    by_cases hlt : j < l.length
    · obtain ⟨b, oo, rfl, hc⟩ := SlR.at_ (HL.out.here hb).l j hlt
      have TK := Lib.hid (show countOf (l.take (j + 1)) k = countOf (l.take j) k + (if l[j].sec = k then 1 else 0) from by rw [List.take_succ_eq_append_getElem hlt, countOf_snoc])
      have hcl : countOf (l.take j) k ≤ 60 := Nat.le_trans (countOf_le _ _) (by rw [List.length_take]; omega)
      obtain ⟨m, hm⟩ : ∃ m, m = countOf (l.take j) k := ⟨_, rfl⟩
      rw [← hm] at TK hcl ⊢
      have q0 := hc 0 _ rfl
      have q1 := hc 1 _ rfl
      have q2 := hc 2 _ rfl
      rw [Nat.add_zero] at q0
      clear hb hc hm
      generalize l[j] = x at *
      obtain ⟨sec, mark, ⟨BA, bc, bl⟩⟩ := x
      have B1 := Lib.hid (fun s => HB.out.alloc zb (.cells #[.int .i64 s, .int .i64 mark, .slice BA bl.length bc] 24))
      by_cases hs : sec = k
      · have HT := Lib.hid (show countOf (l.take (j + 1)) k = m + 1 from by rw [TK.out]; show m + (if sec = k then 1 else 0) = _; rw [if_pos hs])
        have e1 : (sec == k) = true := by simpa using hs
        go_wp2_with fail
        go_roundw
        case rel => exact ⟨j + 1, by omega, by go_num, by rw [HT.out]; go_num, B1.out _⟩
        case measure => simp [intOf]; omega
      · have HT := Lib.hid (show countOf (l.take (j + 1)) k = m from by rw [TK.out]; show m + (if sec = k then 1 else 0) = _; rw [if_neg hs]; omega)
        have e1 : (sec == k) = false := by simpa using hs
        go_wp2_with fail
        go_roundw
        case rel => exact ⟨j + 1, by omega, by go_num, by rw [HT.out], B1.out _⟩
        case measure => simp [intOf]; omega
    · have hjn : j = l.length := by omega
      have HA := Lib.hid (List.take_of_length_le (Nat.le_of_eq hjn.symm) : l.take j = l)
      rw [HA.out]
      go_wp2_with fail
      go_ret
      exact ⟨by rw [HC.out]; rfl, HB.out⟩
end Go.Proofs.YtedjadicdodahaaGreatDoor
