/- Places, distinct texts, texts of elements, how many elements a section has. -/
import Derived.Test.YtedjadicdodahaaDoorQPa
import Derived.Test.YtedjadicdodahaaDoorPf
import Derived.BigQuiet
namespace Go.Proofs.YtedjadicdodahaaDoor
open Go.RowKit Go.Maps

def placeI {α : Type} [DecidableEq α] (xs : List α) (t : α) : Int := if t ∈ xs then (idx xs t : Nat) else -1
theorem idx_first {α : Type} [DecidableEq α] (xs : List α) (t : α) (k : Nat) (hk : k < xs.length) (h : t ∉ xs.take k) (e : xs[k] = t) : placeI xs t = k := by
  have h0 : xs = xs.take k ++ xs[k] :: xs.drop (k + 1) := by rw [List.getElem_cons_drop, List.take_append_drop]
  have hm : t ∈ xs := by rw [← e]; exact List.getElem_mem hk
  unfold placeI idx
  rw [if_pos hm]
  have h1 : xs.idxOf t = k := by
    conv => lhs; rw [h0]
    rw [List.idxOf_append, if_neg h, e, List.idxOf_cons_self, List.length_take]
    omega
  rw [h1]
theorem placeI_neg {α : Type} [DecidableEq α] (xs : List α) (t : α) : placeI xs t < 0 ↔ t ∉ xs := by
  unfold placeI
  split
  · constructor
    · intro h; omega
    · intro h; exact absurd ‹t ∈ xs› h
  · constructor
    · intro _; assumption
    · intro _; decide
theorem str_eqs (x t : ByteArray) : (x.toList == t.toList) = decide (x = t) := by
  rw [ByteArray.toList_eq, ByteArray.toList_eq, Bool.eq_iff_iff, beq_iff_eq, decide_eq_true_iff]
  constructor
  · intro h
    cases x
    cases t
    simpa using h
  · rintro rfl
    rfl
set_option maxRecDepth 100000 in
set_option maxHeartbeats 1000000 in
theorem placeOf_any (A : Option Addr) (c : Nat) (xs : List ByteArray) (t : ByteArray) (w : World) (hs : SlR 1 w A (xs.map strCells)) (hm : xs.length ≤ maxLen) : Calls Tryd.prog 11 #[.slice A xs.length c, .string t] w (RetV (.int .i64 (placeI xs t)) w) := by
  unfold maxLen at hm
  have n0 : (0 : Int) ≤ xs.length := by omega
  have n1 : (xs.length : Int) ≤ 9223372036854775807 := by omega
  have HS := Lib.hid hs
  clear hs hm
  go_enter Tryd.func11, Tryd.ntmps11
  go_wp2_with fail
  go_loopw [5, 6, 9] (fun _ _ i wr => ∃ k : Nat, k ≤ xs.length ∧ i = .int .i64 k ∧ t ∉ xs.take k ∧ Below w.heap.size w wr) (fun _ _ i _ => xs.length - (intOf i).toNat)
  case atStart => exact ⟨0, by omega, rfl, (by simp), Below.refl _ _⟩
  case round =>
    obtain ⟨k, hk, rfl, hr, hb⟩ := hrel
    have HB := Lib.hid hb
    have HR := Lib.hid hr
    have zb := hb.size
    clear hr
    by_cases hlt : k < xs.length
    · obtain ⟨b, oo, rfl, hc⟩ := SlR.at_ (HS.out.here hb) k hlt
      have TK := Lib.hid (List.take_succ_eq_append_getElem hlt)
      have FI := Lib.hid (idx_first xs t k hlt HR.out)
      have q0 := hc 0 _ rfl
      rw [Nat.add_zero, Nat.mul_one] at q0
      clear hb hc
      generalize xs[k] = x at *
      by_cases hx : x = t
      · go_wp2_with fail
        all_goals first
          | (go_ret; exact ⟨by rw [FI.out hx]; rfl, HB.out⟩)
          | (exfalso; simp_all; done)
      · have hx2 : (x.toList == t.toList) = false := by rw [str_eqs]; exact decide_eq_false hx
        go_wp2_with fail
        go_roundw
        case rel => exact ⟨k + 1, by omega, by go_num, by rw [TK.out]; intro h; exact (List.mem_append.1 h).elim HR.out (fun h => hx (List.mem_singleton.1 h).symm), HB.out⟩
        case measure => simp [intOf]; omega
    · have hkn : k = xs.length := by omega
      have HA := Lib.hid (List.take_of_length_le (Nat.le_of_eq hkn.symm) : xs.take k = xs)
      have HM := Lib.hid (show placeI xs t = -1 from by
        have h9 := HR.out
        rw [HA.out] at h9
        unfold placeI
        rw [if_neg h9])
      go_wp2_with fail
      go_ret
      exact ⟨by rw [HM.out]; rfl, HB.out⟩
theorem SlV.strs {w : World} {A : Option Addr} {xs : List ByteArray} (h : SlV w A (xs.map Value.string)) : SlR 1 w A (xs.map strCells) := fun h0 => by
  obtain ⟨b, o, e, hc⟩ := h (by simpa using h0)
  refine ⟨b, o, e, fun j cs hj i u hu => ?_⟩
  rw [List.getElem?_map] at hj
  obtain ⟨t, ht, rfl⟩ := Option.map_eq_some_iff.1 hj
  match i, hu with
  | 0, hu =>
    obtain rfl : Value.string t = u := Option.some.inj hu
    rw [Nat.mul_one, Nat.add_zero]
    exact hc j _ (by rw [List.getElem?_map, ht]; rfl)
  | i + 1, hu => simp at hu
/-- A slice of texts, new. -/
def RetTexts (xs : List ByteArray) (w : World) (e : Ending) (w' : World) : Prop := ∃ A c, e = .returned (.slice A xs.length c) ∧ xs.length ≤ c ∧ SlR 1 w' A (xs.map strCells) ∧ Below w.heap.size w w'
/-- An empty slice, made. -/
theorem row_empty (w : World) (e : TypeId) : Row (fun q => w.heap.size ≤ q) e 1 (.slice (some ⟨w.heap.size, 0, none⟩) 0 0) 0 [] (w.alloc (.cells #[] e)) :=
  ⟨World.ownsRow_made (base := 0) (e := e) (size := 1) w #[] 0 (Nat.zero_le _) (by simp) (by simp), fun k hk => by
    injection hk with hk
    exact Nat.le_of_eq hk⟩
theorem distinct_snoc (l : List ByteArray) (t : ByteArray) : distinct (l ++ [t]) = put (distinct l) t := by simp [distinct]
theorem distinct_len (l : List ByteArray) : (distinct l).length ≤ l.length := by
  have h : ∀ (l d : List ByteArray), (l.foldl put d).length ≤ d.length + l.length := fun l => by
    induction l with
    | nil => intro d; simp
    | cons t l ih =>
      intro d
      have h1 := ih (put d t)
      have h2 := put_len d t
      rw [List.foldl_cons, List.length_cons]
      omega
  simpa [distinct] using h l []
set_option maxRecDepth 100000 in
set_option maxHeartbeats 1000000 in
theorem distinct_any (A : Option Addr) (c : Nat) (xs : List ByteArray) (w : World) (hs : SlR 1 w A (xs.map strCells)) (hm : xs.length ≤ 1000000) : Calls Tryd.prog 8 #[.slice A xs.length c] w (RetTexts (distinct xs) w) := by
  have n0 : (0 : Int) ≤ xs.length := by omega
  have n1 : (xs.length : Int) ≤ 1000000 := by omega
  have HS := Lib.hid hs
  obtain ⟨i0, hj, jz0, jz1, jz2⟩ := info_parts Tryd.infoStr
  clear hs
  go_enter Tryd.func8, Tryd.ntmps8
  go_wp2_with fail
  obtain ⟨w0, hw0⟩ : ∃ w0, w0 = w.alloc (.cells #[] 9) := ⟨_, rfl⟩
  rw [← hw0]
  have b0 : Below w.heap.size w w0 := by rw [hw0]; exact Below.alloc (Below.refl _ _) (Nat.le_refl _) _
  have r0 : Row (fun q => w.heap.size ≤ q) 9 1 (.slice (some ⟨w.heap.size, 0, none⟩) 0 0) 0 [] w0 := by
    rw [hw0]
    exact row_empty w 9
  have B0 := Lib.hid b0
  have R0 := Lib.hid r0
  clear b0 r0 hw0
  go_loopw [3, 5, 9] (fun v _ i wr => ∃ k : Nat, k ≤ xs.length ∧ i = .int .i64 k ∧ Row (fun q => w.heap.size ≤ q) 9 1 v (distinct (xs.take k)).length ((distinct (xs.take k)).map Value.string) wr ∧ Below w.heap.size w wr) (fun _ _ i _ => xs.length - (intOf i).toNat)
  case atStart => exact ⟨0, by omega, rfl, R0.out, B0.out⟩
  case round =>
    obtain ⟨k, hk, rfl, hr, hb⟩ := hrel
    have HB := Lib.hid hb
    have zb := hb.size
    obtain ⟨A0, C0, rfl, hC, sl⟩ := hr.sl
    have HR := Lib.hid hr
    have SL := Lib.hid sl.strs
    clear hr sl
    by_cases hlt : k < xs.length
    · obtain ⟨b, oo, rfl, hc⟩ := SlR.at_ (HS.out.here hb) k hlt
      have TK := Lib.hid (show distinct (xs.take (k + 1)) = put (distinct (xs.take k)) xs[k] from by rw [List.take_succ_eq_append_getElem hlt, distinct_snoc])
      have hdl : (distinct (xs.take k)).length ≤ k := Nat.le_trans (distinct_len _) (by rw [List.length_take]; omega)
      obtain ⟨D, hD⟩ : ∃ D, D = distinct (xs.take k) := ⟨_, rfl⟩
      rw [← hD] at HR SL TK hdl hC ⊢
      have q0 := hc 0 _ rfl
      rw [Nat.add_zero, Nat.mul_one] at q0
      clear hb hc hD
      generalize xs[k] = x at *
      have PL := Lib.hid (placeOf_any A0 C0 D x wr SL.out (by unfold maxLen; omega))
      go_wp2_with fail
      refine PL.out.mono ?_
      rintro e w2 ⟨rfl, hb2⟩
      have B2 := Lib.hid (below_from HB.out hb2)
      have R2 := Lib.hid (HR.out.here hb2)
      clear hb2 PL
      by_cases hx : x ∈ D
      · have hx2 : ¬ placeI D x < 0 := fun h => (placeI_neg D x).1 h hx
        have HP := Lib.hid (put_of_mem hx)
        go_wp2_with fail
        go_roundw
        case rel => exact ⟨k + 1, by omega, by go_num, by rw [TK.out, HP.out]; exact R2.out, B2.out⟩
        case measure => simp [intOf]; omega
      · have hx2 : placeI D x < 0 := (placeI_neg D x).2 hx
        have HP := Lib.hid (put_of_not hx)
        have z2 : w.heap.size ≤ w2.heap.size := B2.out.size
        have R3 := Lib.hid (R2.out.here (w' := w2.alloc (.cells #[.string x] 9)) (Below.alloc (Below.refl _ _) (Nat.le_refl _) _))
        have B3 := Lib.hid (B2.out.alloc z2 (.cells #[.string x] 9))
        have O1 := Lib.hid (show ∀ u ∈ ([.string x] : List Value), u.oneCell' = true from by simp [Value.oneCell'])
        have O2 := Lib.hid (show D.length + 1 ≤ maxLen from by unfold maxLen; omega)
        have O3 := Lib.hid (show (D.length + 1) * 16 ≤ 140737488355328 from by omega)
        go_wp2_with (refine wpList_append_row (by rfl) _ _ 22 (by rfl) (fun q => w.heap.size ≤ q) 9 i0 _ 1 16 Tryd.underlying22 hj jz0 jz1 jz2 (by rfl) (by decide) (.slice A0 D.length C0) D.length _ (by rfl) R3.out _ 1 1 [.string x] (by rfl) rfl (src_new w2 9 #[.string x] [.string x] rfl 1 _ (Below.refl _ _)) O1.out O2.out O3.out ?_; intro A2 C2 w4 hown2 hgrow2 hnew2)
        have B4 := Lib.hid (B3.out.grown hgrow2 (by simp; omega) (fun q hq => R3.out.own q hq))
        have R4 := Lib.hid (show Row (fun q => w.heap.size ≤ q) 9 1 (.slice A2 (D.length + 1) C2) (D ++ [x]).length ((D ++ [x]).map Value.string) w4 from by
          rw [List.length_append, List.length_singleton, List.map_append]
          exact hown2.own2 (fun q hq _ => hq.elim id (fun h => Nat.le_trans (by simp; omega) h)))
        clear hown2 hgrow2 hnew2
        go_roundw
        case rel => exact ⟨k + 1, by omega, by go_num, by rw [TK.out, HP.out]; exact R4.out, B4.out⟩
        case measure => simp [intOf]; omega
    · have hkn : k = xs.length := by omega
      have HA := Lib.hid (List.take_of_length_le (Nat.le_of_eq hkn.symm) : xs.take k = xs)
      rw [HA.out] at SL hC ⊢
      go_wp2_with fail
      go_ret
      exact ⟨A0, C0, rfl, hC, SL.out, HB.out⟩
theorem bitTexts_len {b : Bt} (h : b.Ok) : (bitTexts b).length ≤ 20 := by
  unfold bitTexts
  split
  · simp
  · split
    · exact h.texts.1
    · simp
theorem bitsTexts_len : ∀ (l : List Bt) (_ : ∀ b ∈ l, b.Ok), (l.flatMap bitTexts).length ≤ 20 * l.length
  | [], _ => Nat.le_refl _
  | b :: l, h => by
    have h1 := bitsTexts_len l (fun y hy => h y (by simp [hy]))
    have h2 := bitTexts_len (h b (by simp))
    rw [List.flatMap_cons, List.length_append, List.length_cons]
    omega
theorem texts_len : ∀ (l : List El) (_ : ∀ x ∈ l, x.Ok), (texts l).length ≤ 1200 * l.length
  | [], _ => Nat.le_refl _
  | x :: l, h => by
    have h1 := texts_len l (fun y hy => h y (by simp [hy]))
    have h2 := bitsTexts_len x.bits.l (h x (by simp)).bits
    have h3 := (h x (by simp)).len
    unfold texts at h1 ⊢
    rw [List.flatMap_cons, List.length_append, List.length_cons, elTexts]
    omega
/-- The texts of a slice, from wherever. -/
theorem SlR.src {w : World} {A : Option Addr} {xs : List ByteArray} (h : SlR 1 w A (xs.map strCells)) : 0 < xs.length → ∃ ad, A = some ad ∧ ∀ j u, (xs.map Value.string)[j]? = some u → w.cell? (ad.add j) = some u := fun h0 => by
  obtain ⟨b, o, e, hc⟩ := h (by simpa using h0)
  refine ⟨_, e, fun j u hu => ?_⟩
  rw [List.getElem?_map] at hu
  obtain ⟨t, ht, rfl⟩ := Option.map_eq_some_iff.1 hu
  have h1 := hc j (strCells t) (by rw [List.getElem?_map, ht]; rfl) 0 _ rfl
  rw [Nat.mul_one, Nat.add_zero] at h1
  rw [add_at]
  exact h1
end Go.Proofs.YtedjadicdodahaaDoor

namespace Go.Proofs.YtedjadicdodahaaDoor
open Go.RowKit Go.Maps

def cntI (l : List El) (k : Int) : Int := if k = 0 then ((distinct (texts l)).length : Nat) else (countOf l k : Nat)
theorem countOf_snoc (l : List El) (x : El) (k : Int) : countOf (l ++ [x]) k = countOf l k + (if x.sec = k then 1 else 0) := by
  unfold countOf
  rw [List.filter_append, List.length_append]
  by_cases h : x.sec = k <;> simp [h]
theorem countOf_le (l : List El) (k : Int) : countOf l k ≤ l.length := List.length_filter_le _ _
end Go.Proofs.YtedjadicdodahaaDoor
