/- Whether elements fit, whether they can be written: a truth value in every case. (printed by gen_pfit.py) -/
import Derived.Test.YtedjadicdodahaaDoorPIn
import Derived.Test.YtedjadicdodahaaDoorBitOk
import Derived.BigRegion
namespace Go.Proofs.YtedjadicdodahaaDoor
open Go.RowKit

/-- A truth value; where it is true, P. Nothing that was there has turned. -/
def RetIf (P : Prop) (w : World) (e : Ending) (w' : World) : Prop := ∃ b, e = .returned (.bool b) ∧ (b = true → P) ∧ Below w.heap.size w w'
theorem SlR.at_ {size : Nat} {w : World} {A : Option Addr} {α : Type} {R : α → List Value} {xs : List α} (h : SlR size w A (xs.map R)) (k : Nat) (hk : k < xs.length) : ∃ b o, A = some ⟨b, o, none⟩ ∧ ∀ i u, (R xs[k])[i]? = some u → w.cell? ⟨b, o + k * size + i, none⟩ = some u := by
  obtain ⟨b, o, e, hc⟩ := h (by simp; omega)
  exact ⟨b, o, e, fun i u hu => hc k (R xs[k]) (by simp [hk]) i u hu⟩

set_option maxRecDepth 100000 in
set_option maxHeartbeats 1000000 in
theorem zz5_any (A : Option Addr) (c : Nat) (xs : List ByteArray) (w : World) (hs : SlR 1 w A (xs.map strCells)) (ok : ∀ x ∈ xs, x.size ≤ maxLen) (hm : xs.length ≤ maxLen) : Calls Tryd.prog 5 #[.slice A xs.length c] w (RetIf (True) w) := by
  unfold maxLen at hm
  have n0 : (0 : Int) ≤ xs.length := by omega
  have n1 : (xs.length : Int) ≤ 9223372036854775807 := by omega
  have HS := Lib.hid hs
  have OKA := Lib.hid ok
  clear hs hm ok
  go_enter Tryd.func5, Tryd.ntmps5
  by_cases hbig : (2147483647 : Int) < xs.length
  · go_wp2_with fail
    go_returns
    exact ⟨_, rfl, fun h => (by simp at h), by (repeat' (first | (with_reducible exact Below.refl _ _) | (with_reducible assumption) | (with_reducible refine below_drewN ?_ _) | (with_reducible refine Below.alloc ?_ ?_ _) | (with_reducible refine Below.drew ?_) | (with_reducible refine Below.setCell ?_ ?_ _) | go_size))⟩
  go_wp2_with fail
  go_loopw [4, 10] (fun _ i wr => ∃ k : Nat, k ≤ xs.length ∧ i = .int .i64 k ∧ True ∧ Below w.heap.size w wr) (fun _ i _ => xs.length - (intOf i).toNat)
  case atStart => exact ⟨0, by omega, rfl, trivial, Below.refl _ _⟩
  case round =>
    obtain ⟨k, hk, rfl, hr, hb⟩ := hrel
    have HB := Lib.hid hb
    have HR := Lib.hid hr
    have zb := hb.size
    clear hr
    by_cases hlt : k < xs.length
    · obtain ⟨b, oo, rfl, hc⟩ := SlR.at_ (HS.out.here hb) k hlt
      have OK := Lib.hid (OKA.out xs[k] (List.getElem_mem hlt))
      have sb : (xs[k].size : Int) ≤ 9223372036854775807 := by have := OK.out; unfold maxLen at this; omega
      have TK := Lib.hid (List.take_succ_eq_append_getElem hlt)
      have q0 := hc 0 _ rfl
      rw [Nat.add_zero, Nat.mul_one] at q0
      clear hb hc
      generalize xs[k] = x at *
      by_cases hx : (200 : Int) < x.size
      all_goals
        go_wp2_with fail
        all_goals first
          | (go_returns; exact ⟨_, rfl, fun h => (by simp at h), HB.out⟩)
          | (go_roundw
             case rel => exact ⟨k + 1, by omega, by go_num, trivial, HB.out⟩
             case measure => simp [intOf]; omega)
    · have hkn : k = xs.length := by omega
      have HA := Lib.hid (List.take_of_length_le (Nat.le_of_eq hkn.symm) : xs.take k = xs)
      go_wp2_with fail
      go_returns
      exact ⟨_, rfl, fun _ => trivial, HB.out⟩
set_option maxRecDepth 100000 in
set_option maxHeartbeats 1000000 in
theorem shortTexts_any (A : Option Addr) (c : Nat) (xs : List ByteArray) (w : World) (hs : SlR 1 w A (xs.map strCells)) (ok : ∀ x ∈ xs, x.size ≤ maxLen) (hm : xs.length ≤ maxLen) : Calls Tryd.prog 6 #[.slice A xs.length c] w (RetIf (xs.length ≤ 20 ∧ ∀ t ∈ xs, t.size ≤ 200) w) := by
  unfold maxLen at hm
  have n0 : (0 : Int) ≤ xs.length := by omega
  have n1 : (xs.length : Int) ≤ 9223372036854775807 := by omega
  have HS := Lib.hid hs
  have OKA := Lib.hid ok
  clear hs hm ok
  go_enter Tryd.func6, Tryd.ntmps6
  go_wp2_with fail
  go_loopw [4, 7] (fun _ i wr => ∃ k : Nat, k ≤ xs.length ∧ i = .int .i64 k ∧ (∀ t ∈ xs.take k, t.size ≤ 200) ∧ Below w.heap.size w wr) (fun _ i _ => xs.length - (intOf i).toNat)
  case atStart => exact ⟨0, by omega, rfl, (by simp), Below.refl _ _⟩
  case round =>
    obtain ⟨k, hk, rfl, hr, hb⟩ := hrel
    have HB := Lib.hid hb
    have HR := Lib.hid hr
    have zb := hb.size
    clear hr
    by_cases hlt : k < xs.length
    · obtain ⟨b, oo, rfl, hc⟩ := SlR.at_ (HS.out.here hb) k hlt
      have OK := Lib.hid (OKA.out xs[k] (List.getElem_mem hlt))
      have sb : (xs[k].size : Int) ≤ 9223372036854775807 := by have := OK.out; unfold maxLen at this; omega
      have TK := Lib.hid (List.take_succ_eq_append_getElem hlt)
      have q0 := hc 0 _ rfl
      rw [Nat.add_zero, Nat.mul_one] at q0
      clear hb hc
      generalize xs[k] = x at *
      by_cases hx : (200 : Int) < x.size
      all_goals
        go_wp2_with fail
        all_goals first
          | (go_returns; exact ⟨_, rfl, fun h => (by simp at h), HB.out⟩)
          | (go_roundw
             case rel => exact ⟨k + 1, by omega, by go_num, (by rw [TK.out]; intro t ht; exact (List.mem_append.1 ht).elim (HR.out t) (fun h => by rw [List.mem_singleton.1 h]; omega)), HB.out⟩
             case measure => simp [intOf]; omega)
    · have hkn : k = xs.length := by omega
      have HA := Lib.hid (List.take_of_length_le (Nat.le_of_eq hkn.symm) : xs.take k = xs)
      go_wp2_with fail
      go_returns
      exact ⟨_, rfl, fun h => ⟨by simp at h; omega, by have h9 := HR.out; rw [HA.out] at h9; exact h9⟩, HB.out⟩
/-- A value's cells. -/
abbrev Bt.arr2 (b : Bt) : Array Value := #[.int .i64 b.kind, .int .i64 b.num, .int .i64 b.sec, .string b.text, .slice b.texts.A b.texts.l.length b.texts.c]
/-- What BitOk says, the texts apart. -/
theorem bitOk_ok {b : Bt} {w : World} (h : bitOk b.kind b.num b.sec = true) (hi : b.In w) (ht : b.text.size ≤ 200) (hs : b.texts.l.length ≤ 20 ∧ ∀ t ∈ b.texts.l, t.size ≤ 200) : b.Ok := by
  have hn := hi.num
  unfold I64 at hn
  unfold bitOk within at h
  have h0 : 0 ≤ b.kind ∧ b.kind ≤ 12 := by
    split at h
    · omega
    split at h
    · omega
    split at h
    · omega
    split at h
    · omega
    split at h
    · omega
    simpa using h
  refine ⟨h0, hn, fun e => ?_, fun e => ?_, fun e => ?_, fun e => ?_, fun e => ?_, ht, hs⟩
  · rw [if_pos e] at h; simpa using h
  · rw [if_neg (by omega), if_pos e] at h
    simp at h
    omega
  · rw [if_neg (by omega), if_neg (by omega), if_pos e] at h
    simp at h
    omega
  · rw [if_neg (by omega), if_neg (by omega), if_neg (by omega), if_pos e] at h
    simp at h
    omega
  · rw [if_neg (by omega), if_neg (by omega), if_neg (by omega), if_neg (by omega), if_pos e] at h
    simp at h
    omega
/-- What the statements ask of a package. -/
structure PackP (v : Int) (s : Bool) (l : List El) : Prop where
  ok : ∀ x ∈ l, x.Ok
  ver : 0 ≤ v ∧ v ≤ 5
  syn : s = true → 1 ≤ v
  len : l.length ≤ 60
end Go.Proofs.YtedjadicdodahaaDoor
