/- Whether elements fit, whether they can be written: a truth value in every case. (printed by gen_pfit.py) -/
import Derived.Test.YtedjadicdodahaaGreatDoorPIn
import Derived.Test.YtedjadicdodahaaGreatDoorBitOk
import Derived.BigRegion
namespace Go.Proofs.YtedjadicdodahaaGreatDoor
open Go.RowKit

/-- A truth value; where it is true, P. Nothing that was there has turned. -/
def RetIf (P : Prop) (w : World) (e : Ending) (w' : World) : Prop := ∃ b, e = .returned (.bool b) ∧ (b = true → P) ∧ Below w.heap.size w w'
theorem SlR.at_ {size : Nat} {w : World} {A : Option Addr} {α : Type} {R : α → List Value} {xs : List α} (h : SlR size w A (xs.map R)) (k : Nat) (hk : k < xs.length) : ∃ b o, A = some ⟨b, o, none⟩ ∧ ∀ i u, (R xs[k])[i]? = some u → w.cell? ⟨b, o + k * size + i, none⟩ = some u := by
  obtain ⟨b, o, e, hc⟩ := h (by simp; omega)
  exact ⟨b, o, e, fun i u hu => hc k (R xs[k]) (by simp [hk]) i u hu⟩

set_option maxRecDepth 100000 in
set_option maxHeartbeats 1000000 in
theorem zz5_any (A : Option Addr) (c : Nat) (xs : List ByteArray) (w : World) (hs : SlR 1 w A (xs.map strCells)) (ok : ∀ x ∈ xs, x.size ≤ maxLen) (hm : xs.length ≤ maxLen) : Calls Tryz.prog 38 #[.slice A xs.length c] w (RetIf (True) w) := by
  unfold maxLen at hm
  have n0 : (0 : Int) ≤ xs.length := by omega
  have n1 : (xs.length : Int) ≤ 9223372036854775807 := by omega
  have HS := Lib.hid hs
  have OKA := Lib.hid ok
  clear hs hm ok
  go_enter Tryz.func38, Tryz.ntmps38
  by_cases hbig : (2147483647 : Int) < xs.length
  · go_wp2_with fail
    go_returns
    exact ⟨_, rfl, fun h => (by simp at h), by (repeat' (first | (with_reducible exact Below.refl _ _) | (with_reducible assumption) | (with_reducible refine below_drewN ?_ _) | (with_reducible refine Below.alloc ?_ ?_ _) | (with_reducible refine Below.drew ?_) | (with_reducible refine Below.setCell ?_ ?_ _) | go_size))⟩
  go_wp2_with fail
  go_loopw [4, 10] (fun _ i wr => ∃ k : Nat, k ≤ xs.length ∧ i = .int .i64 k ∧ True ∧ Below w.heap.size w wr) (fun _ i _ => xs.length - (intOf i).toNat)
  case atStart => exact ⟨0, by omega, rfl, trivial, Below.refl _ _⟩
  case round =>
    obtain ⟨k, hk, rfl, hr, hb⟩ := hrel
    have HB := Lib.hid hb
    have HR := Lib.hid hr
    have zb := hb.size
    clear hr
    by_cases hlt : k < xs.length
    · obtain ⟨b, oo, rfl, hc⟩ := SlR.at_ (HS.out.here hb) k hlt
      have OK := Lib.hid (OKA.out xs[k] (List.getElem_mem hlt))
      have sb : (xs[k].size : Int) ≤ 9223372036854775807 := by have := OK.out; unfold maxLen at this; omega
      have TK := Lib.hid (List.take_succ_eq_append_getElem hlt)
      have q0 := hc 0 _ rfl
      rw [Nat.add_zero, Nat.mul_one] at q0
      clear hb hc
      generalize xs[k] = x at *
      by_cases hx : (200 : Int) < x.size
      all_goals
        go_wp2_with fail
        all_goals first
          | (go_returns; exact ⟨_, rfl, fun h => (by simp at h), HB.out⟩)
          | (go_roundw
             case rel => exact ⟨k + 1, by omega, by go_num, trivial, HB.out⟩
             case measure => simp [intOf]; omega)
    · have hkn : k = xs.length := by omega
      have HA := Lib.hid (List.take_of_length_le (Nat.le_of_eq hkn.symm) : xs.take k = xs)
      go_wp2_with fail
      go_returns
      exact ⟨_, rfl, fun _ => trivial, HB.out⟩
set_option maxRecDepth 100000 in
set_option maxHeartbeats 1000000 in
theorem shortTexts_any (A : Option Addr) (c : Nat) (xs : List ByteArray) (w : World) (hs : SlR 1 w A (xs.map strCells)) (ok : ∀ x ∈ xs, x.size ≤ maxLen) (hm : xs.length ≤ maxLen) : Calls Tryz.prog 48 #[.slice A xs.length c] w (RetIf (xs.length ≤ 20 ∧ ∀ t ∈ xs, t.size ≤ 200) w) := by
  unfold maxLen at hm
  have n0 : (0 : Int) ≤ xs.length := by omega
  have n1 : (xs.length : Int) ≤ 9223372036854775807 := by omega
  have HS := Lib.hid hs
  have OKA := Lib.hid ok
  clear hs hm ok
  go_enter Tryz.func48, Tryz.ntmps48
  go_wp2_with fail
  go_loopw [4, 7] (fun _ i wr => ∃ k : Nat, k ≤ xs.length ∧ i = .int .i64 k ∧ (∀ t ∈ xs.take k, t.size ≤ 200) ∧ Below w.heap.size w wr) (fun _ i _ => xs.length - (intOf i).toNat)
  case atStart => exact ⟨0, by omega, rfl, (by simp), Below.refl _ _⟩
  case round =>
    obtain ⟨k, hk, rfl, hr, hb⟩ := hrel
    have HB := Lib.hid hb
    have HR := Lib.hid hr
    have zb := hb.size
    clear hr
    by_cases hlt : k < xs.length
    · obtain ⟨b, oo, rfl, hc⟩ := SlR.at_ (HS.out.here hb) k hlt
      have OK := Lib.hid (OKA.out xs[k] (List.getElem_mem hlt))
      have sb : (xs[k].size : Int) ≤ 9223372036854775807 := by have := OK.out; unfold maxLen at this; omega
      have TK := Lib.hid (List.take_succ_eq_append_getElem hlt)
      have q0 := hc 0 _ rfl
      rw [Nat.add_zero, Nat.mul_one] at q0
      clear hb hc
      generalize xs[k] = x at *
      by_cases hx : (200 : Int) < x.size
      all_goals
        go_wp2_with fail
        all_goals first
          | (go_returns; exact ⟨_, rfl, fun h => (by simp at h), HB.out⟩)
          | (go_roundw
             case rel => exact ⟨k + 1, by omega, by go_num, (by rw [TK.out]; intro t ht; exact (List.mem_append.1 ht).elim (HR.out t) (fun h => by rw [List.mem_singleton.1 h]; omega)), HB.out⟩
             case measure => simp [intOf]; omega)
    · have hkn : k = xs.length := by omega
      have HA := Lib.hid (List.take_of_length_le (Nat.le_of_eq hkn.symm) : xs.take k = xs)
      go_wp2_with fail
      go_returns
      exact ⟨_, rfl, fun h => ⟨by simp at h; omega, by have h9 := HR.out; rw [HA.out] at h9; exact h9⟩, HB.out⟩
/-- A value's cells. -/
abbrev Bt.arr2 (b : Bt) : Array Value := #[.int .i64 b.kind, .int .i64 b.num, .int .i64 b.sec, .string b.text, .slice b.texts.A b.texts.l.length b.texts.c]
set_option maxRecDepth 100000 in
set_option maxHeartbeats 1000000 in
theorem zz4_any (b : Bt) (w : World) (hb : b.In w) : Calls Tryz.prog 16 #[.agg b.arr2] w (RetIf True w) := by
  obtain ⟨kind, num, sec, text, ⟨TA, tc, tl⟩⟩ := b
  have hk : (text.size : Int) ≤ 9223372036854775807 := by have h9 : text.size ≤ maxLen := hb.text; unfold maxLen at h9; omega
  obtain ⟨w0, hw0⟩ : ∃ w0, w0 = w.alloc (.cells #[.int .i64 kind, .int .i64 num, .int .i64 sec, .string text, .slice TA tl.length tc] 41) := ⟨_, rfl⟩
  have b0 : Below w.heap.size w w0 := by rw [hw0]; exact Below.alloc (Below.refl _ _) (Nat.le_refl _) _
  have Z := Lib.hid (zz5_any TA tc tl w0 (hb.here b0).tx hb.txk hb.txl)
  have HW := Lib.hid hw0
  have B0 := Lib.hid b0
  clear hb b0 hw0
  go_enter Tryz.func16, Tryz.ntmps16
  go_wp2_with fail
  all_goals first
    | (go_returns; rw [← HW.out]; exact ⟨_, rfl, fun _ => trivial, B0.out⟩)
    | skip
  rw [← HW.out]
  refine Z.out.mono ?_
  rintro e w1 ⟨b1, rfl, _, hb1⟩
  have B1 := Lib.hid (below_from B0.out hb1)
  clear hb1
  rcases b1 with _ | _
  all_goals
    go_wp2_with fail
    go_returns
    exact ⟨_, rfl, fun _ => trivial, B1.out⟩
set_option maxRecDepth 100000 in
set_option maxHeartbeats 1000000 in
theorem zz3_any (L : Sl Bt) (w : World) (hL : Bts.In w L) : Calls Tryz.prog 22 #[.slice L.A L.l.length L.c] w (RetIf (L.l.length ≤ 2147483647) w) := by
  obtain ⟨A, c, xs⟩ := L
  have hm : xs.length ≤ maxLen := hL.len
  show Calls Tryz.prog 22 #[.slice A xs.length c] w (RetIf (xs.length ≤ 2147483647) w)
  unfold maxLen at hm
  have n0 : (0 : Int) ≤ xs.length := by omega
  have n1 : (xs.length : Int) ≤ 9223372036854775807 := by omega
  have HL := Lib.hid hL
  clear hL hm
  go_enter Tryz.func22, Tryz.ntmps22
  by_cases hbig : (2147483647 : Int) < xs.length
  · go_wp2_with fail
    go_returns
    exact ⟨_, rfl, fun h => (by simp at h), by (repeat' (first | (with_reducible exact Below.refl _ _) | (with_reducible assumption) | (with_reducible refine below_drewN ?_ _) | (with_reducible refine Below.alloc ?_ ?_ _) | (with_reducible refine Below.drew ?_) | (with_reducible refine Below.setCell ?_ ?_ _) | go_size))⟩
  have ZS := Lib.hid (show xs.length ≤ 2147483647 by omega)
  go_wp2_with fail
  go_loopw [10] (fun i wr => ∃ k : Nat, k ≤ xs.length ∧ i = .int .i64 k ∧ Below w.heap.size w wr) (fun i _ => xs.length - (intOf i).toNat)
  case atStart => exact ⟨0, by omega, rfl, Below.refl _ _⟩
  case round =>
    obtain ⟨k, hk, rfl, hb⟩ := hrel
    have HB := Lib.hid hb
    have zb := hb.size
    by_cases hlt : k < xs.length
    · obtain ⟨b, oo, rfl, hc⟩ := SlR.at_ (HL.out.here hb).l k hlt
      have OK := Lib.hid (HL.out.sub xs[k] (List.getElem_mem hlt))
      have q0 := hc 0 _ rfl
      have q1 := hc 1 _ rfl
      have q2 := hc 2 _ rfl
      have q3 := hc 3 _ rfl
      have q4 := hc 4 _ rfl
      rw [Nat.add_zero] at q0
      clear hb hc
      generalize xs[k] = x at *
      obtain ⟨kind, num, sec, text, ⟨TA, tc, tl⟩⟩ := x
      obtain ⟨w1, hw1⟩ : ∃ w1, w1 = wr.alloc (.cells #[.int .i64 kind, .int .i64 num, .int .i64 sec, .string text, .slice TA tl.length tc] 41) := ⟨_, rfl⟩
      have b1 : Below w.heap.size w w1 := by rw [hw1]; exact HB.out.alloc zb _
      have Z := Lib.hid (zz4_any ⟨kind, num, sec, text, ⟨TA, tc, tl⟩⟩ w1 (OK.out.here b1))
      have HW := Lib.hid hw1
      have B1 := Lib.hid b1
      clear b1 hw1
      go_wp2_with fail
      rw [← HW.out]
      refine Z.out.mono ?_
      rintro e w2 ⟨b2, rfl, _, hb2⟩
      have B2 := Lib.hid (below_from B1.out hb2)
      clear hb2
      rcases b2 with _ | _
      · go_wp2_with fail
        go_returns
        exact ⟨_, rfl, fun _ => ZS.out, B2.out⟩
      · go_wp2_with fail
        go_roundw
        case rel => exact ⟨k + 1, by omega, by go_num, B2.out⟩
        case measure => simp [intOf]; omega
    · go_wp2_with fail
      go_returns
      exact ⟨_, rfl, fun _ => ZS.out, HB.out⟩
set_option maxRecDepth 100000 in
set_option maxHeartbeats 1000000 in
theorem zz2_any (x : El) (w : World) (hx : x.In w) : Calls Tryz.prog 10 #[.agg #[.int .i64 x.sec, .int .i64 x.mark, .slice x.bits.A x.bits.l.length x.bits.c]] w (RetIf (x.bits.l.length ≤ 2147483647) w) := by
  obtain ⟨sec, mark, ⟨BA, bc, bl⟩⟩ := x
  obtain ⟨w0, hw0⟩ : ∃ w0, w0 = w.alloc (.cells #[.int .i64 sec, .int .i64 mark, .slice BA bl.length bc] 24) := ⟨_, rfl⟩
  have b0 : Below w.heap.size w w0 := by rw [hw0]; exact Below.alloc (Below.refl _ _) (Nat.le_refl _) _
  have Z := Lib.hid (zz3_any ⟨BA, bc, bl⟩ w0 (hx.bits.here b0))
  have HW := Lib.hid hw0
  have B0 := Lib.hid b0
  clear hx b0 hw0
  go_enter Tryz.func10, Tryz.ntmps10
  go_wp2_with fail
  rw [← HW.out]
  refine Z.out.mono ?_
  rintro e w1 ⟨b1, rfl, h1, hb1⟩
  have H1 := Lib.hid (show b1 = true → bl.length ≤ 2147483647 from h1)
  have B1 := Lib.hid (below_from B0.out hb1)
  clear hb1 h1
  rcases b1 with _ | _
  all_goals
    go_wp2_with fail
    go_returns
    exact ⟨_, rfl, (fun h => by first | exact H1.out h | exact H1.out trivial | (simp at h)), B1.out⟩
set_option maxRecDepth 100000 in
set_option maxHeartbeats 1000000 in
theorem zz1_any (L : Sl El) (w : World) (hL : Els.In w L) : Calls Tryz.prog 14 #[.slice L.A L.l.length L.c] w (RetIf True w) := by
  obtain ⟨A, c, xs⟩ := L
  have hm : xs.length ≤ maxLen := hL.len
  show Calls Tryz.prog 14 #[.slice A xs.length c] w (RetIf True w)
  unfold maxLen at hm
  have n0 : (0 : Int) ≤ xs.length := by omega
  have n1 : (xs.length : Int) ≤ 9223372036854775807 := by omega
  have HL := Lib.hid hL
  clear hL hm
  go_enter Tryz.func14, Tryz.ntmps14
  by_cases hbig : (2147483647 : Int) < xs.length
  · go_wp2_with fail
    go_returns
    exact ⟨_, rfl, fun h => (by simp at h), by (repeat' (first | (with_reducible exact Below.refl _ _) | (with_reducible assumption) | (with_reducible refine below_drewN ?_ _) | (with_reducible refine Below.alloc ?_ ?_ _) | (with_reducible refine Below.drew ?_) | (with_reducible refine Below.setCell ?_ ?_ _) | go_size))⟩
  go_wp2_with fail
  go_loopw [10] (fun i wr => ∃ k : Nat, k ≤ xs.length ∧ i = .int .i64 k ∧ Below w.heap.size w wr) (fun i _ => xs.length - (intOf i).toNat)
  case atStart => exact ⟨0, by omega, rfl, Below.refl _ _⟩
  case round =>
    obtain ⟨k, hk, rfl, hb⟩ := hrel
    have HB := Lib.hid hb
    have zb := hb.size
    by_cases hlt : k < xs.length
    · obtain ⟨b, oo, rfl, hc⟩ := SlR.at_ (HL.out.here hb).l k hlt
      have OK := Lib.hid (HL.out.sub xs[k] (List.getElem_mem hlt))
      have q0 := hc 0 _ rfl
      have q1 := hc 1 _ rfl
      have q2 := hc 2 _ rfl
      rw [Nat.add_zero] at q0
      clear hb hc
      generalize xs[k] = x at *
      obtain ⟨sec, mark, ⟨BA, bc, bl⟩⟩ := x
      obtain ⟨w1, hw1⟩ : ∃ w1, w1 = wr.alloc (.cells #[.int .i64 sec, .int .i64 mark, .slice BA bl.length bc] 24) := ⟨_, rfl⟩
      have b1 : Below w.heap.size w w1 := by rw [hw1]; exact HB.out.alloc zb _
      have Z := Lib.hid (zz2_any ⟨sec, mark, ⟨BA, bc, bl⟩⟩ w1 (OK.out.here b1))
      have HW := Lib.hid hw1
      have B1 := Lib.hid b1
      clear b1 hw1
      go_wp2_with fail
      rw [← HW.out]
      refine Z.out.mono ?_
      rintro e w2 ⟨b2, rfl, _, hb2⟩
      have B2 := Lib.hid (below_from B1.out hb2)
      clear hb2
      rcases b2 with _ | _
      · go_wp2_with fail
        go_returns
        exact ⟨_, rfl, fun _ => trivial, B2.out⟩
      · go_wp2_with fail
        go_roundw
        case rel => exact ⟨k + 1, by omega, by go_num, B2.out⟩
        case measure => simp [intOf]; omega
    · go_wp2_with fail
      go_returns
      exact ⟨_, rfl, fun _ => trivial, HB.out⟩
/-- What BitOk says, the texts apart. -/
theorem bitOk_ok {b : Bt} {w : World} (h : bitOk b.kind b.num b.sec = true) (hi : b.In w) (ht : b.text.size ≤ 200) (hs : b.texts.l.length ≤ 20 ∧ ∀ t ∈ b.texts.l, t.size ≤ 200) : b.Ok := by
  have hn := hi.num
  unfold I64 at hn
  unfold bitOk within at h
  have h0 : 0 ≤ b.kind ∧ b.kind ≤ 12 := by
    split at h
    · omega
    split at h
    · omega
    split at h
    · omega
    split at h
    · omega
    split at h
    · omega
    simpa using h
  refine ⟨h0, hn, fun e => ?_, fun e => ?_, fun e => ?_, fun e => ?_, fun e => ?_, ht, hs⟩
  · rw [if_pos e] at h; simpa using h
  · rw [if_neg (by omega), if_pos e] at h
    simp at h
    omega
  · rw [if_neg (by omega), if_neg (by omega), if_pos e] at h
    simp at h
    omega
  · rw [if_neg (by omega), if_neg (by omega), if_neg (by omega), if_pos e] at h
    simp at h
    omega
  · rw [if_neg (by omega), if_neg (by omega), if_neg (by omega), if_neg (by omega), if_pos e] at h
    simp at h
    omega
set_option maxRecDepth 100000 in
set_option maxHeartbeats 2000000 in
theorem elementOk_any (x : El) (w : World) (hx : x.In w) : Calls Tryz.prog 23 #[.agg #[.int .i64 x.sec, .int .i64 x.mark, .slice x.bits.A x.bits.l.length x.bits.c]] w (RetIf x.Ok w) := by
  obtain ⟨sec, mark, ⟨A, c, xs⟩⟩ := x
  have hm : xs.length ≤ maxLen := hx.bits.len
  unfold maxLen at hm
  have n0 : (0 : Int) ≤ xs.length := by omega
  have n1 : (xs.length : Int) ≤ 9223372036854775807 := by omega
  obtain ⟨w0, hw0⟩ : ∃ w0, w0 = w.alloc (.cells #[.int .i64 sec, .int .i64 mark, .slice A xs.length c] 24) := ⟨_, rfl⟩
  have b0 : Below w.heap.size w w0 := by rw [hw0]; exact Below.alloc (Below.refl _ _) (Nat.le_refl _) _
  have k0 : Blk w0 w.heap.size 24 #[.int .i64 sec, .int .i64 mark, .slice A xs.length c] := by rw [hw0]; exact Blk.new _ _ _
  have HL := Lib.hid (show Bts.In w0 ⟨A, c, xs⟩ from hx.bits.here b0)
  have HW := Lib.hid hw0
  have B0 := Lib.hid b0
  have K0 := Lib.hid k0
  clear hx b0 hw0 k0 hm
  go_enter Tryz.func23, Tryz.ntmps23
  go_wp2_with fail
  rw [← HW.out]
  go_loopw [8] (fun i wr => ∃ k : Nat, k ≤ xs.length ∧ i = .int .i64 k ∧ (∀ b ∈ xs.take k, b.Ok) ∧ Below w0.heap.size w0 wr) (fun i _ => xs.length - (intOf i).toNat)
  case atStart => exact ⟨0, by omega, rfl, (by simp), Below.refl _ _⟩
  case round =>
    obtain ⟨k, hk, rfl, hr, hb⟩ := hrel
    have HB := Lib.hid hb
    have HR := Lib.hid hr
    have zb := hb.size
    clear hr
    by_cases hlt : k < xs.length
    · obtain ⟨b, oo, rfl, hc⟩ := SlR.at_ (HL.out.here hb).l k hlt
      have OK := Lib.hid (HL.out.sub xs[k] (List.getElem_mem hlt))
      have TK := Lib.hid (List.take_succ_eq_append_getElem hlt)
      have q0 := hc 0 _ rfl
      have q1 := hc 1 _ rfl
      have q2 := hc 2 _ rfl
      have q3 := hc 3 _ rfl
      have q4 := hc 4 _ rfl
      rw [Nat.add_zero] at q0
      clear hb hc
      generalize xs[k] = x at *
      obtain ⟨kind, num, bsec, text, ⟨TA, tc, tl⟩⟩ := x
      obtain ⟨w1, hw1⟩ : ∃ w1, w1 = wr.alloc (.cells #[.int .i64 kind, .int .i64 num, .int .i64 bsec, .string text, .slice TA tl.length tc] 41) := ⟨_, rfl⟩
      have b1 : Below w0.heap.size w0 w1 := by rw [hw1]; exact HB.out.alloc zb _
      have k1 : Blk w1 wr.heap.size 41 #[.int .i64 kind, .int .i64 num, .int .i64 bsec, .string text, .slice TA tl.length tc] := by rw [hw1]; exact Blk.new _ _ _
      have Z := Lib.hid (bitOk_any kind num bsec (.string text) (.slice TA tl.length tc) w1)
      have hts : (text.size : Int) ≤ 9223372036854775807 := by have h9 : text.size ≤ maxLen := OK.out.text; unfold maxLen at h9; omega
      have HW1 := Lib.hid hw1
      have B1 := Lib.hid b1
      have K1 := Lib.hid k1
      clear b1 hw1 k1
      go_wp2_with fail
      rw [← HW1.out]
      refine Z.out.mono ?_
      rintro e w2 ⟨rfl, hb2⟩
      have k2 := K1.out.here hb2
      have c3 := k2.cell 3
      have c4 := k2.cell 4
      have bz := k2.lt
      have B2 := Lib.hid (below_from B1.out hb2)
      have ST := Lib.hid (shortTexts_any TA tc tl w2 ((OK.out.here B2.out).tx) OK.out.txk OK.out.txl)
      clear hb2 k2
      by_cases hbo : bitOk kind num bsec = true
      · rw [hbo]
        by_cases htx : (200 : Int) < text.size
        · go_wp2_with fail
          go_returns
          exact ⟨_, rfl, fun h => (by simp at h), B0.out.trans (B2.out.mono B0.out.size)⟩
        · go_wp2_with fail
          refine ST.out.mono ?_
          rintro e w3 ⟨b3, rfl, hp3, hb3⟩
          have B3 := Lib.hid (below_from B2.out hb3)
          have HP3 := Lib.hid hp3
          clear hb3 hp3
          rcases b3 with _ | _
          · go_wp2_with fail
            go_returns
            exact ⟨_, rfl, fun h => (by simp at h), B0.out.trans (B3.out.mono B0.out.size)⟩
          · go_wp2_with fail
            go_roundw
            case rel => exact ⟨k + 1, by omega, by go_num, by
              rw [TK.out]
              intro y hy
              rcases List.mem_append.1 hy with hy | hy
              · exact HR.out y hy
              · rw [List.mem_singleton.1 hy]
                exact bitOk_ok hbo OK.out (by show text.size ≤ 200; omega) (by first | exact HP3.out rfl | exact HP3.out trivial), B3.out⟩
            case measure => simp [intOf]; omega
      · have hbf : bitOk kind num bsec = false := by simpa using hbo
        rw [hbf]
        go_wp2_with fail
        go_returns
        exact ⟨_, rfl, fun h => (by simp at h), B0.out.trans (B2.out.mono B0.out.size)⟩
    · have hkn : k = xs.length := by omega
      have HA := Lib.hid (List.take_of_length_le (Nat.le_of_eq hkn.symm) : xs.take k = xs)
      have k1 := K0.out.here hb
      have c0 := k1.cell 0
      have c1 := k1.cell 1
      have c2 := k1.cell 2
      have bz := k1.lt
      clear hb k1
      go_wp2_with fail
      all_goals
        go_returns
        refine ⟨_, rfl, fun h => ?_, B0.out.trans (HB.out.mono B0.out.size)⟩
        first
        | exact absurd h (by decide)
        | (simp at h; refine ⟨⟨?_, ?_⟩, ⟨?_, ?_⟩, ?_, ?_⟩ <;> first | (show _ ≤ _; simp only; omega) | (have h9 := HR.out; rw [HA.out] at h9; exact h9))
/-- What the statements ask of a package. -/
structure PackP (v : Int) (s : Bool) (l : List El) : Prop where
  ok : ∀ x ∈ l, x.Ok
  ver : 0 ≤ v ∧ v ≤ 5
  syn : s = true → 1 ≤ v
  len : l.length ≤ 60
set_option maxRecDepth 100000 in
set_option maxHeartbeats 2000000 in
theorem packOk_any (v : Int) (s : Bool) (L : Sl El) (w : World) (hL : Els.In w L) : Calls Tryz.prog 11 #[.int .i64 v, .bool s, .slice L.A L.l.length L.c] w (RetIf (PackP v s L.l) w) := by
  obtain ⟨A, c, xs⟩ := L
  have hm : xs.length ≤ maxLen := hL.len
  show Calls Tryz.prog 11 #[.int .i64 v, .bool s, .slice A xs.length c] w (RetIf (PackP v s xs) w)
  unfold maxLen at hm
  have n0 : (0 : Int) ≤ xs.length := by omega
  have n1 : (xs.length : Int) ≤ 9223372036854775807 := by omega
  have HL := Lib.hid hL
  clear hL hm
  go_enter Tryz.func11, Tryz.ntmps11
  go_wp2_with fail
  go_loopw [11] (fun i wr => ∃ k : Nat, k ≤ xs.length ∧ i = .int .i64 k ∧ (∀ x ∈ xs.take k, x.Ok) ∧ Below w.heap.size w wr) (fun i _ => xs.length - (intOf i).toNat)
  case atStart => exact ⟨0, by omega, rfl, (by simp), Below.refl _ _⟩
  case round =>
    obtain ⟨k, hk, rfl, hr, hb⟩ := hrel
    have HB := Lib.hid hb
    have HR := Lib.hid hr
    have zb := hb.size
    clear hr
    by_cases hlt : k < xs.length
    · obtain ⟨b, oo, rfl, hc⟩ := SlR.at_ (HL.out.here hb).l k hlt
      have OK := Lib.hid (HL.out.sub xs[k] (List.getElem_mem hlt))
      have TK := Lib.hid (List.take_succ_eq_append_getElem hlt)
      have q0 := hc 0 _ rfl
      have q1 := hc 1 _ rfl
      have q2 := hc 2 _ rfl
      rw [Nat.add_zero] at q0
      clear hb hc
      generalize xs[k] = x at *
      obtain ⟨sec, mark, ⟨BA, bc, bl⟩⟩ := x
      obtain ⟨w1, hw1⟩ : ∃ w1, w1 = wr.alloc (.cells #[.int .i64 sec, .int .i64 mark, .slice BA bl.length bc] 24) := ⟨_, rfl⟩
      have b1 : Below w.heap.size w w1 := by rw [hw1]; exact HB.out.alloc zb _
      have Z := Lib.hid (elementOk_any ⟨sec, mark, ⟨BA, bc, bl⟩⟩ w1 (OK.out.here b1))
      have HW := Lib.hid hw1
      have B1 := Lib.hid b1
      clear b1 hw1
      go_wp2_with fail
      rw [← HW.out]
      refine Z.out.mono ?_
      rintro e w2 ⟨b2, rfl, hp2, hb2⟩
      have B2 := Lib.hid (below_from B1.out hb2)
      have HP2 := Lib.hid hp2
      clear hb2 hp2
      rcases b2 with _ | _
      · go_wp2_with fail
        go_returns
        exact ⟨_, rfl, fun h => (by simp at h), B2.out⟩
      · go_wp2_with fail
        go_roundw
        case rel => exact ⟨k + 1, by omega, by go_num, by
          rw [TK.out]
          intro y hy
          rcases List.mem_append.1 hy with hy | hy
          · exact HR.out y hy
          · rw [List.mem_singleton.1 hy]
            first | exact HP2.out rfl | exact HP2.out trivial, B2.out⟩
        case measure => simp [intOf]; omega
    · have hkn : k = xs.length := by omega
      have HA := Lib.hid (List.take_of_length_le (Nat.le_of_eq hkn.symm) : xs.take k = xs)
      have HR2 := Lib.hid (show ∀ x ∈ xs, x.Ok from by have h9 := HR.out; rw [HA.out] at h9; exact h9)
      clear hb
      cases s
      all_goals
        go_wp2_with fail
        all_goals
          go_returns
          refine ⟨_, rfl, fun h => ?_, HB.out⟩
          first
          | exact absurd h (by decide)
          | (simp at h; refine ⟨HR2.out, ⟨?_, ?_⟩, ?_, ?_⟩ <;> first | omega | (intro h7; first | omega | exact absurd h7 (by decide)))
end Go.Proofs.YtedjadicdodahaaGreatDoor
