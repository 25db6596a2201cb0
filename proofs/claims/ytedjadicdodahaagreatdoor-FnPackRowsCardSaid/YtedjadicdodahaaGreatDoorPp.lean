/- Elements of plain values, told; a slice of one element. (printed by gen_pm.py) -/
import Derived.Test.YtedjadicdodahaaGreatDoorPf
import Derived.Test.YtedjadicdodahaaGreatDoorQPe
namespace Go.Proofs.YtedjadicdodahaaGreatDoor
open Go.RowKit

theorem els_one {w : World} {b : Nat} {T : TypeId} {x : El} (hb : Blk w b T #[.int .i64 x.sec, .int .i64 x.mark, .slice x.bits.A x.bits.l.length x.bits.c]) (hx : x.In w) : Els.In w ⟨some ⟨b, 0, none⟩, 1, [x]⟩ := by
  refine ⟨fun _ => ⟨b, 0, rfl, fun j cs hj i u hu => ?_⟩, fun y hy => ?_, by show 1 ≤ maxLen; unfold maxLen; omega⟩
  · rcases j with _ | j
    · have hj2 : x.cells = cs := by simpa using hj
      subst hj2
      have h1 := hb.cell i
      simp only [Nat.zero_mul, Nat.zero_add]
      rw [h1, List.getElem?_toArray]
      exact hu
    · simp at hj
  · rw [List.mem_singleton.1 hy]
    exact hx
set_option maxRecDepth 100000 in
set_option maxHeartbeats 2000000 in
theorem plainBits_any (x : El) (w : World) (hx : x.In w) : Calls Tryz.prog 18 #[.agg #[.int .i64 x.sec, .int .i64 x.mark, .slice x.bits.A x.bits.l.length x.bits.c]] w (RetIf (∀ b ∈ x.bits.l, b.Plain) w) := by
  obtain ⟨sec, mark, ⟨A, c, xs⟩⟩ := x
  have hm : xs.length ≤ maxLen := hx.bits.len
  unfold maxLen at hm
  have n0 : (0 : Int) ≤ xs.length := by omega
  have n1 : (xs.length : Int) ≤ 9223372036854775807 := by omega
  obtain ⟨w0, hw0⟩ : ∃ w0, w0 = w.alloc (.cells #[.int .i64 sec, .int .i64 mark, .slice A xs.length c] 24) := ⟨_, rfl⟩
  have b0 : Below w.heap.size w w0 := by rw [hw0]; exact Below.alloc (Below.refl _ _) (Nat.le_refl _) _
  have HL := Lib.hid (show Bts.In w0 ⟨A, c, xs⟩ from hx.bits.here b0)
  have HW := Lib.hid hw0
  have B0 := Lib.hid b0
  clear hx b0 hw0 hm
  go_enter Tryz.func18, Tryz.ntmps18
  go_wp2_with fail
  rw [← HW.out]
  go_loopw [8] (fun i wr => ∃ k : Nat, k ≤ xs.length ∧ i = .int .i64 k ∧ (∀ b ∈ xs.take k, b.Plain) ∧ Below w0.heap.size w0 wr) (fun i _ => xs.length - (intOf i).toNat)
  case atStart => exact ⟨0, by omega, rfl, (by simp), Below.refl _ _⟩
  case round =>
    obtain ⟨k, hk, rfl, hr, hb⟩ := hrel
    have HB := Lib.hid hb
    have HR := Lib.hid hr
    have zb := hb.size
    clear hr
    by_cases hlt : k < xs.length
    · obtain ⟨b, oo, rfl, hc⟩ := SlR.at_ (HL.out.here hb).l k hlt
      have TK := Lib.hid (List.take_succ_eq_append_getElem hlt)
      have q0 := hc 0 _ rfl
      have q1 := hc 1 _ rfl
      have q2 := hc 2 _ rfl
      have q3 := hc 3 _ rfl
      have q4 := hc 4 _ rfl
      rw [Nat.add_zero] at q0
      clear hb hc
      generalize xs[k] = x at *
      obtain ⟨kind, num, bsec, text, ⟨TA, tc, tl⟩⟩ := x
      have B1 := Lib.hid (HB.out.alloc zb (.cells #[.int .i64 kind, .int .i64 num, .int .i64 bsec, .string text, .slice TA tl.length tc] 41))
      have BE := Lib.hid (B0.out.trans (B1.out.mono B0.out.size))
      by_cases h6 : kind = 6
      · subst h6
        go_wp2_with fail
        go_returns
        exact ⟨_, rfl, fun h => (by simp at h), BE.out⟩
      by_cases h7 : kind = 7
      · subst h7
        go_wp2_with fail
        go_returns
        exact ⟨_, rfl, fun h => (by simp at h), BE.out⟩
      by_cases h8 : kind = 8
      · subst h8
        go_wp2_with fail
        go_returns
        exact ⟨_, rfl, fun h => (by simp at h), BE.out⟩
      have HP := Lib.hid (show Bt.Plain ⟨kind, num, bsec, text, ⟨TA, tc, tl⟩⟩ from ⟨h6, h7, h8⟩)
      have e6 : (kind == 6) = false := by simpa using h6
      have e7 : (kind == 7) = false := by simpa using h7
      have e8 : (kind == 8) = false := by simpa using h8
      go_wp2_with fail
      go_roundw
      case rel => exact ⟨k + 1, by omega, by go_num, by
        rw [TK.out]
        intro y hy
        rcases List.mem_append.1 hy with hy | hy
        · exact HR.out y hy
        · rw [List.mem_singleton.1 hy]
          exact HP.out, B1.out⟩
      case measure => simp [intOf]; omega
    · have hkn : k = xs.length := by omega
      have HA := Lib.hid (List.take_of_length_le (Nat.le_of_eq hkn.symm) : xs.take k = xs)
      have h9 := HR.out
      rw [HA.out] at h9
      have H9 := Lib.hid h9
      clear hb h9
      go_wp2_with fail
      go_returns
      exact ⟨_, rfl, fun _ => H9.out, B0.out.trans (HB.out.mono B0.out.size)⟩
end Go.Proofs.YtedjadicdodahaaGreatDoor
