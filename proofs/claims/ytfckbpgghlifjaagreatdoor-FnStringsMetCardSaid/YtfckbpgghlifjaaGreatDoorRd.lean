/- strings.Reader: bytes and numbers read where they stand. -/
import Derived.Lib.BufferAt
import Derived.Lib.EndianBits
import Derived.Lib.VarintBits
import Derived.Deep.RegionHeld3
import Derived.BigRegion
import Derived.BigQuiet
import Derived.Test.YtfckbpgghlifjaaGreatDoorSlB
import Derived.Test.YtfckbpgghlifjaaGreatDoorRp
namespace Go.Proofs.YtfckbpgghlifjaaGreatDoor
open Go.RowKit

/-- A reader at place q of block b: the string t, read up to i. -/
def Rs (T : TypeId) (R : Nat → Option Value) (b q : Nat) (t : ByteArray) (i : Nat) (w : World) : Prop := ∃ pr : Int, LibA.Three w b q T R (.string t) (.int .i64 i) (.int .i64 pr)
section
variable {T : TypeId} {R : Nat → Option Value} {b q : Nat} {t : ByteArray} {i : Nat} {w w' : World} {G : List Nat}
theorem Rs.lt (h : Rs T R b q t i w) : b < w.heap.size := by obtain ⟨_, h⟩ := h; exact h.lt
theorem Rs.fr (h : Rs T R b q t i w) (f : Fr G w w') (hb : b ∉ G) : Rs T R b q t i w' := by
  obtain ⟨pr, h⟩ := h
  exact ⟨pr, h.of_heap (f.block b h.lt hb)⟩
theorem Rs.here (h : Rs T R b q t i w) (f : Below w.heap.size w w') : Rs T R b q t i w' := h.fr (Fr.of_below (gs := []) f) (by simp)
theorem Rs.new (h : Blk w b 89 #[.string t, .int .i64 0, .int .i64 (-1)]) : Rs 89 (fun _ => none) b 0 t 0 w := ⟨-1, LibA.three_whole h⟩
end
theorem newReader_any (t : ByteArray) (w : World) : Calls Tryz.prog 81 #[.string t] w (RetNew 89 #[.string t, .int .i64 0, .int .i64 (-1)] w) := by
  go_enter Tryz.func81, Tryz.ntmps81
  go_wp2
  go_ret
  exact ⟨w.heap.size, rfl, Nat.le_refl _, Blk.new _ _ _, Below.alloc (Below.refl _ _) (Nat.le_refl _) _⟩
set_option maxRecDepth 100000 in
set_option maxHeartbeats 1000000 in
theorem readByte_any {T : TypeId} {R : Nat → Option Value} {b q : Nat} {t : ByteArray} {i : Nat} {w : World} (h : Rs T R b q t i w) (c : UInt8) (hc : t.data.toList[i]? = some c) (ht : t.size ≤ 1000000000) :
    Calls Tryz.prog 133 #[.pointer (some ⟨b, q, none⟩)] w fun e w' => e = .returned (.tuple #[.int .u8 c.toNat, .nilIface]) ∧ Rs T R b q t (i + 1) w' ∧ Fr [b] w w' := by
  obtain ⟨pr, h3⟩ := h
  have hi : i < t.size := by
    obtain ⟨h1, _⟩ := List.getElem?_eq_some_iff.1 hc
    rw [Array.length_toList] at h1
    exact h1
  have H3 := Lib.hid h3
  have c0 := h3.c0
  have c1 := h3.c1
  have c2 := h3.c2
  have f0 := h3.f q
  have f1 := h3.f (q + 1)
  have f2 := h3.f (q + 2)
  have i0 : (0 : Int) ≤ i := by omega
  have i1 : (i : Int) < t.size := by omega
  clear h3
  go_enter Tryz.func133, Tryz.ntmps133
  go_wp2
  obtain ⟨w1, hw1⟩ : ∃ w1, w1 = w.setCell ⟨b, q + 2, none⟩ (.int .i64 (-1)) := ⟨_, rfl⟩
  have h1 := H3.out.set2 (.int .i64 (-1))
  have k1 := (Fr.refl [b] w).setCell (p := ⟨b, q + 2, none⟩) (.inl (by simp)) (.int .i64 (-1))
  rw [← hw1] at h1 k1 ⊢
  have d0 := h1.c0
  have d1 := h1.c1
  have e1 := h1.f (q + 1)
  have H1 := Lib.hid h1
  have K1 := Lib.hid k1
  clear h1 k1 c0 c1 c2 f0 f1 f2 hw1
  go_quiet (fail)
  go_wp2_with fail
  go_quiet (fail)
  go_wp2_with fail
  have hci : t[i] = c := by
    have h9 := (List.getElem?_eq_some_iff.1 hc).2
    rw [← h9]
    rfl
  rw [hci]
  go_returns
  exact ⟨rfl, ⟨-1, by rw [Int.natCast_add]; exact (H1.out.of_heap (w' := w1.drewN _) rfl).set1 _⟩, (K1.out.drewN _).setCell (.inl (List.mem_singleton.2 rfl)) _⟩
set_option maxRecDepth 100000 in
set_option maxHeartbeats 1000000 in
theorem readUvarint_any {T : TypeId} {R : Nat → Option Value} {b q : Nat} {t : ByteArray} {i : Nat} {w : World} (h : Rs T R b q t i w) (x : Nat) (hx : x < 18446744073709551616) (hs : Sat t i (uv x)) (ht : t.size ≤ 1000000000) :
    Calls Tryz.prog 120 #[.pointer (some ⟨b, q, none⟩)] w fun e w' => e = .returned (.tuple #[.int .u64 x, .nilIface]) ∧ Rs T R b q t (i + (uv x).length) w' ∧ Fr [b] w w' := by
  have H := Lib.hid h
  have HS := Lib.hid hs
  clear h hs
  go_enter Tryz.func120, Tryz.ntmps120
  go_wp2_with fail
  go_loopw [4, 5, 6] (fun a4 a5 a6 wr => ∃ k a y : Nat, k ≤ 9 ∧ a6 = .int .i64 k ∧ a5 = .int .u64 (7 * k : Nat) ∧ a4 = .int .u64 a ∧ a < 128 ^ k ∧ x = a + y * 128 ^ k ∧ Sat t (i + k) (uv y) ∧ (uv x).length = k + (uv y).length ∧ Rs T R b q t (i + k) wr ∧ Fr [b] w wr) (fun _ _ a6 _ => 10 - (intOf a6).toNat)
  case atStart => exact ⟨0, 0, x, by omega, rfl, rfl, rfl, by omega, by omega, HS.out, by omega, H.out, Fr.refl _ _⟩
  case round =>
    obtain ⟨k, a, y, hk, rfl, rfl, rfl, ha, hxa, sy, hln, r, f⟩ := hrel
    have SY := Lib.hid sy
    have LN := Lib.hid hln
    have F := Lib.hid f
    have k0 : (0 : Int) ≤ k := by omega
    have k1 : (k : Int) ≤ 9 := by omega
    by_cases hy : y < 128
    · have RB := Lib.hid (readByte_any r y.toUInt8 (by have h9 := sy.at 0 (by rw [uv_small hy]; simp); simpa [uv_small hy] using h9) ht)
      have HL := Lib.hid (show i + (uv x).length = i + k + 1 from by rw [hln, uv_small hy]; simp; omega)
      by_cases h9 : k = 9
      · subst h9
        have y1 : (y : Int) ≤ 1 := by
          have : y * 128 ^ 9 < 2 * 128 ^ 9 := by omega
          omega
        have y0 : (0 : Int) ≤ y := by omega
        have HV := Lib.hid (show bits BinOp.or IntKind.u64 (a : Int) ((y : Int) * 9223372036854775808) = x from by
          rw [bits_join_low .u64 64 (by decide) wraps_u64 63 _ _ (by omega) (by omega) (by omega) (by omega) (by omega) (by omega)]
          omega)
        clear r sy f ha hxa hln hx
        go_wp2_with fail
        refine RB.out.mono ?_
        rintro e w2 ⟨rfl, r2, f2⟩
        have R2 := Lib.hid r2
        have F2 := Lib.hid f2
        rw [uv_b0 hy]
        clear r2 f2
        go_wp2_with fail
        go_returns
        rw [HV.out, HL.out]
        exact ⟨rfl, R2.out, F.out.trans1 F2.out⟩
      · have k8 : (k : Int) < 9 := by omega
        have HP : 2 ^ (7 * k) = 128 ^ k := by rw [Nat.pow_mul]
        have HPP : 128 ^ k ≤ 128 ^ 8 := Nat.pow_le_pow_right (by omega) (by omega)
        have hy2 : y * 128 ^ k < 18446744073709551616 := by omega
        have HV := Lib.hid (show bits BinOp.or IntKind.u64 (a : Int) (IntKind.u64.wrap ((y : Int) * 2 ^ (7 * k))) = x from by
          have e1 : (y : Int) * 2 ^ (7 * k) = ((y * 128 ^ k : Nat) : Int) := by rw [← HP]; push_cast; rfl
          rw [e1, wraps_u64 _ (by omega) (by omega)]
          have hal : a < 2 ^ (7 * k) := by rw [HP]; exact ha
          have ha2 : a < 2 ^ 64 := by omega
          rw [bits_join_low .u64 64 (by decide) wraps_u64 (7 * k) _ _ (by omega) (by exact_mod_cast hal) (by exact_mod_cast ha2) (by omega) (by rw [← HP]; push_cast; exact Int.mul_emod_left _ _) (by omega)]
          omega)
        clear r sy f ha hxa hln hx HP HPP hy2
        go_wp2_with fail
        refine RB.out.mono ?_
        rintro e w2 ⟨rfl, r2, f2⟩
        have R2 := Lib.hid r2
        have F2 := Lib.hid f2
        rw [uv_b0 hy]
        have y0 : (0 : Int) ≤ y := by omega
        have y1 : (y : Int) < 128 := by omega
        have k9 : ¬ (k : Int) = 9 := by omega
        clear r2 f2
        go_wp2_with fail
        go_returns
        rw [HV.out, HL.out]
        exact ⟨rfl, R2.out, F.out.trans1 F2.out⟩
    · have hyb : 128 ≤ y := by omega
      have hk9 : k < 9 := by
        rcases Nat.lt_or_ge k 9 with h | h
        · exact h
        · have : k = 9 := by omega
          subst this
          omega
      have RB := Lib.hid (readByte_any r (y % 128 + 128).toUInt8 (by have h9 := sy.at 0 (by rw [uv_big hyb]; simp); simpa [uv_big hyb] using h9) ht)
      have HS2 := Lib.hid (show Sat t (i + (k + 1)) (uv (y / 128)) ∧ (uv x).length = k + 1 + (uv (y / 128)).length from by
        have h1 := sy
        rw [uv_big hyb] at h1 hln
        have h2 := Sat.right (a := [(y % 128 + 128).toUInt8]) h1
        rw [List.length_cons] at hln
        exact ⟨h2, by omega⟩)
      have HP : 2 ^ (7 * k) = 128 ^ k := by rw [Nat.pow_mul]
      have HX := Lib.hid (show a + y % 128 * 128 ^ k < 128 ^ (k + 1) ∧ x = (a + y % 128 * 128 ^ k) + y / 128 * 128 ^ (k + 1) from by
        have h1 : y % 128 * 128 ^ k ≤ 127 * 128 ^ k := Nat.mul_le_mul_right _ (by omega)
        have h2 : y = y % 128 + y / 128 * 128 := by omega
        have h3 : y * 128 ^ k = y % 128 * 128 ^ k + y / 128 * (128 * 128 ^ k) := by conv => lhs; rw [h2, Nat.add_mul, Nat.mul_assoc]
        rw [Nat.pow_succ, Nat.mul_comm (128 ^ k) 128]
        omega)
      have HPP : 128 ^ k ≤ 128 ^ 8 := Nat.pow_le_pow_right (by omega) (by omega)
      have hy2 : y % 128 * 128 ^ k < 18446744073709551616 := by
        have : y % 128 * 128 ^ k ≤ 127 * 128 ^ k := Nat.mul_le_mul_right _ (by omega)
        omega
      have HV := Lib.hid (show bits BinOp.or IntKind.u64 (a : Int) (IntKind.u64.wrap (((y : Int) % 128) * 2 ^ (7 * k))) = ((a + y % 128 * 128 ^ k : Nat) : Int) from by
        have e1 : ((y : Int) % 128) * 2 ^ (7 * k) = ((y % 128 * 128 ^ k : Nat) : Int) := by rw [← HP]; push_cast; rfl
        rw [e1, wraps_u64 _ (by omega) (by omega)]
        have hal : a < 2 ^ (7 * k) := by rw [HP]; exact ha
        have ha2 : a < 2 ^ 64 := by omega
        rw [bits_join_low .u64 64 (by decide) wraps_u64 (7 * k) _ _ (by omega) (by exact_mod_cast hal) (by exact_mod_cast ha2) (by omega) (by rw [← HP]; push_cast; exact Int.mul_emod_left _ _) (by omega)]
        push_cast
        rfl)
      have k8 : (k : Int) < 9 := by omega
      clear r sy f ha hxa hln hx HP HPP hy2
      go_wp2_with fail
      refine RB.out.mono ?_
      rintro e w2 ⟨rfl, r2, f2⟩
      have R2 := Lib.hid r2
      have F2 := Lib.hid f2
      rw [uv_b1]
      clear r2 f2
      have HA := Lib.hid (show IntKind.u64.wrap (bits BinOp.and IntKind.u8 ((y : Int) % 128 + 128) 127) = (y : Int) % 128 from by
        rw [u8_and127 _ (by omega) (by omega), IntKind.wrap_u64]
        omega)
      go_wp2_with fail
      rw [HA.out, HV.out]
      refine ⟨⟨k + 1, a + y % 128 * 128 ^ k, y / 128, by omega, by rw [Int.natCast_add]; rfl, ?_, rfl, HX.out.1, HX.out.2, HS2.out.1, HS2.out.2, R2.out, F.out.trans1 F2.out⟩, by simp [intOf]; omega⟩
      rw [Nat.mul_add]
      push_cast
      rfl
end Go.Proofs.YtfckbpgghlifjaaGreatDoor
