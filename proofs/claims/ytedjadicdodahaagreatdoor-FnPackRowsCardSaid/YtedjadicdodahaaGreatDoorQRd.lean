/- strings.Reader: bytes and numbers read where they stand. -/
import Derived.Lib.BufferAt
import Derived.Lib.EndianBits
import Derived.Lib.VarintBits
import Derived.Deep.RegionHeld3
import Derived.BigRegion
import Derived.BigQuiet
import Derived.Test.YtedjadicdodahaaGreatDoorSlB
import Derived.Test.YtedjadicdodahaaGreatDoorRp
import Derived.Lib.BufferWrite
import Derived.Stop.Asserts
import Derived.Test.YtedjadicdodahaaGreatDoorPEnB
import Derived.Laws.CopyRow
namespace Go.Proofs.YtedjadicdodahaaGreatDoor
open Go.RowKit

/-- A reader at place q of block b: the string t, read up to i. -/
def Rs (T : TypeId) (R : Nat → Option Value) (b q : Nat) (t : ByteArray) (i : Nat) (w : World) : Prop := ∃ pr : Int, LibA.Three w b q T R (.string t) (.int .i64 i) (.int .i64 pr)
section
variable {T : TypeId} {R : Nat → Option Value} {b q : Nat} {t : ByteArray} {i : Nat} {w w' : World} {G : List Nat}
theorem Rs.lt (h : Rs T R b q t i w) : b < w.heap.size := by obtain ⟨_, h⟩ := h; exact h.lt
theorem Rs.fr (h : Rs T R b q t i w) (f : Fr G w w') (hb : b ∉ G) : Rs T R b q t i w' := by
  obtain ⟨pr, h⟩ := h
  exact ⟨pr, h.of_heap (f.block b h.lt hb)⟩
theorem Rs.here (h : Rs T R b q t i w) (f : Below w.heap.size w w') : Rs T R b q t i w' := h.fr (Fr.of_below (gs := []) f) (by simp)
theorem Rs.new (h : Blk w b 85 #[.string t, .int .i64 0, .int .i64 (-1)]) : Rs 85 (fun _ => none) b 0 t 0 w := ⟨-1, LibA.three_whole h⟩
end
theorem newReader_any (t : ByteArray) (w : World) : Calls Tryz.prog 72 #[.string t] w (RetNew 85 #[.string t, .int .i64 0, .int .i64 (-1)] w) := by
  go_enter Tryz.func72, Tryz.ntmps72
  go_wp2
  go_ret
  exact ⟨w.heap.size, rfl, Nat.le_refl _, Blk.new _ _ _, Below.alloc (Below.refl _ _) (Nat.le_refl _) _⟩
set_option maxRecDepth 100000 in
set_option maxHeartbeats 1000000 in
theorem readByte_any {T : TypeId} {R : Nat → Option Value} {b q : Nat} {t : ByteArray} {i : Nat} {w : World} (h : Rs T R b q t i w) (c : UInt8) (hc : t.data.toList[i]? = some c) (ht : t.size ≤ 1000000000) :
    Calls Tryz.prog 126 #[.pointer (some ⟨b, q, none⟩)] w fun e w' => e = .returned (.tuple #[.int .u8 c.toNat, .nilIface]) ∧ Rs T R b q t (i + 1) w' ∧ Fr [b] w w' := by
  obtain ⟨pr, h3⟩ := h
  have hi : i < t.size := by
    obtain ⟨h1, _⟩ := List.getElem?_eq_some_iff.1 hc
    rw [Array.length_toList] at h1
    exact h1
  have H3 := Lib.hid h3
  have c0 := h3.c0
  have c1 := h3.c1
  have c2 := h3.c2
  have f0 := h3.f q
  have f1 := h3.f (q + 1)
  have f2 := h3.f (q + 2)
  have i0 : (0 : Int) ≤ i := by omega
  have i1 : (i : Int) < t.size := by omega
  clear h3
  go_enter Tryz.func126, Tryz.ntmps126
  go_wp2
  obtain ⟨w1, hw1⟩ : ∃ w1, w1 = w.setCell ⟨b, q + 2, none⟩ (.int .i64 (-1)) := ⟨_, rfl⟩
  have h1 := H3.out.set2 (.int .i64 (-1))
  have k1 := (Fr.refl [b] w).setCell (p := ⟨b, q + 2, none⟩) (.inl (by simp)) (.int .i64 (-1))
  rw [← hw1] at h1 k1 ⊢
  have d0 := h1.c0
  have d1 := h1.c1
  have e1 := h1.f (q + 1)
  have H1 := Lib.hid h1
  have K1 := Lib.hid k1
  clear h1 k1 c0 c1 c2 f0 f1 f2 hw1
  go_quiet (fail)
  go_wp2_with fail
  go_quiet (fail)
  go_wp2_with fail
  have hci : t[i] = c := by
    have h9 := (List.getElem?_eq_some_iff.1 hc).2
    rw [← h9]
    rfl
  rw [hci]
  go_returns
  exact ⟨rfl, ⟨-1, by rw [Int.natCast_add]; exact (H1.out.of_heap (w' := w1.drewN _) rfl).set1 _⟩, (K1.out.drewN _).setCell (.inl (List.mem_singleton.2 rfl)) _⟩
set_option maxRecDepth 100000 in
set_option maxHeartbeats 1000000 in
theorem readUvarint_any {T : TypeId} {R : Nat → Option Value} {b q : Nat} {t : ByteArray} {i : Nat} {w : World} (h : Rs T R b q t i w) (x : Nat) (hx : x < 18446744073709551616) (hs : Sat t i (uv x)) (ht : t.size ≤ 1000000000) :
    Calls Tryz.prog 113 #[.pointer (some ⟨b, q, none⟩)] w fun e w' => e = .returned (.tuple #[.int .u64 x, .nilIface]) ∧ Rs T R b q t (i + (uv x).length) w' ∧ Fr [b] w w' := by
  have H := Lib.hid h
  have HS := Lib.hid hs
  clear h hs
  go_enter Tryz.func113, Tryz.ntmps113
  go_wp2_with fail
  go_loopw [4, 5, 6] (fun a4 a5 a6 wr => ∃ k a y : Nat, k ≤ 9 ∧ a6 = .int .i64 k ∧ a5 = .int .u64 (7 * k : Nat) ∧ a4 = .int .u64 a ∧ a < 128 ^ k ∧ x = a + y * 128 ^ k ∧ Sat t (i + k) (uv y) ∧ (uv x).length = k + (uv y).length ∧ Rs T R b q t (i + k) wr ∧ Fr [b] w wr) (fun _ _ a6 _ => 10 - (intOf a6).toNat)
  case atStart => exact ⟨0, 0, x, by omega, rfl, rfl, rfl, by omega, by omega, HS.out, by omega, H.out, Fr.refl _ _⟩
  case round =>
    obtain ⟨k, a, y, hk, rfl, rfl, rfl, ha, hxa, sy, hln, r, f⟩ := hrel
    have SY := Lib.hid sy
    have LN := Lib.hid hln
    have F := Lib.hid f
    have k0 : (0 : Int) ≤ k := by omega
    have k1 : (k : Int) ≤ 9 := by omega
    by_cases hy : y < 128
    · have RB := Lib.hid (readByte_any r y.toUInt8 (by have h9 := sy.at 0 (by rw [uv_small hy]; simp); simpa [uv_small hy] using h9) ht)
      have HL := Lib.hid (show i + (uv x).length = i + k + 1 from by rw [hln, uv_small hy]; simp; omega)
      by_cases h9 : k = 9
      · subst h9
        have y1 : (y : Int) ≤ 1 := by
          have : y * 128 ^ 9 < 2 * 128 ^ 9 := by omega
          omega
        have y0 : (0 : Int) ≤ y := by omega
        have HV := Lib.hid (show bits BinOp.or IntKind.u64 (a : Int) ((y : Int) * 9223372036854775808) = x from by
          rw [bits_join_low .u64 64 (by decide) wraps_u64 63 _ _ (by omega) (by omega) (by omega) (by omega) (by omega) (by omega)]
          omega)
        clear r sy f ha hxa hln hx
        go_wp2_with fail
        refine RB.out.mono ?_
        rintro e w2 ⟨rfl, r2, f2⟩
        have R2 := Lib.hid r2
        have F2 := Lib.hid f2
        rw [uv_b0 hy]
        clear r2 f2
        go_wp2_with fail
        go_returns
        rw [HV.out, HL.out]
        exact ⟨rfl, R2.out, F.out.trans1 F2.out⟩
      · have k8 : (k : Int) < 9 := by omega
        have HP : 2 ^ (7 * k) = 128 ^ k := by rw [Nat.pow_mul]
        have HPP : 128 ^ k ≤ 128 ^ 8 := Nat.pow_le_pow_right (by omega) (by omega)
        have hy2 : y * 128 ^ k < 18446744073709551616 := by omega
        have HV := Lib.hid (show bits BinOp.or IntKind.u64 (a : Int) (IntKind.u64.wrap ((y : Int) * 2 ^ (7 * k))) = x from by
          have e1 : (y : Int) * 2 ^ (7 * k) = ((y * 128 ^ k : Nat) : Int) := by rw [← HP]; push_cast; rfl
          rw [e1, wraps_u64 _ (by omega) (by omega)]
          have hal : a < 2 ^ (7 * k) := by rw [HP]; exact ha
          have ha2 : a < 2 ^ 64 := by omega
          rw [bits_join_low .u64 64 (by decide) wraps_u64 (7 * k) _ _ (by omega) (by exact_mod_cast hal) (by exact_mod_cast ha2) (by omega) (by rw [← HP]; push_cast; exact Int.mul_emod_left _ _) (by omega)]
          omega)
        clear r sy f ha hxa hln hx HP HPP hy2
        go_wp2_with fail
        refine RB.out.mono ?_
        rintro e w2 ⟨rfl, r2, f2⟩
        have R2 := Lib.hid r2
        have F2 := Lib.hid f2
        rw [uv_b0 hy]
        have y0 : (0 : Int) ≤ y := by omega
        have y1 : (y : Int) < 128 := by omega
        have k9 : ¬ (k : Int) = 9 := by omega
        clear r2 f2
        go_wp2_with fail
        go_returns
        rw [HV.out, HL.out]
        exact ⟨rfl, R2.out, F.out.trans1 F2.out⟩
    · have hyb : 128 ≤ y := by omega
      have hk9 : k < 9 := by
        rcases Nat.lt_or_ge k 9 with h | h
        · exact h
        · have : k = 9 := by omega
          subst this
          omega
      have RB := Lib.hid (readByte_any r (y % 128 + 128).toUInt8 (by have h9 := sy.at 0 (by rw [uv_big hyb]; simp); simpa [uv_big hyb] using h9) ht)
      have HS2 := Lib.hid (show Sat t (i + (k + 1)) (uv (y / 128)) ∧ (uv x).length = k + 1 + (uv (y / 128)).length from by
        have h1 := sy
        rw [uv_big hyb] at h1 hln
        have h2 := Sat.right (a := [(y % 128 + 128).toUInt8]) h1
        rw [List.length_cons] at hln
        exact ⟨h2, by omega⟩)
      have HP : 2 ^ (7 * k) = 128 ^ k := by rw [Nat.pow_mul]
      have HX := Lib.hid (show a + y % 128 * 128 ^ k < 128 ^ (k + 1) ∧ x = (a + y % 128 * 128 ^ k) + y / 128 * 128 ^ (k + 1) from by
        have h1 : y % 128 * 128 ^ k ≤ 127 * 128 ^ k := Nat.mul_le_mul_right _ (by omega)
        have h2 : y = y % 128 + y / 128 * 128 := by omega
        have h3 : y * 128 ^ k = y % 128 * 128 ^ k + y / 128 * (128 * 128 ^ k) := by conv => lhs; rw [h2, Nat.add_mul, Nat.mul_assoc]
        rw [Nat.pow_succ, Nat.mul_comm (128 ^ k) 128]
        omega)
      have HPP : 128 ^ k ≤ 128 ^ 8 := Nat.pow_le_pow_right (by omega) (by omega)
      have hy2 : y % 128 * 128 ^ k < 18446744073709551616 := by
        have : y % 128 * 128 ^ k ≤ 127 * 128 ^ k := Nat.mul_le_mul_right _ (by omega)
        omega
      have HV := Lib.hid (show bits BinOp.or IntKind.u64 (a : Int) (IntKind.u64.wrap (((y : Int) % 128) * 2 ^ (7 * k))) = ((a + y % 128 * 128 ^ k : Nat) : Int) from by
        have e1 : ((y : Int) % 128) * 2 ^ (7 * k) = ((y % 128 * 128 ^ k : Nat) : Int) := by rw [← HP]; push_cast; rfl
        rw [e1, wraps_u64 _ (by omega) (by omega)]
        have hal : a < 2 ^ (7 * k) := by rw [HP]; exact ha
        have ha2 : a < 2 ^ 64 := by omega
        rw [bits_join_low .u64 64 (by decide) wraps_u64 (7 * k) _ _ (by omega) (by exact_mod_cast hal) (by exact_mod_cast ha2) (by omega) (by rw [← HP]; push_cast; exact Int.mul_emod_left _ _) (by omega)]
        push_cast
        rfl)
      have k8 : (k : Int) < 9 := by omega
      clear r sy f ha hxa hln hx HP HPP hy2
      go_wp2_with fail
      refine RB.out.mono ?_
      rintro e w2 ⟨rfl, r2, f2⟩
      have R2 := Lib.hid r2
      have F2 := Lib.hid f2
      rw [uv_b1]
      clear r2 f2
      have HA := Lib.hid (show IntKind.u64.wrap (bits BinOp.and IntKind.u8 ((y : Int) % 128 + 128) 127) = (y : Int) % 128 from by
        rw [u8_and127 _ (by omega) (by omega), IntKind.wrap_u64]
        omega)
      go_wp2_with fail
      rw [HA.out, HV.out]
      refine ⟨⟨k + 1, a + y % 128 * 128 ^ k, y / 128, by omega, by rw [Int.natCast_add]; rfl, ?_, rfl, HX.out.1, HX.out.2, HS2.out.1, HS2.out.2, R2.out, F.out.trans1 F2.out⟩, by simp [intOf]; omega⟩
      rw [Nat.mul_add]
      push_cast
      rfl
end Go.Proofs.YtedjadicdodahaaGreatDoor

namespace Go.Proofs.YtedjadicdodahaaGreatDoor
open Go.RowKit

/-- 'copy(dst, s)', s a string longer than dst, dst a whole row: its first bytes. -/
theorem run_copy_part_string {P : Program} (w : World) (dT sT ty elem : TypeId) (g n c : Nat) (s : ByteArray) (cur : Array Value) (t : TypeId)
    (hu : P.underlying dT = some (.slice elem)) (hs : (P.info? elem).map (·.size) = some 1) (hg : w.heap[g]? = some (.cells cur t (0, 0))) (hle : n ≤ s.size) (hfit : cur.size = n) :
    (Builtin.copy_ #[dT, sT] ty #[.slice (some ⟨g, 0, none⟩) n c, .string s]).run P w = .ok (goInt n) (w.setRow g (Lib.byteCells (s.data.toList.take n)).toArray) := by
  have hl : s.data.toList.length = s.size := by rw [Array.length_toList]; rfl
  have hlen : (Lib.byteCells (s.data.toList.take n)).length = n := by rw [byteCells_length, List.length_take]; omega
  have hst := run_storeCells_at P g 0 t (Lib.byteCells (s.data.toList.take n)) 0 cur w hg (by rw [hlen]; simp [hfit]) (byteCells_one _)
  have hmin : Nat.min s.size n = n := Nat.min_eq_right hle
  have htk : List.take n (List.map (fun b : UInt8 => Value.int IntKind.u8 (b.toNat : Int)) s.data.toList) = Lib.byteCells (s.data.toList.take n) := by
    rw [← List.map_take]
    rfl
  rw [hlen] at hst
  simp only [Nat.add_zero] at hst
  cases hq : P.info? elem with
  | none => simp [hq] at hs
  | some i =>
    have hd : cur.toList.drop n = [] := List.drop_eq_nil_of_le (by rw [Array.length_toList]; omega)
    simp [Builtin.copy_, run_underlying hu, Builtin.lenOf, Builtin.firstCells, sizeOf, typeInfo, hq, hmin]
    rw [htk, hst]
    simp [Result.andThen, hd]
theorem take_sat {t : ByteArray} {i : Nat} {l : List UInt8} (h : Sat t i l) : ((t.extract i t.size).data.toList).take l.length = l := by
  obtain ⟨r, hr⟩ := h.2
  rw [ByteArray.data_extract, Array.toList_extract, List.extract_eq_take_drop, ← hr]
  have h1 : (l ++ r).length = t.size - i := by
    rw [hr, List.length_drop, Array.length_toList]
    rfl
  have h2 : l.length ≤ t.size - i := by rw [← h1, List.length_append]; omega
  rw [List.take_take, Nat.min_eq_left h2, List.take_left]
set_option maxRecDepth 100000 in
set_option maxHeartbeats 1000000 in
theorem readerRead_any {T : TypeId} {R : Nat → Option Value} {b q : Nat} {t : ByteArray} {i : Nat} {w : World} (h : Rs T R b q t i w) (l : List UInt8) (hl : l.length = 4) (hs : Sat t i l) (ht : t.size ≤ 1000000000) (g c : Nat) (u : TypeId) (old : Array Value) (hg : Blk w g u old) (ho : old.size = 4) (hgb : g ≠ b) :
    Calls Tryz.prog 160 #[.pointer (some ⟨b, q, none⟩), .slice (some ⟨g, 0, none⟩) 4 c] w fun e w' => e = .returned (.tuple #[.int .i64 4, .nilIface]) ∧ Rs T R b q t (i + 4) w' ∧ Blk w' g u (Lib.byteCells l).toArray ∧ Fr [b, g] w w' := by
  obtain ⟨pr, h3⟩ := h
  have hi := hs.1
  rw [hl] at hi
  have H3 := Lib.hid h3
  have c0 := h3.c0
  have c1 := h3.c1
  have c2 := h3.c2
  have f0 := h3.f q
  have f1 := h3.f (q + 1)
  have f2 := h3.f (q + 2)
  have i0 : (0 : Int) ≤ i := by omega
  have i1 : (i : Int) < t.size := by omega
  have i2 : (i : Int) ≤ t.size := by omega
  have HG := Lib.hid hg
  have TK := Lib.hid (take_sat hs)
  have EX := Lib.hid (show 4 ≤ (t.extract i t.size).size from by rw [ByteArray.size_extract]; omega)
  clear h3 hg hs
  go_enter Tryz.func160, Tryz.ntmps160
  go_wp2
  go_quiet (fail)
  go_wp2
  obtain ⟨w1, hw1⟩ : ∃ w1, w1 = (w.drewN nq).setCell ⟨b, q + 2, none⟩ (.int .i64 (-1)) := ⟨_, rfl⟩
  have h1 := (H3.out.of_heap (w' := w.drewN nq) rfl).set2 (.int .i64 (-1))
  have k1 := ((Fr.refl [b, g] w).drewN nq).setCell (p := ⟨b, q + 2, none⟩) (.inl (by simp)) (.int .i64 (-1))
  have g1 := HG.out.fr (((Fr.refl [b] w).drewN nq).setCell (p := ⟨b, q + 2, none⟩) (.inl (by simp)) (.int .i64 (-1))) (by simpa using hgb)
  rw [← hw1] at h1 k1 g1 ⊢
  have hcp := run_copy_part_string (P := Tryz.prog) w1.drew 70 9 3 5 g 4 c (t.extract i t.size) old u Tryz.underlying70 (by kernel_rfl) g1.drew EX.out ho
  have hlt : (Lib.byteCells ((t.extract i t.size).data.toList.take 4)) = Lib.byteCells l := by rw [← hl, TK.out]
  rw [hlt] at hcp
  replace hcp : (Builtin.copy_ #[70, 9] 3 #[.slice (some ⟨g, 0, none⟩) 4 c, .string (t.extract i t.size)]).run Tryz.prog w1.drew = .ok (.int .i64 4) (w1.drew.setRow g (Lib.byteCells l).toArray) := by simpa [goInt] using hcp
  obtain ⟨w2, hw2⟩ : ∃ w2, w2 = w1.drew.setRow g (Lib.byteCells l).toArray := ⟨_, rfl⟩
  have f2 : Fr [g] w1.drew w2 := by rw [hw2]; exact fr_setRow (Fr.refl _ _) (.inl (by simp)) _
  have h2 := (h1.of_heap (w' := w1.drew) rfl).of_heap (f2.block b (by have := h1.lt; exact this) (by simpa using hgb.symm))
  have g2 : Blk w2 g u (Lib.byteCells l).toArray := by rw [hw2]; exact setRow_heap _ _ _ _ _ _ g1.drew
  rw [← hw2] at hcp
  have d0 : w1.drew.cell? ⟨b, q, none⟩ = some (.string t) := h1.c0
  have d1 : w1.drew.cell? ⟨b, q + 1, none⟩ = some (.int .i64 i) := h1.c1
  have e0 := h2.c0
  have e1 := h2.c1
  have e2 := h2.f (q + 1)
  have H2 := Lib.hid h2
  have G2 := Lib.hid g2
  have K1 := Lib.hid k1
  have F2 := Lib.hid f2
  clear h1 k1 g1 h2 g2 f2 c0 c1 c2 f0 f1 hw1 hw2 hlt
  go_region_held3 (fun W => W.cell? ⟨b, q, none⟩ = some (.string t) ∧ W.cell? ⟨b, q + 1, none⟩ = some (.int .i64 i)) (first | exact ⟨d0, d1⟩ | exact ⟨e0, e1⟩ | go_keep) (fail)
  all_goals
    have d0 := H2.out.c0
    go_wp2 
    go_returns
    exact ⟨rfl, ⟨-1, by rw [Int.natCast_add]; exact H2.out.set1 _⟩, G2.out.fr ((Fr.refl [b] w2).setCell (.inl (by simp)) _) (by simpa using hgb), (((K1.out.drew).trans F2.out (fun j hj => .inl (by rw [List.mem_singleton.1 hj]; simp))).setCell (.inl (by simp)) _)⟩
/-- What reading four bytes leaves. -/
def Read4 (T : TypeId) (R : Nat → Option Value) (b : Nat) (t : ByteArray) (i : Nat) (l : List UInt8) (g : Nat) (u : TypeId) (w w' : World) : Prop := Rs T R b 0 t (i + 4) w' ∧ Blk w' g u (Lib.byteCells l).toArray ∧ Fr [b, g] w w'
set_option maxRecDepth 100000 in
set_option maxHeartbeats 2000000 in
theorem readAtLeast_any {T : TypeId} {R : Nat → Option Value} {b : Nat} {t : ByteArray} {i : Nat} {w : World} (h : Rs T R b 0 t i w) (l : List UInt8) (hl : l.length = 4) (hs : Sat t i l) (ht : t.size ≤ 1000000000) (g : Nat) (u : TypeId) (old : Array Value) (hg : Blk w g u old) (ho : old.size = 4) (hgb : g ≠ b) :
    Calls Tryz.prog 112 #[.iface 148 (.pointer (some ⟨b, 0, none⟩)), .slice (some ⟨g, 0, none⟩) 4 4, .int .i64 4] w fun e w' => e = .returned (.tuple #[.int .i64 4, .nilIface]) ∧ Read4 T R b t i l g u w w' := by
  have RD := Lib.hid (fun k => readerRead_any (w := w.drewN k) (h.here (below_drewN (Below.refl _ _) k)) l hl hs ht g 4 u old (hg.drewN k) ho hgb)
  have hmf : ∀ (fn : Fn) (first cap : Array Value) (w : World), (Instr.makeFunc fn first cap).run Tryz.prog w = .ok (.func fn first cap) w := fun _ _ _ _ => rfl
  have hna : ∀ (k : Nat) (W : World), (nilAhead (k + 1) 148 (.pointer (some ⟨b, 0, none⟩)) "Read").run Tryz.prog W = .ok (some false) W := fun k W => by kernel_rfl
  clear h hg hs
  go_enter Tryz.func112, Tryz.ntmps112
  go_wp2
  go_loopw [6, 7, 8] (fun m e _ wr => e = .nilIface ∧ ((m = .int .i64 0 ∧ wr = w) ∨ (m = .int .i64 4 ∧ Read4 T R b t i l g u w wr))) (fun m _ _ _ => 4 - (intOf m).toNat)
  case atStart => exact ⟨rfl, .inl ⟨rfl, rfl⟩⟩
  case round =>
    obtain ⟨rfl, ⟨rfl, rfl⟩ | ⟨rfl, hr⟩⟩ := hrel
    · go_wp2
      go_region_held3 (fun _ => True) (first | trivial | go_keep)
        (first | (go_at_call 160; refine (RD.out 1).mono ?_; rintro e w2 ⟨rfl, r2, g2, f2⟩; have R2 := Lib.hid r2; have G2 := Lib.hid g2; have F2 := Lib.hid (show Fr [b, g] wr w2 from ⟨f2.os, f2.tape, f2.output, f2.size, f2.block⟩); clear r2 g2 f2))
      all_goals
        go_wp2
        go_roundw
        case rel => exact ⟨rfl, .inr ⟨rfl, R2.out, G2.out, F2.out⟩⟩
        case measure => simp [intOf]
    · go_wp2
      go_returns
      exact ⟨rfl, hr⟩
set_option maxRecDepth 100000 in
set_option maxHeartbeats 1000000 in
theorem readFull_any {T : TypeId} {R : Nat → Option Value} {b : Nat} {t : ByteArray} {i : Nat} {w : World} (h : Rs T R b 0 t i w) (l : List UInt8) (hl : l.length = 4) (hs : Sat t i l) (ht : t.size ≤ 1000000000) (g : Nat) (u : TypeId) (old : Array Value) (hg : Blk w g u old) (ho : old.size = 4) (hgb : g ≠ b) :
    Calls Tryz.prog 100 #[.iface 148 (.pointer (some ⟨b, 0, none⟩)), .slice (some ⟨g, 0, none⟩) 4 4] w fun e w' => e = .returned (.tuple #[.int .i64 4, .nilIface]) ∧ Read4 T R b t i l g u w w' := by
  have RD := Lib.hid (readAtLeast_any h l hl hs ht g u old hg ho hgb)
  clear h hg hs
  go_enter Tryz.func100, Tryz.ntmps100
  go_wp2_with fail
  refine RD.out.mono ?_
  rintro e w2 ⟨rfl, r2⟩
  have R2 := Lib.hid r2
  clear r2
  go_wp2_with fail
  go_returns
  exact ⟨rfl, R2.out⟩
set_option maxRecDepth 100000 in
set_option maxHeartbeats 1000000 in
theorem readUint32_any {T : TypeId} {R : Nat → Option Value} {b : Nat} {t : ByteArray} {i : Nat} {w : World} (h : Rs T R b 0 t i w) (x : Nat) (hx : x < 4294967296) (hs : Sat t i (le4 x)) (ht : t.size ≤ 1000000000) (g o : Nat) (v0 : Value) (hc : w.cell? ⟨g, o, none⟩ = some v0) (hf : w.frozen? ⟨g, o, none⟩ = false) (hgb : g ≠ b) :
    Calls Tryz.prog 73 #[.iface 148 (.pointer (some ⟨b, 0, none⟩)), .pointer (some ⟨g, o, none⟩)] w fun e w' => e = .returned .nilIface ∧ Rs T R b 0 t (i + 4) w' ∧ ∃ w1, w' = w1.setCell ⟨g, o, none⟩ (.int .u32 x) ∧ Fr [b] w w1 := by
  have hbz := h.lt
  have hgz := World.block_lt_of_cell? w _ hc
  replace hgz : g < w.heap.size := hgz
  obtain ⟨w0, hw0⟩ : ∃ w0, w0 = w.alloc (.cells #[.int .u8 0, .int .u8 0, .int .u8 0, .int .u8 0] 187) := ⟨_, rfl⟩
  have b0 : Below w.heap.size w w0 := by rw [hw0]; exact Below.alloc (Below.refl _ _) (Nat.le_refl _) _
  have k0 : Blk w0 w.heap.size 187 #[.int .u8 0, .int .u8 0, .int .u8 0, .int .u8 0] := by rw [hw0]; exact Blk.new _ _ _
  have RD := Lib.hid (readFull_any (h.here b0) (le4 x) rfl hs ht w.heap.size 187 _ k0 rfl (by omega))
  have C0 := Lib.hid (keep_cell b0 hc)
  have FF := Lib.hid (show w0.frozen? ⟨g, o, none⟩ = false from (World.frozen?_of_block (a := ⟨g, o, none⟩) (b0.block g hgz)).trans hf)
  have HW := Lib.hid hw0
  have B0 := Lib.hid b0
  obtain ⟨⟨v1, v2⟩, v3, v4⟩ := le4_val x hx
  have BC := Lib.hid (show (Lib.byteCells (le4 x)).toArray = #[.int .u8 ((x % 256 : Nat) : Int), .int .u8 ((x / 256 % 256 : Nat) : Int), .int .u8 ((x / 65536 % 256 : Nat) : Int), .int .u8 ((x / 16777216 : Nat) : Int)] from by
    unfold Lib.byteCells le4
    simp only [List.map_cons, List.map_nil, v1, v2, v3, v4])
  obtain ⟨y0, hy0⟩ : ∃ y0, y0 = x % 256 := ⟨_, rfl⟩
  obtain ⟨y1, hy1⟩ : ∃ y1, y1 = x / 256 % 256 := ⟨_, rfl⟩
  obtain ⟨y2, hy2⟩ : ∃ y2, y2 = x / 65536 % 256 := ⟨_, rfl⟩
  obtain ⟨y3, hy3⟩ : ∃ y3, y3 = x / 16777216 := ⟨_, rfl⟩
  have h0 : (y0 : Int) < 256 := by omega
  have h1 : (y1 : Int) < 256 := by omega
  have h2 : (y2 : Int) < 256 := by omega
  have h3 : (y3 : Int) < 256 := by omega
  have p0 : (0 : Int) ≤ y0 := by omega
  have p1 : (0 : Int) ≤ y1 := by omega
  have p2 : (0 : Int) ≤ y2 := by omega
  have p3 : (0 : Int) ≤ y3 := by omega
  rw [← hy0, ← hy1, ← hy2, ← hy3] at BC
  have SUM := Lib.hid (show bits BinOp.or IntKind.u32 (bits BinOp.or IntKind.u32 (bits BinOp.or IntKind.u32 (y0 : Int) ((y1 : Int) * 256)) ((y2 : Int) * 65536)) ((y3 : Int) * 16777216) = (x : Int) from by
    rw [u32_or8 (y0 : Int) ((y1 : Int) * 256) p0 h0 (by omega) (by omega) (by omega), u32_or16 ((y0 : Int) + (y1 : Int) * 256) ((y2 : Int) * 65536) (by omega) (by omega) (by omega) (by omega) (by omega), u32_or24 ((y0 : Int) + (y1 : Int) * 256 + (y2 : Int) * 65536) ((y3 : Int) * 16777216) (by omega) (by omega) (by omega) (by omega) (by omega)]
    omega)
  clear h hs hc hf b0 k0 hw0 v1 v2 v3 v4 hy0 hy1 hy2 hy3
  go_enter Tryz.func73, Tryz.ntmps73
  go_wp2_with fail
  rw [← HW.out]
  refine RD.out.mono ?_
  rintro e w2 ⟨rfl, r2, g2, f2⟩
  rw [BC.out] at g2
  have e0 := g2.cell 0
  have e1 := g2.cell 1
  have e2 := g2.cell 2
  have e3 := g2.cell 3
  have cz := f2.cell C0.out (by simp; omega)
  have fz : w2.frozen? ⟨g, o, none⟩ = false := (World.frozen?_of_block (a := ⟨g, o, none⟩) (f2.block g (by have := B0.out.size; omega) (by simp; omega))).trans FF.out
  have R2 := Lib.hid r2
  have F2 := Lib.hid (show Fr [b] w w2 from (Fr.of_below (gs := [b]) B0.out).trans f2 (fun j hj => by
    simp only [List.mem_cons, List.not_mem_nil, or_false] at hj ⊢
    rcases hj with hj | hj
    · exact .inl hj
    · exact .inr (by omega)))
  clear g2 r2 f2
  go_wp2_with fail
  rw [SUM.out]
  go_ret
  exact ⟨rfl, R2.out.fr ((Fr.refl [g] w2).setCell (.inl (by simp)) _) (by simpa using fun e => hgb e.symm), w2, rfl, F2.out⟩
/-- Numbers read into a part of a block. -/
structure Nums (g : Nat) (ty : TypeId) (cs : Array Value) (o n : Nat) (vs : List Nat) (cs' : Array Value) : Prop where
  size : cs'.size = cs.size
  at_ : ∀ j x, j < n → vs[j]? = some x → cs'[o + j]? = some (.int .u32 x)
  far : ∀ k, (k < o ∨ o + n ≤ k) → cs'[k]? = cs[k]?
set_option maxRecDepth 100000 in
set_option maxHeartbeats 2000000 in
theorem readUint32s_any {T : TypeId} {R : Nat → Option Value} {b : Nat} {t : ByteArray} {i : Nat} {w : World} (h : Rs T R b 0 t i w) (vs : List Nat) (hv : ∀ x ∈ vs, x < 4294967296) (hs : Sat t i (vs.flatMap le4)) (ht : t.size ≤ 1000000000) (g o c : Nat) (ty : TypeId) (cs : Array Value) (hg : Blk w g ty cs) (ho : o + vs.length ≤ cs.size) (hn : vs.length ≤ 100000000) (hgb : g ≠ b) :
    Calls Tryz.prog 75 #[.iface 148 (.pointer (some ⟨b, 0, none⟩)), .slice (some ⟨g, o, none⟩) vs.length c] w fun e w' => e = .returned .nilIface ∧ Rs T R b 0 t (i + 4 * vs.length) w' ∧ Fr [b, g] w w' ∧ ∃ cs', Blk w' g ty cs' ∧ Nums g ty cs o vs.length vs cs' := by
  have H := Lib.hid h
  have HG := Lib.hid hg
  have HS := Lib.hid hs
  have HV := Lib.hid hv
  have n0 : (0 : Int) ≤ vs.length := by omega
  have n1 : (vs.length : Int) ≤ 100000000 := by omega
  clear h hg hs hv
  go_enter Tryz.func75, Tryz.ntmps75
  go_wp2_with fail
  go_loopw [5, 6, 9] (fun _ _ x wr => ∃ k : Nat, k ≤ vs.length ∧ x = .int .i64 k ∧ Rs T R b 0 t (i + 4 * k) wr ∧ Fr [b, g] w wr ∧ ∃ cs', Blk wr g ty cs' ∧ Nums g ty cs o k vs cs') (fun _ _ x _ => vs.length - (intOf x).toNat)
  case atStart => exact ⟨0, by omega, rfl, H.out, Fr.refl _ _, cs, HG.out, ⟨rfl, fun j x hj => by omega, fun k _ => rfl⟩⟩
  case round =>
    obtain ⟨k, hk, rfl, hr, hf, cs', hb, hn'⟩ := hrel
    obtain ⟨wk, rfl⟩ : ∃ wk : World, wk = wr := ⟨_, rfl⟩
    have HF := Lib.hid hf
    have HB := Lib.hid hb
    have HN := Lib.hid hn'
    have HR := Lib.hid hr
    by_cases hlt : k < vs.length
    · have hsz := hn'.size
      have hx := HV.out vs[k] (List.getElem_mem hlt)
      have hsat : Sat t (i + 4 * k) (le4 vs[k]) := by
        have h0 : vs = vs.take k ++ vs[k] :: vs.drop (k + 1) := by rw [List.getElem_cons_drop, List.take_append_drop]
        have h1 := HS.out
        rw [h0, List.flatMap_append, List.flatMap_cons] at h1
        have h2 := h1.right.left
        rw [flat4_len, List.length_take, Nat.min_eq_left (by omega)] at h2
        exact h2
      have RD := Lib.hid (readUint32_any hr vs[k] hx hsat ht g (o + k) (cs'[o + k]'(by omega)) (by rw [hb.cell, Array.getElem?_eq_getElem]) (hb.frozen _) hgb)
      have k0 : (0 : Int) ≤ k := by omega
      have k1 : (k : Int) < vs.length := by omega
      have VK := Lib.hid (show vs[k]? = some vs[k] from List.getElem?_eq_getElem hlt)
      obtain ⟨x, hxk⟩ : ∃ x, x = vs[k] := ⟨_, rfl⟩
      rw [← hxk] at RD VK
      clear hr hf hb hn' hsat hx hxk
      go_wp2_with fail
      refine RD.out.mono ?_
      rintro e w2 ⟨rfl, r2, w1, rfl, f1⟩
      have R2 := Lib.hid r2
      have F2 := Lib.hid (show Fr [b, g] w (w1.setCell ⟨g, o + k, none⟩ (.int .u32 x)) from (HF.out.trans f1 (fun j hj => .inl (by rw [List.mem_singleton.1 hj]; simp))).setCell (.inl (by simp)) _)
      have B2 := Lib.hid ((HB.out.fr f1 (by simpa using hgb)).set_ (o + k) (.int .u32 x))
      have N2 := Lib.hid (show Nums g ty cs o (k + 1) vs (cs'.setIfInBounds (o + k) (.int .u32 x)) from by
        refine ⟨by rw [Array.size_setIfInBounds]; exact HN.out.size, fun j y hj hy => ?_, fun q hq => ?_⟩
        · by_cases e : j = k
          · subst e
            rw [VK.out, Option.some.injEq] at hy
            rw [Array.getElem?_setIfInBounds_self_of_lt (by omega), hy]
          · rw [Array.getElem?_setIfInBounds_ne (by omega)]
            exact HN.out.at_ j y (by omega) hy
        · rw [Array.getElem?_setIfInBounds_ne (by omega)]
          exact HN.out.far q (by omega))
      clear r2 f1
      go_wp2_with fail
      go_roundw
      case rel => exact ⟨k + 1, by omega, by go_num, by rw [Nat.mul_add, Nat.mul_one, ← Nat.add_assoc]; exact R2.out, F2.out, _, B2.out, N2.out⟩
      case measure => simp [intOf]; omega
    · obtain rfl : k = vs.length := by omega
      go_wp2_with fail
      go_ret
      exact ⟨rfl, HR.out, HF.out, cs', HB.out, HN.out⟩
end Go.Proofs.YtedjadicdodahaaGreatDoor
