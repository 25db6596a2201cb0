/- The references on bytes: two lists compared, numbers in bytes, lists joined. -/
import Derived.Test.YtimdaolbdgafcaaDoorSl
namespace Go.Proofs.YtimdaolbdgafcaaDoor
open Go.RowKit

theorem Tryd.infoU8 : (Tryd.prog.info? 5).map (fun i => (i.zero, i.size, i.bytes)) = some (some (.int .u8 0), 1, 1) := by kernel_rfl

/-- Two lists with the same bytes are the same. -/
theorem sameBytes_any (A B : Option Addr) (ca cb : Nat) (xs : List Int) (w : World) (ha : SlI .u8 w A xs) (hb : SlI .u8 w B xs) (hm : xs.length ≤ maxLen) :
    Calls Tryd.prog 20 #[.slice A xs.length ca, .slice B xs.length cb] w (RetQ (.bool true) w) := by
  unfold maxLen at hm
  have h0 : (0 : Int) ≤ (xs.length : Int) := by omega
  go_enter Tryd.func20, Tryd.ntmps20
  go_wp2
  go_loop [5, 6, 14] (fun _ _ i => ∃ k : Nat, k ≤ xs.length ∧ i = .int .i64 k) (fun _ _ i => xs.length - (intOf i).toNat)
  case atStart => exact ⟨0, Nat.zero_le _, rfl⟩
  case round =>
    obtain ⟨k, hk, rfl⟩ := hrel
    by_cases hlt : k < xs.length
    · obtain ⟨b, o, rfl, hc⟩ := ha (by omega)
      obtain ⟨b2, o2, rfl, hc2⟩ := hb (by omega)
      have c1 := hc k xs[k] (by simp [hlt])
      have c2 := hc2 k xs[k] (by simp [hlt])
      clear hc hc2 ha hb
      go_wp2
      go_round
      case rel => exact ⟨k + 1, by omega, by go_num⟩
      case measure => simp [intOf]; omega
    · clear ha hb
      go_wp2
      go_ret
      exact ⟨rfl, 0, rfl⟩

/-- The bytes of a number, m of them, the lowest first. -/
def leN : Nat → Int → List Int
  | 0, _ => []
  | m + 1, v => v % 256 :: leN m (v / 256)
theorem leN_length (m : Nat) : ∀ v, (leN m v).length = m := by
  induction m with
  | zero => intro v; rfl
  | succ m ih => intro v; simp [leN, ih]
theorem leN_snoc (m : Nat) : ∀ v, leN (m + 1) v = leN m v ++ [v / 256 ^ m % 256] := by
  induction m with
  | zero => intro v; simp [leN]
  | succ m ih =>
    intro v
    rw [leN, ih, leN]
    simp only [List.cons_append, List.cons.injEq, true_and]
    rw [Int.ediv_ediv_of_nonneg (by omega), Int.pow_succ, Int.mul_comm]

set_option maxHeartbeats 400000 in
theorem little_any (v : Int) (m : Nat) (w : World) (h0 : 0 ≤ v) (h1 : v < 18446744073709551616) (hm : m ≤ 8) :
    Calls Tryd.prog 74 #[.int .u64 v, .int .i64 m] w fun e w' => ∃ r, e = .returned r ∧ w'.ownsRow w.heap.size 5 1 r m ((leN m v).map (Value.int .u8)) ∧ Below w.heap.size w w' := by
  obtain ⟨i0, hi, hz0, hz1, hz2⟩ := info_parts Tryd.infoU8
  go_enter Tryd.func74, Tryd.ntmps74
  go_wp2
  go_loopw [0, 5, 8] (fun x r i wr => ∃ (k : Nat) (q : Int), k ≤ m ∧ i = .int .i64 k ∧ x = .int .u64 q ∧ Hid (q = v / 256 ^ k) ∧ 0 ≤ q ∧ q < 18446744073709551616 ∧ wr.ownsRow w.heap.size 5 1 r k ((leN k v).map (Value.int .u8)) ∧ Below w.heap.size w wr)
    (fun _ _ i _ => m - (intOf i).toNat)
  case atStart => exact ⟨0, v, by omega, rfl, rfl, by simp [Hid], h0, h1, by simpa [leN] using World.ownsRow_made w #[] 0 (Nat.le_refl _) (by simp) (by simp), by (repeat' (first | (with_reducible exact Below.refl _ _) | (with_reducible assumption) | (with_reducible refine below_drewN ?_ _) | (with_reducible refine Below.alloc ?_ ?_ _) | (with_reducible refine Below.drew ?_) | (with_reducible refine Below.setCell ?_ ?_ _) | go_size))⟩
  case round =>
    obtain ⟨k, q, hk, rfl, rfl, hq, q0, q1, hown, hb⟩ := hrel
    have hB := hb.size
    have HQ := hq
    clear hq
    have HO := Lib.hid hown
    have HBB := Lib.hid hb
    clear hown hb
    by_cases hlt : k < m
    · go_wp2_with (at_builtin; refine wpList_append_src rfl _ _ 35 rfl w.heap.size 5 i0 _ 1 1 Tryd.underlying35 hi hz0 hz1 hz2 rfl (by decide) _ k _ rfl (HO.out.alloc _) (some ⟨wr.heap.size, 0, none⟩) 1 1 [.int .u8 (q % 256)] rfl rfl (fun _ => ⟨_, rfl, cell_one_new _ _ _⟩) (by simp [Value.oneCell']) (by unfold maxLen; omega) (by omega) (by simp; omega) ?_; intro v' w1 hown' hgrow)
      have hb' : Below w.heap.size w w1 := below_own (HBB.out.alloc hB _) (HO.out.alloc _) hgrow (by simp; omega)
      go_roundw
      case rel => exact ⟨k + 1, q / 256, by omega, by go_num, rfl, by show q / 256 = v / 256 ^ (k + 1); rw [HQ.out, Int.pow_succ, Int.ediv_ediv_of_nonneg (Int.pow_nonneg (by omega))], by omega, by omega, by rw [leN_snoc, List.map_append, ← HQ.out]; exact hown', hb'⟩
      case measure => simp [intOf]; omega
    · obtain rfl : k = m := by omega
      go_wp2
      go_ret
      exact ⟨_, rfl, HO.out, HBB.out⟩

set_option maxHeartbeats 400000 in
theorem joined_any (A : Option Addr) (c : Nat) (xss : List (List Int)) (w : World) (ha : SlS .u8 w A xss) (hn : xss.length ≤ 1000000) (hm : xss.flatten.length ≤ 140737488355328) :
    Calls Tryd.prog 73 #[.slice A xss.length c] w fun e w' => ∃ r, e = .returned r ∧ w'.ownsRow w.heap.size 5 1 r xss.flatten.length (xss.flatten.map (Value.int .u8)) ∧ Below w.heap.size w w' := by
  obtain ⟨i0, hi, hz0, hz1, hz2⟩ := info_parts Tryd.infoU8
  have HA := Lib.hid ha
  have HM := Lib.hid hm
  clear ha hm
  go_enter Tryd.func73, Tryd.ntmps73
  go_wp2
  go_loopw [3, 5, 9] (fun r _ i wr => ∃ k : Nat, k ≤ xss.length ∧ i = .int .i64 k ∧ wr.ownsRow w.heap.size 5 1 r (xss.take k).flatten.length ((xss.take k).flatten.map (Value.int .u8)) ∧ Below w.heap.size w wr)
    (fun _ _ i _ => xss.length - (intOf i).toNat)
  case atStart => exact ⟨0, by omega, rfl, by simpa using World.ownsRow_made w #[] 0 (Nat.le_refl _) (by simp) (by simp), by (repeat' (first | (with_reducible exact Below.refl _ _) | (with_reducible assumption) | (with_reducible refine below_drewN ?_ _) | (with_reducible refine Below.alloc ?_ ?_ _) | (with_reducible refine Below.drew ?_) | (with_reducible refine Below.setCell ?_ ?_ _) | go_size))⟩
  case round =>
    obtain ⟨k, hk, rfl, hown, hb⟩ := hrel
    have hB := hb.size
    have HO := Lib.hid hown
    have HBB := Lib.hid hb
    clear hown hb
    by_cases hlt : k < xss.length
    · obtain ⟨b, o, rfl, hc⟩ := HA.out (by omega)
      obtain ⟨Aj, cj, h1, h2, h3⟩ := hc k xss[k] (by simp [hlt])
      have h1' := keep_cell HBB.out h1
      have H2 := Lib.hid (h2.here HBB.out)
      have HT := Lib.hid (List.take_succ_eq_append_getElem hlt : xss.take (k + 1) = _)
      have HL := Lib.hid (show (xss.take k).flatten.length + xss[k].length ≤ xss.flatten.length from by
        conv => rhs; rw [← List.take_append_drop (k + 1) xss, List.take_succ_eq_append_getElem hlt]
        simp only [List.flatten_append, List.length_append, List.flatten_cons, List.flatten_nil, List.append_nil]
        omega)
      clear hc h1 h2
      generalize hx : xss[k] = x at *
      have HX := Lib.hid hx
      clear hx
      go_wp2_with (at_builtin; refine wpList_append_src rfl _ _ 35 rfl w.heap.size 5 i0 _ 1 1 Tryd.underlying35 hi hz0 hz1 hz2 rfl (by decide) _ _ _ rfl HO.out Aj x.length cj (x.map (Value.int .u8)) rfl (by simp) (sli_src H2.out) (by simp [Value.oneCell']) (by have := HM.out; have := HL.out; unfold maxLen; omega) (by have := HM.out; have := HL.out; omega) hB ?_; intro v' w1 hown' hgrow)
      have hb' : Below w.heap.size w w1 := below_own HBB.out HO.out hgrow hB
      go_roundw
      case rel => exact ⟨k + 1, by omega, by go_num, by rw [HT.out]; simpa [HX.out] using hown', hb'⟩
      case measure => simp [intOf]; omega
    · obtain rfl : k = xss.length := by omega
      go_wp2
      go_ret
      exact ⟨_, rfl, by simpa using HO.out, HBB.out⟩
end Go.Proofs.YtimdaolbdgafcaaDoor
