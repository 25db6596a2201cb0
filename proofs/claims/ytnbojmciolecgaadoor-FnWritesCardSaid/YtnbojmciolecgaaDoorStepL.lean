/- The laws on a writer's steps. -/
import Derived.Test.YtnbojmciolecgaaDoorStepW
namespace Go.Proofs.YtnbojmciolecgaaDoor
open Go.RowKit

/-- A truth value; where it is true, P. Nothing that was there has turned. -/
def RetIf (P : Prop) (w : World) (e : Ending) (w' : World) : Prop := ∃ b, e = .returned (.bool b) ∧ (b = true → P) ∧ Below w.heap.size w w'

/-- A slice of steps handed in. -/
theorem Rd.steps {H : Type} {enc : TypeId × Value → H} {w : World} {A : Option Addr} {l c : Nat} (h : Rd enc Tryd.prog w 58 [.slice A l c]) : ∃ xs : List St, l = xs.length ∧ l ≤ c ∧ l ≤ maxLen ∧ SlSt w A xs ∧ ∀ s ∈ xs, s.Ok := by
  obtain ⟨xs, h1, h2, h3, h4, h5⟩ := Rd.list St.cells St.Ok Tryd.underlying58 (show Tryd.prog.cellsOf 64 = 3 by kernel_rfl) (by omega) (fun cs hr => by
    obtain ⟨k, n, t, rfl, b0, b1, b2⟩ := open_impl_Written hr
    exact ⟨⟨k, n, t⟩, rfl, ⟨b0, b1, b2⟩⟩) h
  exact ⟨xs, h1, h2, h3, h4, h5⟩

theorem zz17_any (k n : Int) (t : ByteArray) (w : World) (h : t.size ≤ maxLen) : Calls Tryd.prog 60 #[stVal k n t] w (RetIf True w) := by
  unfold stVal
  unfold maxLen at h
  have h' : (t.size : Int) ≤ 9223372036854775807 := by omega
  clear h
  go_enter Tryd.func60, Tryd.ntmps60
  go_wp2_with fail
  all_goals (go_returns; exact ⟨_, rfl, fun _ => trivial, by (repeat' (first | (with_reducible exact Below.refl _ _) | (with_reducible assumption) | (with_reducible refine below_drewN ?_ _) | (with_reducible refine Below.alloc ?_ ?_ _) | (with_reducible refine Below.drew ?_) | (with_reducible refine Below.setCell ?_ ?_ _) | go_size))⟩)

/-- A step's cells at a place of the list. -/
theorem slSt_at {w : World} {A : Option Addr} {xs : List St} (h : SlSt w A xs) (k : Nat) (hk : k < xs.length) : ∃ b o, A = some ⟨b, o, none⟩ ∧ w.cell? ⟨b, o + k * 3, none⟩ = some (.int .i64 xs[k].kind) ∧ w.cell? ⟨b, o + k * 3 + 1, none⟩ = some (.int .u64 xs[k].num) ∧ w.cell? ⟨b, o + k * 3 + 2, none⟩ = some (.string xs[k].text) := by
  obtain ⟨b, o, rfl, hc⟩ := h (by simp; omega)
  have hk' : xs[k]? = some xs[k] := by simp [hk]
  have q0 := hc k _ (by rw [List.getElem?_map, hk']; rfl) 0 _ rfl
  have q1 := hc k _ (by rw [List.getElem?_map, hk']; rfl) 1 _ rfl
  have q2 := hc k _ (by rw [List.getElem?_map, hk']; rfl) 2 _ rfl
  exact ⟨b, o, rfl, q0, q1, q2⟩
theorem SlSt.here {w w' : World} {A : Option Addr} {xs : List St} (h : SlSt w A xs) (hb : Below w.heap.size w w') : SlSt w' A xs := SlR.here h hb

set_option maxHeartbeats 1000000 in
theorem zz16_any (A : Option Addr) (c : Nat) (xs : List St) (w : World) (hs : SlSt w A xs) (ok : ∀ s ∈ xs, s.Ok) (hm : xs.length ≤ maxLen) : Calls Tryd.prog 31 #[.slice A xs.length c] w (RetIf True w) := by
  unfold maxLen at hm
  have n0 : (0 : Int) ≤ xs.length := by omega
  have n1 : (xs.length : Int) ≤ 9223372036854775807 := by omega
  have HS := Lib.hid hs
  clear hs hm
  go_enter Tryd.func31, Tryd.ntmps31
  by_cases hbig : (2147483647 : Int) < xs.length
  · go_wp2_with fail
    go_returns
    exact ⟨_, rfl, fun _ => trivial, by (repeat' (first | (with_reducible exact Below.refl _ _) | (with_reducible assumption) | (with_reducible refine below_drewN ?_ _) | (with_reducible refine Below.alloc ?_ ?_ _) | (with_reducible refine Below.drew ?_) | (with_reducible refine Below.setCell ?_ ?_ _) | go_size))⟩
  go_wp2_with fail
  go_loopw [4, 10] (fun _ i wr => ∃ k : Nat, k ≤ xs.length ∧ i = .int .i64 k ∧ Below w.heap.size w wr) (fun _ i _ => xs.length - (intOf i).toNat)
  case atStart => exact ⟨0, by omega, rfl, Below.refl _ _⟩
  case round =>
    obtain ⟨k, hk, rfl, hb⟩ := hrel
    have HB := Lib.hid hb
    have zb := hb.size
    by_cases hlt : k < xs.length
    · obtain ⟨b, o, rfl, q0, q1, q2⟩ := slSt_at (HS.out.here hb) k hlt
      have ok' := (ok xs[k] (List.getElem_mem hlt)).t
      generalize xs[k] = s at *
      obtain ⟨kd, nm, tx⟩ := s
      simp only at q0 q1 q2 ok'
      have OK := Lib.hid ok'
      clear hb ok'
      go_wp2_with fail
      refine (zz17_any kd nm tx _ OK.out).mono ?_
      rintro e w1 ⟨b1, rfl, _, hb1⟩
      have B1 := Lib.hid (below_from ((HB.out.alloc zb _)) hb1)
      have B1 : Below w.heap.size w w1 := (HB.out.alloc zb _).trans (hb1.mono (by simp; omega))
      clear hb1
      rcases b1 with _ | _
      · go_wp2_with fail
        go_returns
        exact ⟨_, rfl, fun _ => trivial, B1⟩
      · go_wp2_with fail
        go_roundw
        case rel => exact ⟨k + 1, by omega, by go_num, B1⟩
        case measure => simp [intOf]; omega
    · go_wp2_with fail
      go_returns
      exact ⟨_, rfl, fun _ => trivial, HB.out⟩

set_option maxHeartbeats 1000000 in
theorem stepsOk_any (A : Option Addr) (c : Nat) (xs : List St) (w : World) (hs : SlSt w A xs) (ok : ∀ s ∈ xs, s.Ok) (hm : xs.length ≤ maxLen) : Calls Tryd.prog 32 #[.slice A xs.length c] w (RetIf ((∀ s ∈ xs, s.text.size ≤ 200) ∧ xs.length ≤ 100) w) := by
  unfold maxLen at hm
  have n0 : (0 : Int) ≤ xs.length := by omega
  have n1 : (xs.length : Int) ≤ 9223372036854775807 := by omega
  have HS := Lib.hid hs
  clear hs hm
  go_enter Tryd.func32, Tryd.ntmps32
  go_wp2_with fail
  go_loopw [4, 7] (fun _ i wr => ∃ k : Nat, k ≤ xs.length ∧ i = .int .i64 k ∧ Hid (∀ j (h : j < k) (h' : j < xs.length), xs[j].text.size ≤ 200) ∧ Below w.heap.size w wr) (fun _ i _ => xs.length - (intOf i).toNat)
  case atStart => exact ⟨0, by omega, rfl, Lib.hid (fun j h => absurd h (by omega)), Below.refl _ _⟩
  case round =>
    obtain ⟨k, hk, rfl, hx, hb⟩ := hrel
    have HX := hx
    have HB := Lib.hid hb
    have zb := hb.size
    clear hx
    by_cases hlt : k < xs.length
    · obtain ⟨b, o, rfl, q0, q1, q2⟩ := slSt_at (HS.out.here hb) k hlt
      have ok' := (ok xs[k] (List.getElem_mem hlt)).t
      unfold maxLen at ok'
      have ok2 : (xs[k].text.size : Int) ≤ 9223372036854775807 := by omega
      clear hb ok'
      have HE := Lib.hid (rfl : xs[k].text = xs[k].text)
      by_cases h2 : (xs[k].text.size : Int) ≤ 200
      · have HK := Lib.hid h2
        generalize hs : xs[k] = s at *
        have HSk := Lib.hid hs
        obtain ⟨kd, nm, tx⟩ := s
        simp only at q0 q1 q2 h2 ok2 HK
        clear hs
        go_wp2_with fail
        go_roundw
        case rel => exact ⟨k + 1, by omega, by go_num, Lib.hid (fun j h h' => by
          rcases Nat.lt_or_ge j k with hj | hj
          · exact HX.out j hj h'
          · obtain rfl : j = k := by omega
            have := HK.out
            rw [HSk.out]
            simp only
            omega), HB.out.alloc zb _⟩
        case measure => simp [intOf]; omega
      · generalize hs : xs[k] = s at *
        clear hs
        obtain ⟨kd, nm, tx⟩ := s
        simp only at q0 q1 q2 h2 ok2
        have h2' : (200 : Int) < tx.size := by omega
        clear h2
        go_wp2_with fail
        go_returns
        exact ⟨_, rfl, (fun h => by cases h), HB.out.alloc zb _⟩
    · obtain rfl : k = xs.length := by omega
      go_wp2_with fail
      go_returns
      exact ⟨_, rfl, fun h => ⟨fun s hs => by obtain ⟨j, hj, rfl⟩ := List.getElem_of_mem hs; exact HX.out j hj hj, by have h' : (xs.length : Int) ≤ 100 := (by simpa using h); omega⟩, HB.out⟩

theorem offsK_get (xs : List St) (n k : Nat) (h : k < n) : (offsK xs n)[k]? = some (((xs.take (k + 1)).flatMap St.bytes).length : Int) := by
  unfold offsK
  rw [List.getElem?_map, List.getElem?_range h]
  rfl

set_option maxRecDepth 100000 in
set_option maxHeartbeats 2000000 in
theorem fnWrites_walk (A : Option Addr) (c : Nat) (xs : List St) (w : World) (hs : SlSt w A xs) (ok : ∀ s ∈ xs, s.Ok) (hm : xs.length ≤ maxLen) : Calls Tryd.prog 9 #[.slice A xs.length c] w (LawEnd w) := by
  obtain ⟨i0, hi, hz0, hz1, hz2⟩ := info_parts Tryd.infoU8
  have HS := Lib.hid hs
  have HM := Lib.hid hm
  have n0 : (0 : Int) ≤ xs.length := by omega
  clear hs hm
  go_enter Tryd.func9, Tryd.ntmps9
  go_wp2_with fail
  refine (zz16_any A c xs _ HS.out ok HM.out).mono ?_
  rintro e w1 ⟨b1, rfl, _, hb1⟩
  rcases b1 with _ | _
  · go_wp2_with fail
    go_returns
    exact ⟨rfl, hb1⟩
  have S1 := Lib.hid (HS.out.here hb1)
  have B1 := Lib.hid hb1
  clear hb1 HS
  go_wp2_with fail
  refine (stepsOk_any A c xs _ S1.out ok HM.out).mono ?_
  rintro e w2 ⟨b2, rfl, hP, hb2⟩
  rcases b2 with _ | _
  · clear hP
    go_wp2_with fail
    go_returns
    exact ⟨rfl, below_from B1.out hb2⟩
  obtain ⟨ht, hl⟩ := hP rfl
  have HT := Lib.hid ht
  have S2 := Lib.hid (S1.out.here hb2)
  have B2 := Lib.hid (below_from B1.out hb2)
  clear hb2 hP ht S1 B1 HM
  go_wp2_with fail
  refine (writeSteps_any A c xs _ S2.out ok HT.out (by omega)).mono ?_
  rintro e w3 ⟨A1, c1, A2, c2, rfl, s1, k1, s2, hb3⟩
  have D3 := Lib.hid s1
  have O3 := Lib.hid s2
  have K1 := Lib.hid k1
  have S3 := Lib.hid (S2.out.here hb3)
  have B3 := Lib.hid (below_from B2.out hb3)
  have hlen := stsBytes_length xs HT.out
  clear hb3 s1 k1 s2 S2 B2
  obtain ⟨ys, hys⟩ : ∃ ys, ys = xs.flatMap St.bytes := ⟨_, rfl⟩
  rw [← hys] at D3 K1 hlen ⊢
  have HY := Lib.hid hys
  clear hys
  have oe := World.ownsRow_made (base := w3.heap.size) (e := 5) (size := 1) w3 #[] 0 (Nat.le_refl _) (by simp) (by simp)
  have OE := Lib.hid oe
  have BE := Lib.hid (B3.out.alloc B3.out.size (.cells #[] 5))
  clear oe
  go_wp2_with fail
  go_loopw [5, 6, 7, 27] (fun o _ _ i wr => ∃ (k : Nat) (zs : List Int) (A0 : Option Addr) (c0 : Nat), k ≤ xs.length ∧ i = .int .i64 k ∧ o = .slice A0 zs.length c0 ∧ Hid (zs = (xs.take k).flatMap St.bytes) ∧ wr.ownsRow w3.heap.size 5 1 (.slice A0 zs.length c0) zs.length (zs.map (Value.int .u8)) ∧ Below w.heap.size w wr ∧ Below w3.heap.size w3 wr)
    (fun _ _ _ i _ => xs.length - (intOf i).toNat)
  case atStart => exact ⟨0, [], _, _, by omega, rfl, rfl, Lib.hid rfl, OE.out, BE.out, by (repeat' (first | (with_reducible exact Below.refl _ _) | (with_reducible assumption) | (with_reducible refine below_drewN ?_ _) | (with_reducible refine Below.alloc ?_ ?_ _) | (with_reducible refine Below.drew ?_) | (with_reducible refine Below.setCell ?_ ?_ _) | go_size))⟩
  case round =>
    obtain ⟨k, zs, A0, c0, hk, rfl, rfl, hzs, ho, hb, hb3⟩ := hrel
    have HZ := hzs
    have HO := Lib.hid ho
    have HB := Lib.hid hb
    have H3 := Lib.hid hb3
    have z3 := hb3.size
    clear hzs ho OE BE
    by_cases hlt : k < xs.length
    · obtain ⟨b, o, rfl, q0, q1, q2⟩ := slSt_at (S3.out.here hb3) k hlt
      obtain ⟨ob, oo, rfl, oc⟩ := O3.out (by rw [offsK_length]; omega)
      have oc' := oc k _ (offsK_get xs xs.length k hlt)
      have hsucc := take_flatMap_succ xs St.bytes k hlt
      rw [← HZ.out] at hsucc
      rw [hsucc] at oc'
      have HSU := Lib.hid hsucc
      have sok := ok xs[k] (List.getElem_mem hlt)
      have stx := HT.out xs[k] (List.getElem_mem hlt)
      have sl := St.bytes_length xs[k] stx
      have hzl : zs.length ≤ 200 * 100 := by
        have := stsBytes_length (xs.take k) (fun s hs => HT.out s (List.mem_of_mem_take hs))
        rw [← HZ.out] at this
        have h2 : (xs.take k).length ≤ xs.length := by simp; omega
        omega
      have SOK := Lib.hid sok
      clear hb hb3 oc hsucc sok
      generalize xs[k] = s at *
      obtain ⟨kd, nm, tx⟩ := s
      simp only at q0 q1 q2 stx
      generalize hbs : St.bytes ⟨kd, nm, tx⟩ = bs at *
      have HBS := Lib.hid hbs
      clear hbs
      rw [List.length_append] at oc'
      obtain ⟨m, hm⟩ : ∃ m, m = zs.length + bs.length := ⟨_, rfl⟩
      rw [← hm] at oc'
      have hm' : m ≤ 100000 := by omega
      have HMM := Lib.hid hm
      have hmI : (m : Int) ≤ 100000 := by omega
      have hm0 : (0 : Int) ≤ m := by omega
      have OC := Lib.hid oc'
      clear hm
      go_wp2_with fail
      refine (stepBytes_any ⟨kd, nm, tx⟩ _ SOK.out (by simp only; omega)).mono ?_
      rintro e w4 ⟨A4, c4, rfl, s4, k4, hb4⟩
      rw [HBS.out] at s4 k4 ⊢
      have hb34 := below_from (later_alloc wr _) hb4
      have D4 := Lib.hid s4
      have O4 := Lib.hid (own_here HO.out hb34)
      have B4 := Lib.hid (below_from HB.out hb34)
      have T4 := Lib.hid (below_from H3.out hb34)
      have z4 : w3.heap.size ≤ w4.heap.size := T4.out.size
      have y4 : w.heap.size ≤ w3.heap.size := B3.out.size
      clear s4 k4 hb34 hb4 oc' q0 q1 q2 HO HB H3
      go_wp2_with (at_builtin; go_must (refine wpList_append_sl rfl _ _ 29 rfl w3.heap.size 5 i0 _ 1 1 Tryd.underlying29 hi hz0 hz1 hz2 rfl (by decide) (.slice A0 zs.length c0) zs.length _ rfl O4.out A4 bs.length c4 (bs.map (Value.int .u8)) rfl (by simp) (sli_src D4.out) (by simp [Value.oneCell']) (by unfold maxLen; omega) (by omega) z4 ?_); intro A5 c5 w5 hown5 hgrow5; rw [← HMM.out] at hown5 ⊢; have O5 := Lib.hid hown5; have B5 := Lib.hid (below_own B4.out (own_mono O4.out y4) hgrow5 B4.out.size); have T5 := Lib.hid (below_own T4.out O4.out hgrow5 z4); have oc5 := keep_cell T5.out OC.out)
      go_wp2_with fail
      go_roundw
      case rel => exact ⟨k + 1, zs ++ bs, A5, c5, by omega, by go_num, by rw [List.length_append, ← HMM.out], Lib.hid HSU.out.symm, by rw [List.length_append, ← HMM.out, List.map_append]; exact O5.out, B5.out, T5.out⟩
      case measure => simp [intOf]; omega
    · obtain rfl : k = xs.length := by omega
      obtain rfl : zs = ys := by rw [HZ.out, List.take_length, HY.out]
      have D5 := Lib.hid (D3.out.here hb3)
      have L5 := Lib.hid (sli_own HO.out)
      clear hb hb3
      go_wp2_with fail
      refine (sameBytes_any A1 A0 c1 c0 zs _ D5.out L5.out (by unfold maxLen; omega)).mono ?_
      rintro e w6 ⟨rfl, n6, rfl⟩
      go_wp2_with fail
      go_returns
      exact ⟨rfl, below_drewN HB.out n6⟩

set_option maxRecDepth 100000 in
theorem fnWrites_any {H : Type} {enc : TypeId × Value → H} (A : Option Addr) (l c : Nat) (w : World) (h : Rd enc Tryd.prog w 58 [.slice A l c]) : Calls Tryd.prog 9 #[.slice A l c] w (LawEnd w) := by
  obtain ⟨xs, rfl, _, hm, hs, ok⟩ := Rd.steps h
  exact fnWrites_walk A c xs w hs ok hm
end Go.Proofs.YtnbojmciolecgaaDoor
