/- sha256: Digest.Write. (printed by gen_pdig.py) -/
import Derived.BigRegion
import Derived.Test.YtedjadicdodahaaGreatDoorPDig
namespace Go.Proofs.YtedjadicdodahaaGreatDoor
open Go.RowKit

/-- A slice of bytes outside block dg. -/
def PS (w : World) (dg : Nat) (ps : List Int) (p : Value) : Prop := ∃ pb po c, p = .slice (some ⟨pb, po, none⟩) ps.length c ∧ ps.length ≤ c ∧ (c ≤ 9223372036854775807 ∧ ps.length ≤ 140737488355328) ∧ pb ≠ dg ∧ ∀ j z, ps[j]? = some z → w.cell? ⟨pb, po + j, none⟩ = some (.int .u8 z)
theorem PS.fr {w w' : World} {dg : Nat} {ps : List Int} {p : Value} (h : PS w dg ps p) (k : Fr [dg] w w') : PS w' dg ps p := by
  obtain ⟨pb, po, c, h1, h2, h3, h4, h5⟩ := h
  exact ⟨pb, po, c, h1, h2, h3, h4, fun j z hj => k.cell (h5 j z hj) (by simpa using h4)⟩
theorem and_mask64 (x : Nat) (hx : x < 4611686018427387904) : x &&& 18446744073709551552 = x / 64 * 64 := by
  have h : 18446744073709551552 = (2 ^ 58 - 1) <<< 6 := by decide
  have h2 : x / 64 * 64 = (x >>> 6) <<< 6 := by rw [Nat.shiftLeft_eq, Nat.shiftRight_eq_div_pow]
  rw [h, h2]
  apply Nat.eq_of_testBit_eq
  intro i
  rw [Nat.testBit_and, Nat.testBit_shiftLeft, Nat.testBit_shiftLeft, Nat.testBit_two_pow_sub_one, Nat.testBit_shiftRight]
  by_cases hi : 6 ≤ i
  · by_cases hj : i - 6 < 58
    · simp [hi, hj, show 6 + (i - 6) = i from by omega]
    · have hx2 : x.testBit i = false := Nat.testBit_lt_two_pow (Nat.lt_of_lt_of_le hx (Nat.le_trans (show 4611686018427387904 ≤ 2 ^ 62 from by decide) (Nat.pow_le_pow_right (by decide) (by omega))))
      simp [hi, hj, show 6 + (i - 6) = i from by omega, hx2]
  · simp [hi]
theorem i64_andNot63 (x : Nat) (hx : x < 4611686018427387904) : bits .andNot .i64 (x : Int) 63 = ((x / 64 * 64 : Nat) : Int) := by
  show IntKind.i64.wrap ((BitVec.ofInt 64 (x : Int) &&& ~~~BitVec.ofInt 64 63).toNat : Int) = _
  have h1 : (BitVec.ofInt 64 63).toNat = 63 := by decide
  have h2 : (BitVec.ofInt 64 (x : Int)).toNat = x := by
    rw [BitVec.ofInt_natCast, BitVec.toNat_ofNat]
    exact Nat.mod_eq_of_lt (Nat.lt_trans hx (by decide))
  rw [BitVec.toNat_and, BitVec.toNat_not, h2, h1, show 2 ^ 64 - 1 - 63 = 18446744073709551552 by decide, and_mask64 x hx, IntKind.wrap_i64]
  omega
set_option maxRecDepth 100000 in
theorem block_any (K ps : List Int) (v : V8) (dg pb po n c : Nat) (rest : List Value) (w : World) (hK : K.length = 64) (hn : ps.length = n) (hc : n ≤ c) (hm : n ≤ 140737488355328)
    (hd : Blk w dg 215 (v.cells ++ rest).toArray)
    (hk : Blk w 10 250 (K.map (Value.int .u32)).toArray) (hp : ∀ j z, ps[j]? = some z → w.cell? ⟨pb, po + j, none⟩ = some (.int .u8 z)) :
    Calls Tryz.prog 168 #[.pointer (some ⟨dg, 0, none⟩), .slice (some ⟨pb, po, none⟩) n c] w fun e w' => e = .returned (.tuple #[]) ∧ Blk w' dg 215 ((blkF K ps v).cells ++ rest).toArray ∧ Fr [dg] w w' := by
  have H := Lib.hid (blockGeneric_any K ps v dg pb po n c rest w hK hn hc hm hd hk hp)
  clear hd hk hp
  go_enter Tryz.func168, Tryz.ntmps168
  go_wp2_with fail
  refine H.out.mono ?_
  rintro e w1 ⟨rfl, h1, h2⟩
  have H1 := Lib.hid h1
  have H2 := Lib.hid h2
  clear h1 h2
  go_wp2_with fail
  go_end0
  exact ⟨rfl, H1.out, H2.out⟩
set_option maxRecDepth 1000000 in
set_option maxHeartbeats 4000000 in
theorem digest_Write (K ps : List Int) (D : Dg) (dg : Nat) (p : Value) (n : Nat) (w : World) (hK : K.length = 64) (hn : ps.length = n) (hD : D.Ok) (hl : D.len + n ≤ 4611686018427387904)
    (hd : Blk w dg 215 D.arr) (hk : Blk w 10 250 (K.map (Value.int .u32)).toArray) (hp : PS w dg ps p) :
    Calls Tryz.prog 165 #[.pointer (some ⟨dg, 0, none⟩), p] w fun e w' => e = .returned (.tuple #[.int .i64 n, .nilIface]) ∧ Blk w' dg 215 (D.wr K ps).arr ∧ Fr [dg] w w' := by
  obtain ⟨pb, po, c, rfl, hnc, hcm, hpd, hsrc⟩ := hp
  obtain ⟨c72, c73, c74⟩ := D.at_nx hD.x
  have d72 : w.cell? ⟨dg, 72, none⟩ = some (.int .i64 D.nx) := by rw [hd.cell, c72]
  have d73 : w.cell? ⟨dg, 73, none⟩ = some (.int .u64 D.len) := by rw [hd.cell, c73]
  have g72 := hd.frozen 72
  have g73 := hd.frozen 73
  obtain ⟨w2, hw2⟩ : ∃ w2, w2 = w.setCell ⟨dg, 73, none⟩ (.int .u64 ((D.len + n : Nat) : Int)) := ⟨_, rfl⟩
  have B2 := Lib.hid (show Blk w2 dg 215 (D.plus n).arr from by
    have h := hd.set_ 73 (.int .u64 ((D.len + n : Nat) : Int))
    rw [D.set_len hD.x] at h
    rw [hw2]
    exact h)
  have F2 := Lib.hid (show Fr [dg] w w2 from by rw [hw2]; exact (Fr.refl _ _).setCell (.inl (by simp)) _)
  have HW2 := Lib.hid hw2
  have HK := Lib.hid hk
  have KD := Lib.hid (show 10 ≠ dg from fun e => by
    unfold Blk at hk hd
    rw [e, hd] at hk
    injection hk with hk
    injection hk with _ hk
    exact absurd hk (by decide))
  have SRC := Lib.hid (show PS w dg ps (.slice (some ⟨pb, po, none⟩) ps.length c) from ⟨pb, po, c, rfl, hnc, hcm, hpd, hsrc⟩)
  have HN := Lib.hid hn
  have HD := Lib.hid hD
  have KL := Lib.hid hK
  have hu : IntKind.u64.wrap (n : Int) = n := by rw [IntKind.wrap_u64]; omega
  have hu2 : IntKind.u64.wrap ((D.len : Int) + n) = ((D.len + n : Nat) : Int) := by rw [IntKind.wrap_u64]; omega
  rw [hn]
  rw [hn] at hnc
  clear hw2 hd hk hsrc hn hD hK c72 c73 c74
  go_enter Tryz.func165, Tryz.ntmps165
  go_upto_if 23 with fail
  rw [show (((D.len : Nat) : Int) + (n : Int)) = ((D.len + n : Nat) : Int) from by omega, ← HW2.out]
  obtain ⟨D2, hD2⟩ : ∃ D2, D2 = D.plus n := ⟨_, rfl⟩
  have e1 : D2.nx = D.nx := by rw [hD2]; rfl
  have hx2 : D2.x.length = 64 := by rw [hD2]; exact HD.out.x
  have hnx2 : D2.nx < 64 := by rw [e1]; exact HD.out.nx
  rw [← hD2] at B2
  have HD2 := Lib.hid hD2
  have P2 := Lib.hid (SRC.out.fr F2.out)
  have K2 := Lib.hid (HK.out.fr F2.out (by simpa using KD.out))
  clear d72 d73 g72 g73 hD2
  go_cut [1] from 6 to 94 (fun p wc => PS wc dg (D2.a K ps).2 p ∧ Blk wc dg 215 (D2.a K ps).1.arr ∧ Fr [dg] w2 wc)
  case first =>
    obtain ⟨c72, _, _⟩ := D2.at_nx hx2
    have d72 : w2.cell? ⟨dg, 72, none⟩ = some (.int .i64 D2.nx) := by rw [B2.out.cell, c72]
    by_cases h0 : D.nx = 0
    · have ha : D2.a K ps = (D2, ps) := by unfold Dg.a; rw [if_pos (e1.trans h0)]
      have P3 := P2.out
      rw [HN.out] at P3
      rw [h0]
      go_wp2_with fail
      go_meet
      rw [ha]
      exact ⟨P3, B2.out, Fr.refl _ _⟩
    · have hpos : (0 : Int) < D.nx := by omega
      obtain ⟨m, hm⟩ : ∃ m, m = min n (64 - D.nx) := ⟨_, rfl⟩
      have hmn : m ≤ n := by omega
      have hm64 : D.nx + m ≤ 64 := by omega
      obtain ⟨x1, hx1⟩ : ∃ x1, x1 = spl D2.x D2.nx (ps.take m) := ⟨_, rfl⟩
      have hlm : (ps.take m).length = m := by rw [List.length_take, HN.out]; omega
      have hcp : (Builtin.copy_ #[70, 70] 3 #[.slice (some ⟨dg, 8 + D.nx, none⟩) (64 - D.nx) (64 - D.nx), .slice (some ⟨pb, po, none⟩) n c]).run Tryz.prog w2.drew = .ok (.int .i64 m) (w2.drew.setRow dg (⟨D2.v, x1, D.nx, D2.len⟩ : Dg).arr) := by
        have h9 := run_copy_row (P := Tryz.prog) w2.drew 70 70 3 5 dg (8 + D.nx) (64 - D.nx) (64 - D.nx) ⟨pb, po, none⟩ n c D2.arr 215 ((ps.take m).map (Value.int .u8)) Tryz.underlying70 (by kernel_rfl) B2.out (by rw [List.length_map, hlm, hm]) (fun j v hj => by
          rw [List.getElem?_map, Option.map_eq_some_iff] at hj
          obtain ⟨z, hz, rfl⟩ := hj
          obtain ⟨pb', po', c', he, _, _, _, hs⟩ := P2.out
          simp only [Value.slice.injEq, Option.some.injEq, Addr.mk.injEq, and_true] at he
          obtain ⟨⟨rfl, rfl⟩, _⟩ := he
          rw [Lib.addr_add]
          have hjm : j < m := by rw [← hlm]; exact (List.getElem?_eq_some_iff.1 hz).1
          rw [List.getElem?_take, if_pos hjm] at hz
          exact hs j z hz) (by rw [List.length_map, hlm]; have h8 : D2.arr.size = 75 := by simp [hx2]
                               omega) (by intro v hv; obtain ⟨z, _, rfl⟩ := List.mem_map.1 hv; rfl)
        rw [← e1, D2.set_x hx2 D2.nx (ps.take m) (by rw [hlm, e1]; omega), ← hx1, List.length_map, hlm, e1] at h9
        exact h9
      have hn64 : ¬ 64 = D.nx := by have := HD.out.nx; omega
      have q0 : (0 : Int) ≤ D.nx := by omega
      have q1 : (D.nx : Int) ≤ 64 := by omega
      rw [e1] at d72
      obtain ⟨w3, hw3⟩ : ∃ w3, w3 = w2.drew.setRow dg (⟨D2.v, x1, D.nx, D2.len⟩ : Dg).arr := ⟨_, rfl⟩
      have hx1l : x1.length = 64 := by rw [hx1, spl_len _ _ _ (by rw [hlm, e1, hx2]; omega), hx2]
      have b3 : Blk w3 dg 215 (⟨D2.v, x1, D.nx, D2.len⟩ : Dg).arr := by rw [hw3]; exact setRow_heap _ _ _ _ _ _ B2.out
      have f3 : Fr [dg] w2 w3 := by rw [hw3]; exact fr_setRow (Fr.refl _ _).drew (.inl (by simp)) _
      obtain ⟨k72, _, _⟩ := (⟨D2.v, x1, D.nx, D2.len⟩ : Dg).at_nx hx1l
      have d3 : w3.cell? ⟨dg, 72, none⟩ = some (.int .i64 D.nx) := by rw [b3.cell, k72]
      have g3 := b3.frozen 72
      have b4 := b3.set_ 72 (.int .i64 ((D.nx + m : Nat) : Int))
      rw [Dg.set_nx _ hx1l] at b4
      have f4 := f3.setCell (p := ⟨dg, 72, none⟩) (.inl (by simp)) (.int .i64 ((D.nx + m : Nat) : Int))
      obtain ⟨w4, hw4⟩ : ∃ w4, w4 = w3.setCell ⟨dg, 72, none⟩ (.int .i64 ((D.nx + m : Nat) : Int)) := ⟨_, rfl⟩
      rw [← hw4] at b4 f4
      have B4 := Lib.hid b4
      have F4 := Lib.hid f4
      have HW3 := Lib.hid hw3
      have HW4 := Lib.hid hw4
      have HM := Lib.hid hm
      have HX1 := Lib.hid hx1
      have E1 := Lib.hid e1
      have XL := Lib.hid hx1l
      have m0 : (m : Int) ≤ n := by omega
      have m1 : (n : Int) ≤ c := by omega
      have m2 : (0 : Int) ≤ m := by omega
      have PD0 := Lib.hid (fun (W : World) (hf : Fr [dg] w2 W) (A : Addr) (hA : A = if c = m then (⟨pb, po, none⟩ : Addr) else ⟨pb, po + m, none⟩) => show PS W dg (ps.drop m) (.slice (some A) (n - m) (c - m)) from by
        obtain ⟨pb', po', c', he, _, _, h4, hs⟩ := P2.out.fr hf
        simp only [Value.slice.injEq, Option.some.injEq, Addr.mk.injEq, and_true] at he
        obtain ⟨⟨rfl, rfl⟩, _, rfl⟩ := he
        subst hA
        by_cases hcm2 : c = m
        · rw [if_pos hcm2]
          refine ⟨pb, po, c - m, by rw [List.length_drop, HN.out], by rw [List.length_drop, HN.out]; omega, by rw [List.length_drop]; omega, h4, fun j z hj => ?_⟩
          rw [List.getElem?_drop] at hj
          have := (List.getElem?_eq_some_iff.1 hj).1
          rw [HN.out] at this
          omega
        · rw [if_neg hcm2]
          refine ⟨pb, po + m, c - m, by rw [List.length_drop, HN.out], by rw [List.length_drop, HN.out]; omega, by rw [List.length_drop]; omega, h4, fun j z hj => ?_⟩
          rw [List.getElem?_drop] at hj
          rw [Nat.add_assoc]
          exact hs (m + j) z hj)
      have PD1 := Lib.hid (fun (W : World) (hf : Fr [dg] w2 W) (h : c = m) => show PS W dg (ps.drop m) (.slice (some ⟨pb, po, none⟩) (n - m) 0) from by
        have h9 := PD0.out W hf ⟨pb, po, none⟩ (by rw [if_pos h])
        rw [h, Nat.sub_self] at h9
        exact h9)
      have PD2 := Lib.hid (fun (W : World) (hf : Fr [dg] w2 W) (h : ¬ c = m) => PD0.out W hf ⟨pb, po + m, none⟩ (by rw [if_neg h]))
      have AEQ := Lib.hid (show D2.a K ps = (if D.nx + m = 64 then (⟨blkF K x1 D2.v, x1, 0, D2.len⟩ : Dg) else ⟨D2.v, x1, D.nx + m, D2.len⟩, ps.drop m) from by
        unfold Dg.a
        rw [e1, if_neg h0, HN.out, ← hm, ← e1, ← hx1, e1]
        split <;> rfl)
      have M64 := Lib.hid hm64
      clear PD0
      clear hw3 hw4 hm hx1 e1 b3 f3 k72 b4 f4 hlm hx2 hx1l
      by_cases h64 : D.nx + m = 64
      · by_cases hcm3 : c = m
        · have FP := Lib.hid (fun W hf => PD1.out W hf hcm3)
          have HCM := Lib.hid hcm3
          clear hcm3
          have h65 : ((D.nx : Int) + m) = 64 := by omega
          have BK := Lib.hid (block_any K x1 D2.v dg dg 8 64 64 (⟨D2.v, x1, D.nx + m, D2.len⟩ : Dg).rest w4 KL.out XL.out (Nat.le_refl _) (by omega) B4.out (K2.out.fr F4.out (by simpa using KD.out)) (fun j z hj => by
            have hj64 : j < 64 := by rw [← XL.out]; exact (List.getElem?_eq_some_iff.1 hj).1
            rw [B4.out.cell, Dg.at_x _ XL.out j hj64]
            show Option.map _ x1[j]? = _
            rw [hj]
            rfl))
          go_wp2_with fail
          go_region
          rw [← HW3.out]
          go_wp2_with fail
          rw [show w3.setCell ⟨dg, 72, none⟩ (.int .i64 64) = w4 from by rw [HW4.out, h64]; rfl]
          refine BK.out.mono ?_
          rintro e w5 ⟨rfl, b5, f5⟩
          have k72 := (((⟨blkF K x1 D2.v, x1, D.nx + m, D2.len⟩ : Dg).at_nx XL.out).1)
          have d5 : w5.cell? ⟨dg, 72, none⟩ = some (.int .i64 ((D.nx + m : Nat) : Int)) := by rw [b5.cell]; exact k72
          have g5 := b5.frozen 72
          have b6 := b5.set_ 72 (.int .i64 ((0 : Nat) : Int))
          have b6' : Blk (w5.setCell ⟨dg, 72, none⟩ (.int .i64 ((0 : Nat) : Int))) dg 215 (⟨blkF K x1 D2.v, x1, 0, D2.len⟩ : Dg).arr := by
            rw [← Dg.set_nx (⟨blkF K x1 D2.v, x1, D.nx + m, D2.len⟩ : Dg) XL.out 0]
            exact b6
          have f6 := (F4.out.trans1 f5).setCell (p := ⟨dg, 72, none⟩) (.inl (by simp)) (.int .i64 ((0 : Nat) : Int))
          have B6 := Lib.hid b6'
          have F6 := Lib.hid f6
          clear b5 f5 b6 b6' f6 k72
          go_wp2_with fail
          all_goals
            go_meet
            rw [AEQ.out, if_pos h64]
            first | exact ⟨FP.out _ F6.out, B6.out, F6.out⟩ | exact absurd HCM.out (by assumption)
        · have FP := Lib.hid (fun W hf => PD2.out W hf hcm3)
          have h65 : ((D.nx : Int) + m) = 64 := by omega
          have BK := Lib.hid (block_any K x1 D2.v dg dg 8 64 64 (⟨D2.v, x1, D.nx + m, D2.len⟩ : Dg).rest w4 KL.out XL.out (Nat.le_refl _) (by omega) B4.out (K2.out.fr F4.out (by simpa using KD.out)) (fun j z hj => by
            have hj64 : j < 64 := by rw [← XL.out]; exact (List.getElem?_eq_some_iff.1 hj).1
            rw [B4.out.cell, Dg.at_x _ XL.out j hj64]
            show Option.map _ x1[j]? = _
            rw [hj]
            rfl))
          go_wp2_with fail
          go_region
          rw [← HW3.out]
          go_wp2_with fail
          rw [show w3.setCell ⟨dg, 72, none⟩ (.int .i64 64) = w4 from by rw [HW4.out, h64]; rfl]
          refine BK.out.mono ?_
          rintro e w5 ⟨rfl, b5, f5⟩
          have k72 := (((⟨blkF K x1 D2.v, x1, D.nx + m, D2.len⟩ : Dg).at_nx XL.out).1)
          have d5 : w5.cell? ⟨dg, 72, none⟩ = some (.int .i64 ((D.nx + m : Nat) : Int)) := by rw [b5.cell]; exact k72
          have g5 := b5.frozen 72
          have b6 := b5.set_ 72 (.int .i64 ((0 : Nat) : Int))
          have b6' : Blk (w5.setCell ⟨dg, 72, none⟩ (.int .i64 ((0 : Nat) : Int))) dg 215 (⟨blkF K x1 D2.v, x1, 0, D2.len⟩ : Dg).arr := by
            rw [← Dg.set_nx (⟨blkF K x1 D2.v, x1, D.nx + m, D2.len⟩ : Dg) XL.out 0]
            exact b6
          have f6 := (F4.out.trans1 f5).setCell (p := ⟨dg, 72, none⟩) (.inl (by simp)) (.int .i64 ((0 : Nat) : Int))
          have B6 := Lib.hid b6'
          have F6 := Lib.hid f6
          clear b5 f5 b6 b6' f6 k72
          go_wp2_with fail
          all_goals
            go_meet
            rw [AEQ.out, if_pos h64]
            first | exact ⟨FP.out _ F6.out, B6.out, F6.out⟩ | exact absurd HCM.out (by assumption)
      · by_cases hcm3 : c = m
        · have FP := Lib.hid (fun W hf => PD1.out W hf hcm3)
          have HCM := Lib.hid hcm3
          clear hcm3
          have h65 : ¬ ((D.nx + m : Nat) : Int) = 64 := by omega
          have h66 : ¬ ((D.nx : Int) + m) = 64 := by omega
          go_wp2_with fail
          go_region
          rw [← HW3.out]
          go_wp2_with fail
          all_goals
            go_meet
            rw [AEQ.out, if_neg h64, show ((D.nx : Int) + m) = ((D.nx + m : Nat) : Int) from by omega, ← HW4.out]
            first | exact ⟨FP.out w4 F4.out, B4.out, F4.out⟩ | exact absurd HCM.out (by assumption)
        · have FP := Lib.hid (fun W hf => PD2.out W hf hcm3)
          have h65 : ¬ ((D.nx + m : Nat) : Int) = 64 := by omega
          have h66 : ¬ ((D.nx : Int) + m) = 64 := by omega
          go_wp2_with fail
          go_region
          rw [← HW3.out]
          go_wp2_with fail
          all_goals
            go_meet
            rw [AEQ.out, if_neg h64, show ((D.nx : Int) + m) = ((D.nx + m : Nat) : Int) from by omega, ← HW4.out]
            first | exact ⟨FP.out w4 F4.out, B4.out, F4.out⟩ | exact absurd HCM.out (by assumption)
  case rest =>
    obtain ⟨P3, b3, f3⟩ := hcut
    obtain ⟨x3, _⟩ := Dg.a_ok (D := D2) K ps hx2 hnx2
    obtain ⟨D3, hD3⟩ : ∃ D3, D3 = (D2.a K ps).1 := ⟨_, rfl⟩
    obtain ⟨q3, hq3⟩ : ∃ q3, q3 = (D2.a K ps).2 := ⟨_, rfl⟩
    rw [← hD3] at b3 x3
    rw [← hq3] at P3
    have HD3 := Lib.hid hD3
    have HQ3 := Lib.hid hq3
    have B3 := Lib.hid b3
    have F3 := Lib.hid f3
    have K3 := Lib.hid (K2.out.fr f3 (by simpa using KD.out))
    obtain ⟨pb3, po3, c3, rfl, g1, g2, g3, g4⟩ := P3
    obtain ⟨n3, hn3⟩ : ∃ n3, n3 = q3.length := ⟨_, rfl⟩
    have S3 := Lib.hid (show PS wc dg q3 (.slice (some ⟨pb3, po3, none⟩) q3.length c3) from ⟨pb3, po3, c3, rfl, g1, g2, g3, g4⟩)
    rw [← hn3] at g1 ⊢
    have HN3 := Lib.hid hn3
    have z0 : (0 : Int) ≤ n3 := by omega
    have z1 : (n3 : Int) ≤ c3 := by omega
    clear hD3 hq3 b3 f3 g4 hn3 B2 P2 K2
    go_upto_if 61 with fail
    go_cut [1] from 6 to 94 (fun p wd => PS wd dg (D3.b K q3).2 p ∧ Blk wd dg 215 (D3.b K q3).1.arr ∧ Fr [dg] w2 wd)
    case first =>
      by_cases h64 : n3 < 64
      · have hb : D3.b K q3 = (D3, q3) := by unfold Dg.b; rw [if_pos (by rw [← HN3.out]; exact h64)]
        have S4 := S3.out
        rw [← HN3.out] at S4
        have h65 : ¬ (64 : Int) ≤ n3 := by omega
        have h66 : decide ((64 : Int) ≤ n3) = false := by simp; omega
        go_wp2_with fail
        go_meet
        rw [hb]
        exact ⟨S4, B3.out, F3.out⟩
      · have h65 : (64 : Int) ≤ n3 := by omega
        have h66 : decide ((64 : Int) ≤ n3) = true := by simp; omega
        obtain ⟨m, hm⟩ : ∃ m, m = n3 / 64 * 64 := ⟨_, rfl⟩
        have han := i64_andNot63 n3 (by have := HN3.out; omega)
        rw [← hm] at han
        have hm1 : 64 ≤ m := by omega
        have hm2 : m ≤ n3 := by omega
        have HM := Lib.hid hm
        have y0 : (64 : Int) ≤ m := by omega
        have y1 : (m : Int) ≤ n3 := by omega
        clear hm
        rw [h66]
        go_wp2_with fail
        go_loopw [1, 7] (fun p x wr => ∃ j : Nat, 65536 * j < m ∧ x = .int .i64 ((m - 65536 * j : Nat) : Int) ∧ PS wr dg (chunk K D3.v q3 j).2 p ∧ Blk wr dg 215 (⟨(chunk K D3.v q3 j).1, D3.x, D3.nx, D3.len⟩ : Dg).arr ∧ Fr [dg] w2 wr) (fun _ x _ => (intOf x).toNat)
        case atStart => exact ⟨0, by omega, by simp, by have h9 := S3.out; rw [← HN3.out] at h9; exact h9, B3.out, F3.out⟩
        case round =>
          obtain ⟨j, hj, rfl, p4, b4, f4⟩ := hrel
          obtain ⟨w4, rfl⟩ : ∃ w4 : World, w4 = wr := ⟨_, rfl⟩
          have hcl := chunk_len K D3.v q3 j
          obtain ⟨V, hV⟩ : ∃ V, V = chunk K D3.v q3 j := ⟨_, rfl⟩
          rw [← hV] at p4 b4 hcl
          rw [← HN3.out] at hcl
          obtain ⟨pb4, po4, c4, rfl, k1, k2, k3, k4⟩ := p4
          obtain ⟨r, hr⟩ : ∃ r, r = m - 65536 * j := ⟨_, rfl⟩
          obtain ⟨l4, hl4⟩ : ∃ l4, l4 = V.2.length := ⟨_, rfl⟩
          have hrl : r ≤ l4 := by omega
          have HV := Lib.hid hV
          have HR := Lib.hid hr
          have HL4 := Lib.hid hl4
          have P4 := Lib.hid (show PS w4 dg V.2 (.slice (some ⟨pb4, po4, none⟩) V.2.length c4) from ⟨pb4, po4, c4, rfl, k1, k2, k3, k4⟩)
          rw [← hl4] at k1 ⊢
          rw [← hr]
          have B4 := Lib.hid b4
          have F4 := Lib.hid f4
          have K4 := Lib.hid ((HK.out.fr F2.out (by simpa using KD.out)).fr f4 (by simpa using KD.out))
          have SRC4 := Lib.hid k4
          have t0 : (0 : Int) < r := by omega
          have t1 : (r : Int) ≤ l4 := by omega
          have t2 : (l4 : Int) ≤ c4 := by omega
          have NX := Lib.hid (fun (W : World) (hf : Fr [dg] w4 W) (x : Nat) (hx : x ≤ l4) => show (c4 = x → PS W dg (V.2.drop x) (.slice (some ⟨pb4, po4, none⟩) (l4 - x) 0)) ∧ (¬ c4 = x → PS W dg (V.2.drop x) (.slice (some ⟨pb4, po4 + x, none⟩) (l4 - x) (c4 - x))) from by
            obtain ⟨pb', po', c', he, _, _, h4, hs⟩ := P4.out.fr hf
            simp only [Value.slice.injEq, Option.some.injEq, Addr.mk.injEq, and_true] at he
            obtain ⟨⟨rfl, rfl⟩, _, rfl⟩ := he
            refine ⟨fun hc => ?_, fun hc => ?_⟩
            · refine ⟨pb4, po4, 0, by rw [List.length_drop, ← HL4.out], by rw [List.length_drop, ← HL4.out]; omega, by rw [List.length_drop]; omega, h4, fun i z hi => ?_⟩
              rw [List.getElem?_drop] at hi
              have := (List.getElem?_eq_some_iff.1 hi).1
              rw [← HL4.out] at this
              omega
            · refine ⟨pb4, po4 + x, c4 - x, by rw [List.length_drop, ← HL4.out], by rw [List.length_drop, ← HL4.out]; omega, by rw [List.length_drop]; omega, h4, fun i z hi => ?_⟩
              rw [List.getElem?_drop] at hi
              rw [Nat.add_assoc]
              exact hs (x + i) z hi)
          have BKK := Lib.hid (fun (x : Nat) (hx : x ≤ l4) => block_any K (V.2.take x) V.1 dg pb4 po4 x c4 (⟨V.1, D3.x, D3.nx, D3.len⟩ : Dg).rest w4 KL.out (by rw [List.length_take, ← HL4.out]; omega) (by omega) (by omega) B4.out K4.out (fun i z hi => by
            have h1 := (List.getElem?_eq_some_iff.1 hi).1
            rw [List.length_take] at h1
            rw [List.getElem?_take, if_pos (by omega)] at hi
            exact SRC4.out i z hi))
          clear hV hr hl4 b4 f4 k4 hcl
          by_cases hbig : 65536 < r
          · have u0 : (65536 : Int) < r := by omega
            have u1 : decide ((65536 : Int) < r) = true := by simp; omega
            have BK := Lib.hid (BKK.out 65536 (by omega))
            by_cases hcc : c4 = 65536
            · omega
            · have FP := Lib.hid (fun W hf => (NX.out W hf 65536 (by omega)).2 hcc)
              clear BKK
              go_wp2_with fail
              refine BK.out.mono ?_
              rintro e w5 ⟨rfl, b5, f5⟩
              have B5 := Lib.hid b5
              have F5 := Lib.hid f5
              clear b5 f5
              go_wp2_with fail
              rw [show ((r : Int) - 65536) = ((m - 65536 * (j + 1) : Nat) : Int) from by have := HR.out; omega]
              go_roundw
              case rel =>
                exact ⟨j + 1, by have := HR.out; omega, rfl, by
                  rw [show chunk K D3.v q3 (j + 1) = (blkF K (V.2.take 65536) V.1, V.2.drop 65536) from by rw [HV.out]; rfl]
                  exact FP.out w5 F5.out, by
                  rw [show chunk K D3.v q3 (j + 1) = (blkF K (V.2.take 65536) V.1, V.2.drop 65536) from by rw [HV.out]; rfl]
                  exact B5.out, F4.out.trans1 F5.out⟩
              case measure => simp [intOf]; have := HR.out; omega
          · have u0 : ¬ (65536 : Int) < r := by omega
            have u1 : decide ((65536 : Int) < r) = false := by simp; omega
            have BK := Lib.hid (BKK.out r (by omega))
            have HBE := Lib.hid (show D3.b K q3 = (⟨blkF K (V.2.take r) V.1, D3.x, D3.nx, D3.len⟩, V.2.drop r) from by
              have hjj : j = (n3 / 64 * 64 - 1) / 65536 := by
                have := HR.out
                have := HM.out
                omega
              unfold Dg.b
              rw [← HN3.out, if_neg (by omega), ← hjj, ← HV.out, ← HM.out, ← HR.out])
            have NXR := Lib.hid (fun W hf => NX.out W hf r (by omega))
            clear BKK NX
            go_wp2_with fail
            refine BK.out.mono ?_
            rintro e w5 ⟨rfl, b5, f5⟩
            have B5 := Lib.hid b5
            have F5 := Lib.hid f5
            clear b5 f5
            go_wp2_with fail
            all_goals
              go_meet
              rw [HBE.out]
              first | exact ⟨(NXR.out w5 F5.out).1 (by assumption), B5.out, F4.out.trans1 F5.out⟩ | exact ⟨(NXR.out w5 F5.out).2 (by assumption), B5.out, F4.out.trans1 F5.out⟩
    case rest =>
      obtain ⟨p6, b6, f6⟩ := hcut
      obtain ⟨bx, bl, bn, bq⟩ := Dg.b_ok (D := D3) K q3
      obtain ⟨D6, hD6⟩ : ∃ D6, D6 = (D3.b K q3).1 := ⟨_, rfl⟩
      obtain ⟨q6, hq6⟩ : ∃ q6, q6 = (D3.b K q3).2 := ⟨_, rfl⟩
      rw [← hD6] at b6 bx
      rw [← hq6] at p6 bq
      have hx6 : D6.x.length = 64 := by rw [bx]; exact x3
      have HW := Lib.hid (show D.wr K ps = D6.c q6 from by
        unfold Dg.wr
        rw [HN.out, ← HD2.out, ← HD3.out, ← HQ3.out, ← hD6, ← hq6])
      obtain ⟨pb6, po6, c6, rfl, k1, k2, k3, k4⟩ := p6
      obtain ⟨n6, hn6⟩ : ∃ n6, n6 = q6.length := ⟨_, rfl⟩
      have HN6 := Lib.hid hn6
      have hn64 : n6 < 64 := by rw [hn6, bq]; omega
      have B6 := Lib.hid b6
      have F6 := Lib.hid (F2.out.trans1 f6)
      have g72 := b6.frozen 72
      have d72 : ∃ v, wc.cell? ⟨dg, 72, none⟩ = some v := ⟨_, by rw [b6.cell]; exact (D6.at_nx hx6).1⟩
      obtain ⟨v72, d72⟩ := d72
      have hcp : (Builtin.copy_ #[70, 70] 3 #[.slice (some ⟨dg, 8, none⟩) 64 64, .slice (some ⟨pb6, po6, none⟩) n6 c6]).run Tryz.prog wc = .ok (.int .i64 n6) (wc.setRow dg (⟨D6.v, spl D6.x 0 q6, D6.nx, D6.len⟩ : Dg).arr) := by
        have h9 := run_copy_row (P := Tryz.prog) wc 70 70 3 5 dg (8 + 0) 64 64 ⟨pb6, po6, none⟩ n6 c6 D6.arr 215 (q6.map (Value.int .u8)) Tryz.underlying70 (by kernel_rfl) b6 (by rw [List.length_map, ← hn6]; show n6 = min n6 64; omega) (fun j v hj => by
          rw [List.getElem?_map, Option.map_eq_some_iff] at hj
          obtain ⟨z, hz, rfl⟩ := hj
          rw [Lib.addr_add]
          exact k4 j z hz) (by rw [List.length_map, ← hn6]; have h8 : D6.arr.size = 75 := by simp [hx6]
                               omega) (by intro v hv; obtain ⟨z, _, rfl⟩ := List.mem_map.1 hv; rfl)
        rw [D6.set_x hx6 0 q6 (by rw [← hn6]; omega), List.length_map, ← hn6] at h9
        exact h9
      obtain ⟨w7, hw7⟩ : ∃ w7, w7 = wc.setRow dg (⟨D6.v, spl D6.x 0 q6, D6.nx, D6.len⟩ : Dg).arr := ⟨_, rfl⟩
      rw [← hw7] at hcp
      have hsl : (spl D6.x 0 q6).length = 64 := by rw [spl_len _ _ _ (by rw [← hn6, hx6]; omega), hx6]
      have b7 : Blk w7 dg 215 (⟨D6.v, spl D6.x 0 q6, D6.nx, D6.len⟩ : Dg).arr := by rw [hw7]; exact setRow_heap _ _ _ _ _ _ b6
      have f7 : Fr [dg] wc w7 := by rw [hw7]; exact fr_setRow (Fr.refl _ _) (.inl (by simp)) _
      have d7 : w7.cell? ⟨dg, 72, none⟩ = some (.int .i64 D6.nx) := by rw [b7.cell]; exact (Dg.at_nx (⟨D6.v, spl D6.x 0 q6, D6.nx, D6.len⟩ : Dg) hsl).1
      have g7 := b7.frozen 72
      have b8 := b7.set_ 72 (.int .i64 (n6 : Int))
      rw [Dg.set_nx (⟨D6.v, spl D6.x 0 q6, D6.nx, D6.len⟩ : Dg) hsl n6] at b8
      have B8 := Lib.hid b8
      have F8 := Lib.hid (f7.setCell (p := ⟨dg, 72, none⟩) (.inl (by simp)) (.int .i64 (n6 : Int)))
      have z6 : (0 : Int) ≤ n6 := by omega
      rw [← hn6] at k1 ⊢
      have z7 : (n6 : Int) ≤ c6 := by omega
      clear hD6 hq6 hn6 b6 f6 k4 b7 f7 b8 hw7
      by_cases h0 : n6 = 0
      · have h1 : D6.c q6 = D6 := by unfold Dg.c; rw [if_pos (by rw [← HN6.out]; exact h0)]
        have H1 := Lib.hid h1
        rw [h0]
        clear h1 hcp
        go_wp2_with fail
        go_ret2
        rw [HW.out, H1.out]
        exact ⟨rfl, B6.out, F6.out⟩
      · have h1 : D6.c q6 = ⟨D6.v, spl D6.x 0 q6, n6, D6.len⟩ := by unfold Dg.c; rw [if_neg (by rw [← HN6.out]; exact h0), ← HN6.out]
        have H1 := Lib.hid h1
        have hp : (0 : Int) < n6 := by omega
        clear h1
        go_wp2_with fail
        go_ret2
        rw [HW.out, H1.out]
        exact ⟨rfl, B8.out, F6.out.trans1 F8.out⟩
end Go.Proofs.YtedjadicdodahaaGreatDoor
