/- Laws on packages: again; told. (printed by gen_pl.py) -/
import Derived.BigRegion
import Derived.BigQuiet
import Derived.Test.YtfckbpgghlifjaaDoorPf
import Derived.Test.YtfckbpgghlifjaaDoorPb
import Derived.Test.YtfckbpgghlifjaaDoorPs
namespace Go.Proofs.YtfckbpgghlifjaaDoor
open Go.RowKit Go.Maps

theorem packS_pos2 (K : List Int) (v : Nat) (s : Bool) (l : List El) : 1 ≤ (packS K v s l).size := by
  unfold packS
  rw [str_size, List.length_append, fpL_len]
  omega
theorem eight_inj {a0 a1 a2 a3 a4 a5 a6 a7 b0 b1 b2 b3 b4 b5 b6 b7 : Int} (h : (#[.int .u8 a0, .int .u8 a1, .int .u8 a2, .int .u8 a3, .int .u8 a4, .int .u8 a5, .int .u8 a6, .int .u8 a7] : Array Value) = #[.int .u8 b0, .int .u8 b1, .int .u8 b2, .int .u8 b3, .int .u8 b4, .int .u8 b5, .int .u8 b6, .int .u8 b7]) : b0 = a0 ∧ b1 = a1 ∧ b2 = a2 ∧ b3 = a3 ∧ b4 = a4 ∧ b5 = a5 ∧ b6 = a6 ∧ b7 = a7 := by
  simp at h
  obtain ⟨h0, h1, h2, h3, h4, h5, h6, h7⟩ := h
  exact ⟨h0.symm, h1.symm, h2.symm, h3.symm, h4.symm, h5.symm, h6.symm, h7.symm⟩
theorem told_pre (l : List El) (k j : Nat) (hk : k < l.length) (hj : j < l[k].bits.l.length) : ((told (l.take k) ++ (l[k].bits.l.take j).flatMap bitTold) ++ bitTold l[k].bits.l[j]) <+: told l := by
  have h0 : l = l.take k ++ l[k] :: l.drop (k + 1) := by rw [List.getElem_cons_drop, List.take_append_drop]
  have h1 : l[k].bits.l = l[k].bits.l.take j ++ l[k].bits.l[j] :: l[k].bits.l.drop (j + 1) := by rw [List.getElem_cons_drop, List.take_append_drop]
  have h2 : told l = told (l.take k) ++ (elTold l[k] ++ told (l.drop (k + 1))) := by
    conv => lhs; rw [h0]
    unfold told
    rw [List.flatMap_append, List.flatMap_cons]
  have h3 : elTold l[k] = (l[k].bits.l.take j).flatMap bitTold ++ (bitTold l[k].bits.l[j] ++ (l[k].bits.l.drop (j + 1)).flatMap bitTold) := by
    unfold elTold
    conv => lhs; rw [h1]
    rw [List.flatMap_append, List.flatMap_cons]
  rw [h2, h3]
  refine ⟨(l[k].bits.l.drop (j + 1)).flatMap bitTold ++ told (l.drop (k + 1)), ?_⟩
  simp [List.append_assoc]
theorem bne_dec (x : Int) : (x != 0) = decide (x ≠ 0) := by by_cases h : x = 0 <;> simp [h]
set_option maxRecDepth 100000 in
set_option maxHeartbeats 1000000 in
theorem fnPackAgain_any {H : Type} {enc : TypeId × Value → H} (v : Int) (s : Bool) (A : Option Addr) (n c : Nat) (w : World) (hv : -9223372036854775808 ≤ v ∧ v < 9223372036854775808) (f : Rd enc Tryd.prog w 33 [.slice A n c]) (hG : ∃ K, Gl K w) :
    Calls Tryd.prog 5 #[.int .i64 v, .bool s, .slice A n c] w (LawEnd w) := by
  obtain ⟨K, hK⟩ := hG
  obtain ⟨⟨_, _, l⟩, rfl, rfl, rfl, hL, hc⟩ := Rd.elsC f
  replace hc : l.length ≤ c := hc
  have hm : l.length ≤ maxLen := hL.len
  unfold maxLen at hm
  show Calls Tryd.prog 5 #[.int .i64 v, .bool s, .slice A l.length c] w (LawEnd w)
  have n0 : (0 : Int) ≤ l.length := by omega
  have n1 : (l.length : Int) ≤ 9223372036854775807 := by omega
  have n2 : (l.length : Int) ≤ c := by omega
  have Z1 := Lib.hid (zz1_any ⟨A, c, l⟩ w hL)
  have PO := Lib.hid (fun (W : World) (hb : Below w.heap.size w W) => packOk_any v s ⟨A, c, l⟩ W (hL.here hb))
  have PA := Lib.hid (fun (W : World) (hb : Below w.heap.size w W) (hp : PackP v s l) => show Calls Tryd.prog 18 #[.int .i64 v, .bool s, .slice A l.length c] W (PackOut K v.toNat s l W) from by
    have h1 := hp.ver
    obtain ⟨vn, rfl⟩ : ∃ vn : Nat, v = vn := ⟨v.toNat, by omega⟩
    exact pack_any vn s ⟨A, c, l⟩ W (hK.here hb) (hL.here hb) hp.ok hp.len (by omega))
  have HL := Lib.hid hL
  have HK := Lib.hid hK
  have v0 := hv.1
  have v1 := hv.2
  clear f hL hK hm hv
  go_enter Tryd.func5, Tryd.ntmps5
  go_wp2_with fail
  refine Z1.out.mono ?_
  rintro e w1 ⟨b1, rfl, _, hb1⟩
  have B1 := Lib.hid hb1
  clear hb1 Z1
  rcases b1 with _ | _
  · go_wp2_with fail
    go_returns
    exact ⟨rfl, B1.out⟩
  go_wp2_with fail
  refine (PO.out w1 B1.out).mono ?_
  rintro e w2 ⟨b2, rfl, hp2, hb2⟩
  have B2 := Lib.hid (below_from B1.out hb2)
  clear hb2 PO B1
  rcases b2 with _ | _
  · go_wp2_with fail
    go_returns
    exact ⟨rfl, B2.out⟩
  have PP := Lib.hid (hp2 rfl)
  clear hp2
  go_wp2_with fail
  refine (PA.out w2 B2.out PP.out).mono ?_
  rintro e w3 ⟨Ai, ci, At, ct, z0, z1, z2, z3, z4, z5, z6, z7, rfl, hF, hci, hct, si, st, hb3⟩
  have B3 := Lib.hid (below_from B2.out hb3)
  go_wp2_with fail
  refine (PA.out w3 B3.out PP.out).mono ?_
  rintro e w4 ⟨Aix, cix, Atx, ctx, z0x, z1x, z2x, z3x, z4x, z5x, z6x, z7x, rfl, hFx, hcix, hctx, six, stx, hb4⟩
  have B4 := Lib.hid (below_from B3.out hb4)
  obtain ⟨e0, e1, e2, e3, e4, e5, e6, e7⟩ := eight_inj (hF.symm.trans hFx)
  subst e0 e1 e2 e3 e4 e5 e6 e7
  obtain ⟨D, hD⟩ : ∃ D, D = packS K v.toNat s l := ⟨_, rfl⟩
  have d0 : (0 : Int) < D.size := by
    have h1 := packS_pos2 K v.toNat s l
    rw [← hD] at h1
    omega
  rw [← hD]
  have hq : ∀ W, (binOp .eql 37 (.agg #[.int .u8 z0x, .int .u8 z1x, .int .u8 z2x, .int .u8 z3x, .int .u8 z4x, .int .u8 z5x, .int .u8 z6x, .int .u8 z7x]) (.agg #[.int .u8 z0x, .int .u8 z1x, .int .u8 z2x, .int .u8 z3x, .int .u8 z4x, .int .u8 z5x, .int .u8 z6x, .int .u8 z7x])).run Tryd.prog W = .ok (.bool true) W := fun W => by
    have h := run_eql_ints (P := Tryd.prog) (t := 37) W Tryd.underlying37 Tryd.underlying5 (by kernel_rfl) (by kernel_rfl) [z0x, z1x, z2x, z3x, z4x, z5x, z6x, z7x] [z0x, z1x, z2x, z3x, z4x, z5x, z6x, z7x] rfl rfl
    simpa using h
  clear hF hFx si st six stx hb3 hb4 hD
  go_wp2_with fail
  go_returns
  exact ⟨rfl, Below.alloc (Below.alloc B4.out B4.out.size _) (by have := B4.out.size; simp; omega) _⟩
set_option maxRecDepth 100000 in
set_option maxHeartbeats 1000000 in
theorem fnPackTold_any {H : Type} {enc : TypeId × Value → H} (v : Int) (s : Bool) (A : Option Addr) (n c : Nat) (w : World) (hv : -9223372036854775808 ≤ v ∧ v < 9223372036854775808) (f : Rd enc Tryd.prog w 33 [.slice A n c]) (hG : ∃ K, Gl K w) :
    Calls Tryd.prog 6 #[.int .i64 v, .bool s, .slice A n c] w (LawEnd w) := by
  obtain ⟨K, hK⟩ := hG
  obtain ⟨⟨_, _, l⟩, rfl, rfl, rfl, hL, hc⟩ := Rd.elsC f
  replace hc : l.length ≤ c := hc
  have hm : l.length ≤ maxLen := hL.len
  unfold maxLen at hm
  show Calls Tryd.prog 6 #[.int .i64 v, .bool s, .slice A l.length c] w (LawEnd w)
  have n0 : (0 : Int) ≤ l.length := by omega
  have n1 : (l.length : Int) ≤ 9223372036854775807 := by omega
  have n2 : (l.length : Int) ≤ c := by omega
  have Z1 := Lib.hid (zz1_any ⟨A, c, l⟩ w hL)
  have PO := Lib.hid (fun (W : World) (hb : Below w.heap.size w W) => packOk_any v s ⟨A, c, l⟩ W (hL.here hb))
  have PA := Lib.hid (fun (W : World) (hb : Below w.heap.size w W) (hp : PackP v s l) => show Calls Tryd.prog 18 #[.int .i64 v, .bool s, .slice A l.length c] W (PackOut K v.toNat s l W) from by
    have h1 := hp.ver
    obtain ⟨vn, rfl⟩ : ∃ vn : Nat, v = vn := ⟨v.toNat, by omega⟩
    exact pack_any vn s ⟨A, c, l⟩ W (hK.here hb) (hL.here hb) hp.ok hp.len (by omega))
  have HL := Lib.hid hL
  have HK := Lib.hid hK
  have v0 := hv.1
  have v1 := hv.2
  clear f hL hK hm hv
  go_enter Tryd.func6, Tryd.ntmps6
  go_wp2_with fail
  refine Z1.out.mono ?_
  rintro e w1 ⟨b1, rfl, _, hb1⟩
  have B1 := Lib.hid hb1
  clear hb1 Z1
  rcases b1 with _ | _
  · go_wp2_with fail
    go_returns
    exact ⟨rfl, B1.out⟩
  go_wp2_with fail
  refine (PO.out w1 B1.out).mono ?_
  rintro e w2 ⟨b2, rfl, hp2, hb2⟩
  have B2 := Lib.hid (below_from B1.out hb2)
  clear hb2 PO B1
  rcases b2 with _ | _
  · go_wp2_with fail
    go_returns
    exact ⟨rfl, B2.out⟩
  have PP := Lib.hid (hp2 rfl)
  clear hp2
  go_wp2_with fail
  refine (PA.out w2 B2.out PP.out).mono ?_
  rintro e w3 ⟨Ai, ci, At, ct, z0, z1, z2, z3, z4, z5, z6, z7, rfl, hF, hci, hct, si, st, hb3⟩
  have B3 := Lib.hid (below_from B2.out hb3)
  have ST := Lib.hid st
  have i5 : ((told l).length : Int) ≤ ct := by omega
  have n3 : (l.length : Int) ≤ 60 := by have := PP.out.len; omega
  have tl := told_len l (fun x hx => (PP.out.ok x hx).len)
  have tl2 : ((told l).length : Int) ≤ 3600 := by omega
  obtain ⟨N, hN⟩ : ∃ N, N = (told l).length := ⟨_, rfl⟩
  rw [← hN] at i5 tl2 ⊢
  have HN := Lib.hid hN
  have hfd : ∀ W, (Instr.field 39 (.agg #[.string (packS K v.toNat s l), .slice Ai l.length ci, .slice At N ct, .int .u8 z0, .int .u8 z1, .int .u8 z2, .int .u8 z3, .int .u8 z4, .int .u8 z5, .int .u8 z6, .int .u8 z7]) 2).run Tryd.prog W = .ok (.slice At N ct) W := fun W => by kernel_rfl
  clear hF si st tl hct hb3 hN
  go_wp2_with fail
  go_loopw [6, 8, 28] (fun _ m x wr => ∃ k : Nat, k ≤ l.length ∧ x = .int .i64 k ∧ m = .int .i64 (told (l.take k)).length ∧ Below w3.heap.size w3 wr) (fun _ _ x _ => l.length - (intOf x).toNat)
  case atStart => exact ⟨0, by omega, rfl, rfl, Below.refl _ _⟩
  case round =>
    obtain ⟨k, hk, rfl, rfl, hb⟩ := hrel
    have HB := Lib.hid hb
    have zb := hb.size
    have BW := Lib.hid (B3.out.trans (hb.mono B3.out.size))
    by_cases hlt : k < l.length
    · obtain ⟨g, o, rfl, hcl⟩ := SlR.at_ (HL.out.here BW.out).l k hlt
      have IN := Lib.hid (HL.out.sub l[k] (List.getElem_mem hlt))
      have OK := Lib.hid (PP.out.ok l[k] (List.getElem_mem hlt))
      have TE := Lib.hid (told_elem l k hlt)
      have TN := Lib.hid (fun j => told_next l k j hlt)
      have TP := Lib.hid (fun j => told_pre l k j hlt)
      obtain ⟨T, hT⟩ : ∃ T, T = told (l.take k) := ⟨_, rfl⟩
      rw [← hT] at TE TN TP ⊢
      have TL := Lib.hid (show T.length ≤ N from by
        rw [hT, HN.out]
        have h1 : told (l.take k) <+: told l := by
          unfold told
          exact ⟨(l.drop k).flatMap elTold, by rw [← List.flatMap_append, List.take_append_drop]⟩
        exact h1.length_le)
      have q0 := hcl 0 _ rfl
      have q1 := hcl 1 _ rfl
      have q2 := hcl 2 _ rfl
      rw [Nat.add_zero] at q0
      clear hb hcl hT
      generalize l[k] = x at *
      obtain ⟨sec, mark, ⟨BA, bc, bl⟩⟩ := x
      have hbl : bl.length ≤ 60 := OK.out.len
      have HB4 := Lib.hid (HB.out.alloc zb (.cells #[.int .i64 sec, .int .i64 mark, .slice BA bl.length bc] 43))
      have b0 : (0 : Int) ≤ bl.length := by omega
      have b1 : (bl.length : Int) ≤ 60 := by omega
      go_wp2_with fail
      go_loopw [6, 8, 35] (fun _ m x wr => ∃ j : Nat, j ≤ bl.length ∧ x = .int .i64 j ∧ m = .int .i64 (T ++ (bl.take j).flatMap bitTold).length ∧ Below w3.heap.size w3 wr) (fun _ _ x _ => bl.length - (intOf x).toNat)
      case atStart => exact ⟨0, by omega, rfl, by simp, HB4.out⟩
      case round =>
        obtain ⟨j, hj, rfl, rfl, hb⟩ := hrel
        obtain ⟨w5, rfl⟩ : ∃ w5 : World, w5 = wr := ⟨_, rfl⟩
        have HB5 := Lib.hid hb
        have zb5 := hb.size
        have BW5 := Lib.hid (B3.out.trans (hb.mono B3.out.size))
        by_cases hltj : j < bl.length
        · obtain ⟨h, u, rfl, hcl⟩ := SlR.at_ (IN.out.bits.here BW5.out).l j hltj
          have TNJ := Lib.hid (show T ++ (bl.take (j + 1)).flatMap bitTold = (T ++ (bl.take j).flatMap bitTold) ++ bitTold bl[j] from TN.out j hltj)
          have TPJ := Lib.hid (show ((T ++ (bl.take j).flatMap bitTold) ++ bitTold bl[j]) <+: told l from TP.out j hltj)
          have hdl : (T ++ (bl.take j).flatMap bitTold).length ≤ 4000 := by
            have h1 := bitTold_len (bl.take j)
            have h2 := TL.out
            rw [List.length_take] at h1
            rw [List.length_append]
            omega
          obtain ⟨U, hU⟩ : ∃ U, U = T ++ (bl.take j).flatMap bitTold := ⟨_, rfl⟩
          rw [← hU] at TNJ TPJ hdl ⊢
          have q0 := hcl 0 _ rfl
          have q1 := hcl 1 _ rfl
          have q2 := hcl 2 _ rfl
          have q3 := hcl 3 _ rfl
          have q4 := hcl 4 _ rfl
          rw [Nat.add_zero] at q0
          clear hb hcl hU
          generalize bl[j] = x at *
          obtain ⟨kind, num, bsec, text, ⟨TA, tc, tls⟩⟩ := x
          have HB6 := Lib.hid (HB5.out.alloc zb5 (.cells #[.int .i64 kind, .int .i64 num, .int .i64 bsec, .string text, .slice TA tls.length tc] 45))
          by_cases h0 : kind = 0
          · subst h0
            have HT := Lib.hid (show bitTold ⟨0, num, bsec, text, ⟨TA, tc, tls⟩⟩ = [num != 0] from by rw [bne_dec]; rfl)
            have hul : U.length < N := by
              have h1 := TPJ.out.length_le
              rw [HT.out, List.length_append, List.length_singleton] at h1
              rw [HN.out]
              omega
            have hat : (told l)[U.length]? = some (num != 0) := pre_at TPJ.out (by rw [HT.out]; simp)
            obtain ⟨g2, o2, rfl, hcl2⟩ := ST.out (by rw [List.length_map, ← HN.out]; omega)
            have r0 := keep_cell HB6.out (hcl2 U.length _ (by rw [List.getElem?_map, hat]; rfl))
            have u0 : (0 : Int) ≤ U.length := by omega
            have u1 : (U.length : Int) < N := by omega
            clear hat hcl2
            go_wp2_with fail
            go_quiet (fail)
            go_wp2_with fail
            go_roundw
            case rel => exact ⟨j + 1, by omega, by go_num, by rw [TNJ.out, HT.out, List.length_append, List.length_singleton]; go_num, below_drewN HB6.out _⟩
            case measure => simp [intOf]; omega
          · have HT := Lib.hid (show bitTold ⟨kind, num, bsec, text, ⟨TA, tc, tls⟩⟩ = [] from if_neg h0)
            have e1 : (kind == 0) = false := by simpa using h0
            have e2 : (kind != 0) = true := by simpa using h0
            go_wp2_with fail
            go_roundw
            case rel => exact ⟨j + 1, by omega, by go_num, by rw [TNJ.out, HT.out, List.append_nil], HB6.out⟩
            case measure => simp [intOf]; omega
        · have hjn : j = bl.length := by omega
          have HA := Lib.hid (List.take_of_length_le (Nat.le_of_eq hjn.symm) : bl.take j = bl)
          go_wp2_with fail
          go_roundw
          case rel => exact ⟨k + 1, by omega, by go_num, by rw [TE.out, HA.out], HB5.out⟩
          case measure => simp [intOf]; omega
    · have hkn : k = l.length := by omega
      have HA := Lib.hid (List.take_of_length_le (Nat.le_of_eq hkn.symm) : l.take k = l)
      rw [HA.out, ← HN.out]
      go_wp2_with fail
      go_returns
      exact ⟨by simp, BW.out⟩
end Go.Proofs.YtfckbpgghlifjaaDoor
