/- Laws on packages: their indices. (printed by gen_pl.py) -/
import Derived.BigRegion
import Derived.Test.YtfckbpgghlifjaaGreatDoorPh
import Derived.Test.YtfckbpgghlifjaaGreatDoorPb
import Derived.Test.YtfckbpgghlifjaaGreatDoorPs
namespace Go.Proofs.YtfckbpgghlifjaaGreatDoor
open Go.RowKit Go.Maps

theorem packS_pos (K : List Int) (v : Nat) (s : Bool) (l : List El) : 1 ≤ (packS K v s l).size := by
  unfold packS
  rw [str_size, List.length_append, fpL_len]
  omega
theorem idxs_at (s : Bool) (l : List El) (hok : ∀ x ∈ l, x.Ok) (i : Nat) (h : i < l.length) : (idxs s l)[i]? = some (cntI (l.take i) l[i].sec) := by
  have hx := (hok l[i] (List.getElem_mem h)).sec
  unfold idxs
  rw [List.getElem?_map, List.getElem?_range h, Option.map_some, List.getElem?_eq_getElem h, Option.map_some, Option.getD_some, all_cnt s (l.take i) l[i].sec.toNat (by omega) (fun x hx => hok x (List.mem_of_mem_take hx))]
  unfold cntI
  rw [if_neg (by omega), show ((l[i].sec.toNat : Nat) : Int) = l[i].sec from by omega]
set_option maxRecDepth 100000 in
set_option maxHeartbeats 1000000 in
theorem fnPackIndices_any {H : Type} {enc : TypeId × Value → H} (v : Int) (s : Bool) (A : Option Addr) (n c : Nat) (w : World) (hv : -9223372036854775808 ≤ v ∧ v < 9223372036854775808) (f : Rd enc Tryz.prog w 27 [.slice A n c]) (hG : ∃ K, Gl K w) :
    Calls Tryz.prog 6 #[.int .i64 v, .bool s, .slice A n c] w (LawEnd w) := by
  obtain ⟨K, hK⟩ := hG
  obtain ⟨⟨_, _, l⟩, rfl, rfl, rfl, hL, hc⟩ := Rd.elsC f
  replace hc : l.length ≤ c := hc
  have hm : l.length ≤ maxLen := hL.len
  unfold maxLen at hm
  show Calls Tryz.prog 6 #[.int .i64 v, .bool s, .slice A l.length c] w (LawEnd w)
  have n0 : (0 : Int) ≤ l.length := by omega
  have n1 : (l.length : Int) ≤ 9223372036854775807 := by omega
  have n2 : (l.length : Int) ≤ c := by omega
  have Z1 := Lib.hid (zz1_any ⟨A, c, l⟩ w hL)
  have PO := Lib.hid (fun (W : World) (hb : Below w.heap.size w W) => packOk_any v s ⟨A, c, l⟩ W (hL.here hb))
  have PA := Lib.hid (fun (W : World) (hb : Below w.heap.size w W) (hp : PackP v s l) => show Calls Tryz.prog 15 #[.int .i64 v, .bool s, .slice A l.length c] W (PackOut K v.toNat s l W) from by
    have h1 := hp.ver
    obtain ⟨vn, rfl⟩ : ∃ vn : Nat, v = vn := ⟨v.toNat, by omega⟩
    exact pack_any vn s ⟨A, c, l⟩ W (hK.here hb) (hL.here hb) hp.ok hp.len (by omega))
  have HL := Lib.hid hL
  have HK := Lib.hid hK
  have v0 := hv.1
  have v1 := hv.2
  clear f hL hK hm hv
  go_enter Tryz.func6, Tryz.ntmps6
  go_wp2_with fail
  refine Z1.out.mono ?_
  rintro e w1 ⟨b1, rfl, _, hb1⟩
  have B1 := Lib.hid hb1
  clear hb1 Z1
  rcases b1 with _ | _
  · go_wp2_with fail
    go_returns
    exact ⟨rfl, B1.out⟩
  go_wp2_with fail
  refine (PO.out w1 B1.out).mono ?_
  rintro e w2 ⟨b2, rfl, hp2, hb2⟩
  have B2 := Lib.hid (below_from B1.out hb2)
  clear hb2 PO B1
  rcases b2 with _ | _
  · go_wp2_with fail
    go_returns
    exact ⟨rfl, B2.out⟩
  have PP := Lib.hid (hp2 rfl)
  clear hp2
  go_wp2_with fail
  refine (PA.out w2 B2.out PP.out).mono ?_
  rintro e w3 ⟨Ai, ci, At, ct, z0, z1, z2, z3, z4, z5, z6, z7, rfl, hF, hci, hct, si, st, hb3⟩
  have B3 := Lib.hid (below_from B2.out hb3)
  obtain ⟨D, hD⟩ : ∃ D, D = packS K v.toNat s l := ⟨_, rfl⟩
  have D1 := Lib.hid hD
  have d0 : (0 : Int) < D.size := by
    have h1 := packS_pos K v.toNat s l
    rw [← hD] at h1
    omega
  have dz : ((D.size : Int) == 0) = false := by rw [beq_eq_false_iff_ne]; omega
  rw [← hD]
  obtain ⟨w4, hw4⟩ : ∃ w4, w4 = w3.alloc (.cells #[.string D, .slice Ai l.length ci, .slice At (told l).length ct, .int .u8 z0, .int .u8 z1, .int .u8 z2, .int .u8 z3, .int .u8 z4, .int .u8 z5, .int .u8 z6, .int .u8 z7] 32) := ⟨_, rfl⟩
  have hb4 : Below w3.heap.size w3 w4 := by rw [hw4]; exact Below.alloc (Below.refl _ _) (Nat.le_refl _) _
  have BP := Lib.hid (show Blk w4 w3.heap.size 32 #[.string D, .slice Ai l.length ci, .slice At (told l).length ct, .int .u8 z0, .int .u8 z1, .int .u8 z2, .int .u8 z3, .int .u8 z4, .int .u8 z5, .int .u8 z6, .int .u8 z7] from by rw [hw4]; exact Blk.new _ _ _)
  have B4 := Lib.hid (below_from B3.out hb4)
  have SI := Lib.hid (si.here hb4)
  have ST := Lib.hid (st.here hb4)
  have n3 : (l.length : Int) ≤ 60 := by have := PP.out.len; omega
  have i4 : (l.length : Int) ≤ ci := by omega
  have i5 : ((told l).length : Int) ≤ ct := by omega
  have HW := Lib.hid hw4
  clear hb3 hb4 hw4 hD si st B3
  have IX := Lib.hid (fun (W : World) (hb : Below w.heap.size w W) (i : Nat) (hi : i < l.length) => indexOf_any ⟨A, c, l⟩ i W (HL.out.here hb) PP.out.ok PP.out.len hc hi)
  have AT := Lib.hid (idxs_at s l PP.out.ok)
  go_wp2_with fail
  rw [← HW.out]
  have p0 := BP.out.cell 0
  have p1 := BP.out.cell 1
  have pz := BP.out.lt
  go_wp2_with fail
  go_loopw [6, 8, 35] (fun _ _ x wr => ∃ i : Nat, i ≤ l.length ∧ x = .int .i64 i ∧ Below w4.heap.size w4 wr) (fun _ _ x _ => l.length - (intOf x).toNat)
  case atStart => exact ⟨0, by omega, rfl, Below.refl _ _⟩
  case round =>
    obtain ⟨i, hi, rfl, hb⟩ := hrel
    have HB := Lib.hid hb
    have zb := hb.size
    have BW := Lib.hid (B4.out.trans (hb.mono B4.out.size))
    by_cases hlt : i < l.length
    · have hil : i < (idxs s l).length := by rw [idxs_len]; exact hlt
      obtain ⟨g, o, rfl, hcl⟩ := SI.out (by rw [List.length_map]; omega)
      have q0 := keep_cell hb (hcl i _ (by rw [List.getElem?_map, AT.out i hlt]; rfl))
      have q1 := keep_cell hb (BP.out.cell 1)
      have IXI := Lib.hid (IX.out wr.drew BW.out.drew i hlt)
      obtain ⟨x, hx⟩ : ∃ x, x = cntI (l.take i) l[i].sec := ⟨_, rfl⟩
      rw [← hx] at q0
      have HX := Lib.hid hx
      replace IXI := Lib.hid (show Calls Tryz.prog 20 #[.slice A l.length c, .int .i64 i] wr.drew (RetV (.int .i64 x) wr.drew) from by rw [hx]; exact IXI.out)
      have j0 : (0 : Int) ≤ i := by omega
      have j1 : (i : Int) < l.length := by omega
      have q2 : wr.drew.cell? ⟨w3.heap.size, 1, none⟩ = some (.slice (some ⟨g, o, none⟩) l.length ci) := q1
      have q3 : wr.drew.cell? ⟨g, o + i, none⟩ = some (.int .i64 x) := q0
      clear hx hcl p0 p1 hb
      go_upto_region 11 with fail
      go_region_held3 (fun W => W.cell? ⟨w3.heap.size, 1, none⟩ = some (.slice (some ⟨g, o, none⟩) l.length ci) ∧ W.cell? ⟨g, o + i, none⟩ = some (.int .i64 x)) (first | exact ⟨q2, q3⟩ | exact ⟨r2, r3⟩ | go_keep)
        (first | (go_at_call 20; refine IXI.out.mono ?_; rintro e w5 ⟨rfl, b5⟩; have r2 := keep_cell b5 q2; have r3 := keep_cell b5 q3))
      all_goals
        have B5 := Lib.hid (HB.out.trans (((Below.drew (Below.refl _ _)).trans b5).mono HB.out.size))
        clear b5 r2 r3
        go_wp2_with fail
        go_roundw
        case rel => exact ⟨i + 1, by omega, by go_num, B5.out⟩
        case measure => simp [intOf]; omega
    · go_wp2_with fail
      go_returns
      exact ⟨rfl, BW.out⟩
end Go.Proofs.YtfckbpgghlifjaaGreatDoor
