/- Laws on packages: the strings met. (printed by gen_pl.py) -/
import Derived.BigRegion
import Derived.Test.YtfckbpgghlifjaaGreatDoorPh
import Derived.Test.YtfckbpgghlifjaaGreatDoorPb
import Derived.Test.YtfckbpgghlifjaaGreatDoorPs
import Derived.Test.YtfckbpgghlifjaaGreatDoorDf
namespace Go.Proofs.YtfckbpgghlifjaaGreatDoor
open Go.RowKit Go.Maps

theorem packT {K : List Int} {v : Int} {s : Bool} {l : List El} (hP : PackP v s l) (h1 : 1 ≤ ((Pk.all s l).elems 10).length) : PkT (packS K v.toNat s l) v.toNat s (Pk.all s l) (fpL K (q3 v.toNat s (Pk.all s l) ((Pk.all s l).elems 10))) := by
  have hv := hP.ver
  have hz := pack_size s l hP.len hP.ok
  exact ⟨rfl, fpL_len _ _, by omega, fun h => by have := hP.syn h; omega, h1, hz.1, hz.2⟩
theorem elems_pos (p : Pk) (k i : Nat) (hk : k < 10) (hi : i < (p k).length) : 1 ≤ (p.elems 10).length := by
  have := p.elems_le k i hk hi
  omega
theorem packS_pos3 (K : List Int) (v : Nat) (s : Bool) (l : List El) : 1 ≤ (packS K v s l).size := by
  unfold packS
  rw [str_size, List.length_append, fpL_len]
  omega
theorem Gl.gv {K : List Int} {w : World} (h : Gl K w) : Gv w := ⟨h.i, h.r⟩
theorem idxs_at3 (s : Bool) (l : List El) (hok : ∀ x ∈ l, x.Ok) (i : Nat) (h : i < l.length) : (idxs s l)[i]? = some (cntI (l.take i) l[i].sec) := by
  have hx := (hok l[i] (List.getElem_mem h)).sec
  unfold idxs
  rw [List.getElem?_map, List.getElem?_range h, Option.map_some, List.getElem?_eq_getElem h, Option.map_some, Option.getD_some, all_cnt s (l.take i) l[i].sec.toNat (by omega) (fun x hx => hok x (List.mem_of_mem_take hx))]
  unfold cntI
  rw [if_neg (by omega), show ((l[i].sec.toNat : Nat) : Int) = l[i].sec from by omega]
/-- Where an element stands: its index is how many there were. -/
theorem abs_at (s : Bool) (l : List El) (hok : ∀ x ∈ l, x.Ok) (i : Nat) (h : i < l.length) : (Pk.all s (l.take i) l[i].sec.toNat).length < (Pk.all s l l[i].sec.toNat).length ∧ (Pk.all s l l[i].sec.toNat)[(Pk.all s (l.take i) l[i].sec.toNat).length]? = some (str ((l[i].es s (Pk.all s (l.take i))).bytes s)) ∧ cntI (l.take i) l[i].sec = ((Pk.all s (l.take i) l[i].sec.toNat).length : Nat) := by
  have hx := (hok l[i] (List.getElem_mem h)).sec
  have h1 := (Pk.all_at s l i h (hok l[i] (List.getElem_mem h))).1
  refine ⟨(List.getElem?_eq_some_iff.1 h1).1, h1, ?_⟩
  rw [all_cnt s (l.take i) l[i].sec.toNat (by omega) (fun x hx => hok x (List.mem_of_mem_take hx))]
  unfold cntI
  rw [if_neg (by omega), show ((l[i].sec.toNat : Nat) : Int) = l[i].sec from by omega]
theorem cnt_all (s : Bool) (l : List El) (hok : ∀ x ∈ l, x.Ok) (j : Nat) : cntI l j = ((Pk.all s l j).length : Nat) := by
  unfold cntI
  by_cases h : j = 0
  · rw [if_pos (by omega), h, all_ss]
  · rw [if_neg (by omega), all_cnt s l j h hok]
set_option maxRecDepth 100000 in
set_option maxHeartbeats 1000000 in
theorem fnStringsMet_any {H : Type} {enc : TypeId × Value → H} (v : Int) (s : Bool) (A : Option Addr) (n c : Nat) (w : World) (hv : -9223372036854775808 ≤ v ∧ v < 9223372036854775808) (f : Rd enc Tryz.prog w 27 [.slice A n c]) (hG : ∃ K, Gl K w) :
    Calls Tryz.prog 12 #[.int .i64 v, .bool s, .slice A n c] w (LawEnd w) := by
  obtain ⟨K, hK⟩ := hG
  obtain ⟨⟨_, _, l⟩, rfl, rfl, rfl, hL, hc⟩ := Rd.elsC f
  replace hc : l.length ≤ c := hc
  have hm : l.length ≤ maxLen := hL.len
  unfold maxLen at hm
  show Calls Tryz.prog 12 #[.int .i64 v, .bool s, .slice A l.length c] w (LawEnd w)
  have n0 : (0 : Int) ≤ l.length := by omega
  have n1 : (l.length : Int) ≤ 9223372036854775807 := by omega
  have n2 : (l.length : Int) ≤ c := by omega
  have Z1 := Lib.hid (zz1_any ⟨A, c, l⟩ w hL)
  have PO := Lib.hid (fun (W : World) (hb : Below w.heap.size w W) => packOk_any v s ⟨A, c, l⟩ W (hL.here hb))
  have PA := Lib.hid (fun (W : World) (hb : Below w.heap.size w W) (hp : PackP v s l) => show Calls Tryz.prog 15 #[.int .i64 v, .bool s, .slice A l.length c] W (PackOut K v.toNat s l W) from by
    have h1 := hp.ver
    obtain ⟨vn, rfl⟩ : ∃ vn : Nat, v = vn := ⟨v.toNat, by omega⟩
    exact pack_any vn s ⟨A, c, l⟩ W (hK.here hb) (hL.here hb) hp.ok hp.len (by omega))
  have HL := Lib.hid hL
  have HK := Lib.hid hK
  have v0 := hv.1
  have v1 := hv.2
  clear f hL hK hm hv
  go_enter Tryz.func12, Tryz.ntmps12
  go_wp2_with fail
  refine Z1.out.mono ?_
  rintro e w1 ⟨b1, rfl, _, hb1⟩
  have B1 := Lib.hid hb1
  clear hb1 Z1
  rcases b1 with _ | _
  · go_wp2_with fail
    go_returns
    exact ⟨rfl, B1.out⟩
  go_wp2_with fail
  refine (PO.out w1 B1.out).mono ?_
  rintro e w2 ⟨b2, rfl, hp2, hb2⟩
  have B2 := Lib.hid (below_from B1.out hb2)
  clear hb2 PO B1
  rcases b2 with _ | _
  · go_wp2_with fail
    go_returns
    exact ⟨rfl, B2.out⟩
  have PP := Lib.hid (hp2 rfl)
  clear hp2
  go_wp2_with fail
  refine (PA.out w2 B2.out PP.out).mono ?_
  rintro e w3 ⟨Ai, ci, At, ct, z0, z1, z2, z3, z4, z5, z6, z7, rfl, hF, hci, hct, si, st, hb3⟩
  have B3 := Lib.hid (below_from B2.out hb3)
  obtain ⟨D, hD⟩ : ∃ D, D = packS K v.toNat s l := ⟨_, rfl⟩
  have D1 := Lib.hid hD
  have d0 : (0 : Int) < D.size := by
    have h1 := packS_pos3 K v.toNat s l
    rw [← hD] at h1
    omega
  have dz : ((D.size : Int) == 0) = false := by rw [beq_eq_false_iff_ne]; omega
  rw [← hD]
  obtain ⟨w4, hw4⟩ : ∃ w4, w4 = w3.alloc (.cells #[.string D, .slice Ai l.length ci, .slice At (told l).length ct, .int .u8 z0, .int .u8 z1, .int .u8 z2, .int .u8 z3, .int .u8 z4, .int .u8 z5, .int .u8 z6, .int .u8 z7] 32) := ⟨_, rfl⟩
  have hb4 : Below w3.heap.size w3 w4 := by rw [hw4]; exact Below.alloc (Below.refl _ _) (Nat.le_refl _) _
  have BP := Lib.hid (show Blk w4 w3.heap.size 32 #[.string D, .slice Ai l.length ci, .slice At (told l).length ct, .int .u8 z0, .int .u8 z1, .int .u8 z2, .int .u8 z3, .int .u8 z4, .int .u8 z5, .int .u8 z6, .int .u8 z7] from by rw [hw4]; exact Blk.new _ _ _)
  have B4 := Lib.hid (below_from B3.out hb4)
  have SI := Lib.hid (si.here hb4)
  have ST := Lib.hid (st.here hb4)
  have n3 : (l.length : Int) ≤ 60 := by have := PP.out.len; omega
  have i4 : (l.length : Int) ≤ ci := by omega
  have i5 : ((told l).length : Int) ≤ ct := by omega
  have HW := Lib.hid hw4
  clear hb3 hb4 hw4 hD si st B3
  have TX := Lib.hid (textsOf_any ⟨A, c, l⟩ w4 (HL.out.here B4.out) PP.out.ok PP.out.len)
  have DL := Lib.hid (distinct_len (texts l))
  have TL := Lib.hid (texts_len l PP.out.ok)
  go_wp2_with fail
  rw [← HW.out]
  have p0 := BP.out.cell 0
  have pz := BP.out.lt
  go_wp2_with fail
  refine TX.out.mono ?_
  rintro e w5 ⟨A5, c5, rfl, hc5, s5, b5⟩
  have B5 := Lib.hid (below_from B4.out b5)
  have BP5 := Lib.hid (BP.out.here b5)
  have DI := Lib.hid (distinct_any A5 c5 (texts l) w5 s5 (by have h1 := TL.out; have h2 := PP.out.len; omega))
  clear s5 b5 hc5 TX
  go_wp2_with fail
  refine DI.out.mono ?_
  rintro e w6 ⟨A6, c6, rfl, hc6, s6, b6⟩
  have B6 := Lib.hid (below_from B5.out b6)
  have BP6 := Lib.hid (BP5.out.here b6)
  have SS := Lib.hid s6
  have AS := Lib.hid (all_ss s l)
  obtain ⟨ds, hds⟩ : ∃ ds, ds = distinct (texts l) := ⟨_, rfl⟩
  have m6 : ds.length ≤ 72000 := by have h1 := DL.out; have h2 := TL.out; have h3 := PP.out.len; rw [hds]; omega
  rw [← hds] at SS AS hc6 ⊢
  have d1 : (ds.length : Int) ≤ 72000 := by omega
  have d2 : (0 : Int) ≤ ds.length := by omega
  have d3 : (ds.length : Int) ≤ c6 := by omega
  clear s6 b6 DI hds p0
  go_wp2_with fail
  go_loopw [6, 8, 9, 30] (fun _ _ _ x wr => ∃ i : Nat, i ≤ ds.length ∧ x = .int .i64 i ∧ Below w6.heap.size w6 wr) (fun _ _ _ x _ => ds.length - (intOf x).toNat)
  case atStart => exact ⟨0, by omega, rfl, Below.refl _ _⟩
  case round =>
    obtain ⟨i, hi, rfl, hb⟩ := hrel
    have HB := Lib.hid hb
    have zb := hb.size
    have BW := Lib.hid (B6.out.trans (hb.mono B6.out.size))
    by_cases hlt : i < ds.length
    · obtain ⟨g, o, rfl, hcl⟩ := SlR.at_ (SS.out.here hb) i hlt
      have r0 := hcl 0 _ rfl
      rw [Nat.add_zero, Nat.mul_one] at r0
      have r1 := keep_cell hb (BP6.out.cell 0)
      have h0 : i < (Pk.all s l 0).length := by rw [AS.out]; exact hlt
      have SA := Lib.hid (show Calls Tryz.prog 29 #[.string D, .int .i64 i] wr (RetV (.string ds[i]) wr) from by
        have h1 := stringAt_any (packT (K := K) PP.out (elems_pos _ 0 i (by decide) h0)) (HK.out.here BW.out).gv i h0
        rw [← D1.out] at h1
        have h2 : (Pk.all s l 0)[i] = ds[i] := by simp only [AS.out]
        rw [h2] at h1
        exact h1)
      have j0 : (0 : Int) ≤ i := by omega
      have j1 : (i : Int) < ds.length := by omega
      clear hb hcl h0
      generalize ds[i] = x at *
      go_wp2_with fail
      refine SA.out.mono ?_
      rintro e w7 ⟨rfl, b7⟩
      have B7 := Lib.hid (HB.out.trans (b7.mono HB.out.size))
      clear b7
      go_wp2_with fail
      go_roundw
      case rel => exact ⟨i + 1, by omega, by go_num, B7.out⟩
      case measure => simp [intOf]; omega
    · go_wp2_with fail
      go_returns
      exact ⟨rfl, BW.out⟩
set_option maxRecDepth 100000 in
set_option maxHeartbeats 1000000 in
theorem fnPackAbsolute_any {H : Type} {enc : TypeId × Value → H} (v : Int) (s : Bool) (A : Option Addr) (n c : Nat) (w : World) (hv : -9223372036854775808 ≤ v ∧ v < 9223372036854775808) (f : Rd enc Tryz.prog w 27 [.slice A n c]) (hG : ∃ K, Gl K w) :
    Calls Tryz.prog 7 #[.int .i64 v, .bool s, .slice A n c] w (LawEnd w) := by
  obtain ⟨K, hK⟩ := hG
  obtain ⟨⟨_, _, l⟩, rfl, rfl, rfl, hL, hc⟩ := Rd.elsC f
  replace hc : l.length ≤ c := hc
  have hm : l.length ≤ maxLen := hL.len
  unfold maxLen at hm
  show Calls Tryz.prog 7 #[.int .i64 v, .bool s, .slice A l.length c] w (LawEnd w)
  have n0 : (0 : Int) ≤ l.length := by omega
  have n1 : (l.length : Int) ≤ 9223372036854775807 := by omega
  have n2 : (l.length : Int) ≤ c := by omega
  have Z1 := Lib.hid (zz1_any ⟨A, c, l⟩ w hL)
  have PO := Lib.hid (fun (W : World) (hb : Below w.heap.size w W) => packOk_any v s ⟨A, c, l⟩ W (hL.here hb))
  have PA := Lib.hid (fun (W : World) (hb : Below w.heap.size w W) (hp : PackP v s l) => show Calls Tryz.prog 15 #[.int .i64 v, .bool s, .slice A l.length c] W (PackOut K v.toNat s l W) from by
    have h1 := hp.ver
    obtain ⟨vn, rfl⟩ : ∃ vn : Nat, v = vn := ⟨v.toNat, by omega⟩
    exact pack_any vn s ⟨A, c, l⟩ W (hK.here hb) (hL.here hb) hp.ok hp.len (by omega))
  have HL := Lib.hid hL
  have HK := Lib.hid hK
  have v0 := hv.1
  have v1 := hv.2
  clear f hL hK hm hv
  go_enter Tryz.func7, Tryz.ntmps7
  go_wp2_with fail
  refine Z1.out.mono ?_
  rintro e w1 ⟨b1, rfl, _, hb1⟩
  have B1 := Lib.hid hb1
  clear hb1 Z1
  rcases b1 with _ | _
  · go_wp2_with fail
    go_returns
    exact ⟨rfl, B1.out⟩
  go_wp2_with fail
  refine (PO.out w1 B1.out).mono ?_
  rintro e w2 ⟨b2, rfl, hp2, hb2⟩
  have B2 := Lib.hid (below_from B1.out hb2)
  clear hb2 PO B1
  rcases b2 with _ | _
  · go_wp2_with fail
    go_returns
    exact ⟨rfl, B2.out⟩
  have PP := Lib.hid (hp2 rfl)
  clear hp2
  go_wp2_with fail
  refine (PA.out w2 B2.out PP.out).mono ?_
  rintro e w3 ⟨Ai, ci, At, ct, z0, z1, z2, z3, z4, z5, z6, z7, rfl, hF, hci, hct, si, st, hb3⟩
  have B3 := Lib.hid (below_from B2.out hb3)
  obtain ⟨D, hD⟩ : ∃ D, D = packS K v.toNat s l := ⟨_, rfl⟩
  have D1 := Lib.hid hD
  have d0 : (0 : Int) < D.size := by
    have h1 := packS_pos3 K v.toNat s l
    rw [← hD] at h1
    omega
  have dz : ((D.size : Int) == 0) = false := by rw [beq_eq_false_iff_ne]; omega
  rw [← hD]
  obtain ⟨w4, hw4⟩ : ∃ w4, w4 = w3.alloc (.cells #[.string D, .slice Ai l.length ci, .slice At (told l).length ct, .int .u8 z0, .int .u8 z1, .int .u8 z2, .int .u8 z3, .int .u8 z4, .int .u8 z5, .int .u8 z6, .int .u8 z7] 32) := ⟨_, rfl⟩
  have hb4 : Below w3.heap.size w3 w4 := by rw [hw4]; exact Below.alloc (Below.refl _ _) (Nat.le_refl _) _
  have BP := Lib.hid (show Blk w4 w3.heap.size 32 #[.string D, .slice Ai l.length ci, .slice At (told l).length ct, .int .u8 z0, .int .u8 z1, .int .u8 z2, .int .u8 z3, .int .u8 z4, .int .u8 z5, .int .u8 z6, .int .u8 z7] from by rw [hw4]; exact Blk.new _ _ _)
  have B4 := Lib.hid (below_from B3.out hb4)
  have SI := Lib.hid (si.here hb4)
  have ST := Lib.hid (st.here hb4)
  have n3 : (l.length : Int) ≤ 60 := by have := PP.out.len; omega
  have i4 : (l.length : Int) ≤ ci := by omega
  have i5 : ((told l).length : Int) ≤ ct := by omega
  have HW := Lib.hid hw4
  clear hb3 hb4 hw4 hD si st B3
  have IX := Lib.hid (fun (W : World) (hb : Below w.heap.size w W) (i : Nat) (hi : i < l.length) => indexOf_any ⟨A, c, l⟩ i W (HL.out.here hb) PP.out.ok PP.out.len hc hi)
  have CX := Lib.hid (fun (W : World) (hb : Below w.heap.size w W) (k : Int) => countOf_any ⟨A, c, l⟩ k W (HL.out.here hb) PP.out.ok PP.out.len)
  have ATT := Lib.hid (idxs_at3 s l PP.out.ok)
  have AA := Lib.hid (abs_at s l PP.out.ok)
  have SZ := Lib.hid (pack_size s l PP.out.len PP.out.ok)
  go_wp2_with fail
  rw [← HW.out]
  have p0 := BP.out.cell 0
  have p1 := BP.out.cell 1
  have pz := BP.out.lt
  go_wp2_with fail
  go_loopw [6, 8, 10, 11, 38] (fun _ _ _ _ x wr => ∃ i : Nat, i ≤ l.length ∧ x = .int .i64 i ∧ Below w4.heap.size w4 wr) (fun _ _ _ _ x _ => l.length - (intOf x).toNat)
  case atStart => exact ⟨0, by omega, rfl, Below.refl _ _⟩
  case round =>
    obtain ⟨i, hi, rfl, hb⟩ := hrel
    have HB := Lib.hid hb
    have zb := hb.size
    have BW := Lib.hid (B4.out.trans (hb.mono B4.out.size))
    by_cases hlt : i < l.length
    · obtain ⟨g, o, rfl, hcl⟩ := SlR.at_ (HL.out.here BW.out).l i hlt
      have q0 := hcl 0 _ rfl
      have q1 := hcl 1 _ rfl
      have q2 := hcl 2 _ rfl
      rw [Nat.add_zero] at q0
      have OK := PP.out.ok l[i] (List.getElem_mem hlt)
      have ATI := Lib.hid (ATT.out i hlt)
      obtain ⟨a0, a1, a2⟩ := AA.out i hlt
      have IXI := Lib.hid (fun (W : World) (hb : Below w.heap.size w W) => IX.out W hb i hlt)
      have j0 : (0 : Int) ≤ i := by omega
      have j1 : (i : Int) < l.length := by omega
      clear hcl hb
      obtain ⟨⟨sec, mark, ⟨BA, bc, bl⟩⟩, hx⟩ : ∃ x, x = l[i] := ⟨_, rfl⟩
      rw [← hx] at q0 q1 q2 OK ATI a0 a1 a2
      have hs := OK.sec
      obtain ⟨k, rfl⟩ : ∃ k : Nat, sec = k := ⟨sec.toNat, by simp only at hs; omega⟩
      simp only at a0 a1 a2 hs
      have hk9 : (k : Int) ≤ 9 := hs.2
      have hk1 : (1 : Int) ≤ k := hs.1
      rw [show (k : Int).toNat = k from by omega] at a0 a1 a2
      obtain ⟨x, hxx⟩ : ∃ x, x = ((Pk.all s (l.take i) k).length) := ⟨_, rfl⟩
      rw [← hxx] at a0 a1 a2
      have HX := Lib.hid hx
      have EP := SZ.out.1
      have ele := (Pk.all s l).elems_le k x (by omega) a0
      have x9 : (x : Int) ≤ 1000000 := by omega
      have x0 : (0 : Int) ≤ x := by omega
      have IXJ := Lib.hid (fun (W : World) (hb : Below w.heap.size w W) => show Calls Tryz.prog 20 #[.slice (some ⟨g, o, none⟩) l.length c, .int .i64 i] W (RetV (.int .i64 x) W) from by
        have h1 := IXI.out W hb
        rw [← HX.out, a2] at h1
        exact h1)
      have ATJ := Lib.hid (show (idxs s l)[i]? = some (x : Int) from by rw [ATI.out, a2])
      have A0 := Lib.hid a0
      have A1 := Lib.hid a1
      have EL := Lib.hid ele
      obtain ⟨wz, hwz⟩ : ∃ wz, wz = wr.heap.size := ⟨_, rfl⟩
      have HWZ := Lib.hid hwz
      obtain ⟨w5, hw5⟩ : ∃ w5, w5 = wr.alloc (.cells #[.int .i64 k, .int .i64 mark, .slice BA bl.length bc] 24) := ⟨_, rfl⟩
      have b5 : Below wr.heap.size wr w5 := by rw [hw5]; exact Below.alloc (Below.refl _ _) (Nat.le_refl _) _
      have BE := Lib.hid (show Blk w5 wz 24 #[.int .i64 k, .int .i64 mark, .slice BA bl.length bc] from by rw [hw5, hwz]; exact Blk.new _ _ _)
      have HW5 := Lib.hid hw5
      have B5 := Lib.hid (HB.out.trans (b5.mono HB.out.size))
      have BW5 := Lib.hid (below_from BW.out b5)
      clear OK a0 a1 a2 hs hx hxx ele EP b5 hw5 IXI ATI p0 p1 hwz
      go_wp2_with fail
      rw [← HW5.out, ← HWZ.out]
      refine (IXJ.out w5 BW5.out).mono ?_
      rintro e w6 ⟨rfl, b6⟩
      have BE6 := Lib.hid (BE.out.here b6)
      have B6 := Lib.hid (B5.out.trans (b6.mono B5.out.size))
      have BW6 := Lib.hid (below_from BW5.out b6)
      have e0 := BE6.out.cell 0
      clear b6
      go_wp2_with fail
      go_loopw [10, 11, 48] (fun m _ y wr' => ∃ j : Nat, j ≤ k ∧ y = .int .i64 j ∧ m = .int .i64 (x + ((Pk.all s l).elems j).length : Nat) ∧ Below w6.heap.size w6 wr') (fun _ _ y _ => k - (intOf y).toNat)
      case atStart => exact ⟨0, by omega, rfl, rfl, Below.refl _ _⟩
      case round =>
        obtain ⟨j, hj, rfl, rfl, hb⟩ := hrel
        obtain ⟨w7, rfl⟩ : ∃ w7 : World, w7 = wr := ⟨_, rfl⟩
        have HB7 := Lib.hid hb
        have BW7 := Lib.hid (BW6.out.trans (hb.mono BW6.out.size))
        have B7 := Lib.hid (B6.out.trans (hb.mono B6.out.size))
        have q3 := keep_cell hb (BE6.out.cell 0)
        by_cases hltj : j < k
        · have HE := Lib.hid (show ((Pk.all s l).elems (j + 1)).length = ((Pk.all s l).elems j).length + (Pk.all s l j).length from by rw [Pk.elems_succ, List.length_append])
          have CC := Lib.hid (show Calls Tryz.prog 21 #[.slice (some ⟨g, o, none⟩) l.length c, .int .i64 j] w7 (RetV (.int .i64 ((Pk.all s l j).length : Nat)) w7) from by
            have h1 := CX.out w7 BW7.out j
            rw [cnt_all s l PP.out.ok j] at h1
            exact h1)
          have hle := ((Pk.all s l).elems_pre (j + 1) 10 (by omega)).length_le
          have hsz := SZ.out.1
          rw [HE.out] at hle
          obtain ⟨a, ha⟩ : ∃ a, a = ((Pk.all s l).elems j).length := ⟨_, rfl⟩
          obtain ⟨b, hb9⟩ : ∃ b, b = (Pk.all s l j).length := ⟨_, rfl⟩
          rw [← ha, ← hb9] at hle HE
          rw [← hb9] at CC
          rw [← ha]
          have hab : (a : Int) + b ≤ 1000000 := by omega
          have a0 : (0 : Int) ≤ a := by omega
          have b0 : (0 : Int) ≤ b := by omega
          have jj0 : (0 : Int) ≤ j := by omega
          have jj1 : (j : Int) < k := by omega
          clear hb hle hsz ha hb9
          go_wp2_with fail
          refine CC.out.mono ?_
          rintro e w8 ⟨rfl, b8⟩
          have B8 := Lib.hid (HB7.out.trans (b8.mono HB7.out.size))
          clear b8
          go_wp2_with fail
          go_roundw
          case rel => exact ⟨j + 1, by omega, by go_num, by rw [HE.out]; push_cast; rw [Int.add_assoc], B8.out⟩
          case measure => simp [intOf]; omega
        · obtain rfl : j = k := by omega
          obtain ⟨a, ha⟩ : ∃ a, a = ((Pk.all s l).elems j).length := ⟨_, rfl⟩
          have AB := Lib.hid (show Calls Tryz.prog 22 #[.string D, .int .i64 j, .int .i64 x] w7.drew (RetV (.int .i64 (x + a : Nat)) w7.drew) from by
            have h1 := absolute_any (packT (K := K) PP.out (elems_pos _ j x (by omega) A0.out)) (HK.out.here (BW7.out.drew)).gv j x (by omega) A0.out
            rw [← D1.out, ← ha, Nat.add_comm] at h1
            exact h1)
          rw [← ha]
          have BP7 := (BP.out.here B7.out)
          have q4 := BP7.cell 0
          have q5 := BP7.cell 1
          obtain ⟨g2, o2, rfl, hcl2⟩ := (SI.out) (by rw [List.length_map, idxs_len]; omega)
          have q6 := keep_cell B7.out (hcl2 i _ (by rw [List.getElem?_map, ATJ.out]; rfl))
          have t3 : w7.drew.cell? ⟨wz, 0, none⟩ = some (.int .i64 j) := q3
          have t4 : w7.drew.cell? ⟨w3.heap.size, 0, none⟩ = some (.string D) := q4
          have t5 : w7.drew.cell? ⟨w3.heap.size, 1, none⟩ = some (.slice (some ⟨g2, o2, none⟩) l.length ci) := q5
          have t6 : w7.drew.cell? ⟨g2, o2 + i, none⟩ = some (.int .i64 x) := q6
          clear hcl2 q4 q5 q6 BP7 hb ha
          go_upto_region 17 with fail
          go_region_held3 (fun W => (W.cell? ⟨wz, 0, none⟩ = some (.int .i64 j) ∧ W.cell? ⟨w3.heap.size, 0, none⟩ = some (.string D)) ∧ W.cell? ⟨w3.heap.size, 1, none⟩ = some (.slice (some ⟨g2, o2, none⟩) l.length ci) ∧ W.cell? ⟨g2, o2 + i, none⟩ = some (.int .i64 x)) (first | exact ⟨⟨t3, t4⟩, t5, t6⟩ | exact ⟨⟨u3, u4⟩, u5, u6⟩ | go_keep)
            (first | (go_at_call 22; refine AB.out.mono ?_; rintro e w8 ⟨rfl, b8⟩; have u3 := keep_cell b8 t3; have u4 := keep_cell b8 t4; have u5 := keep_cell b8 t5; have u6 := keep_cell b8 t6))
          all_goals
            have B8 := Lib.hid (B7.out.trans (((Below.drew (Below.refl _ _)).trans b8).mono B7.out.size))
            clear b8 u3 u4 u5 u6
            go_wp2_with fail
            go_roundw
            case rel => exact ⟨i + 1, by omega, by go_num, B8.out⟩
            case measure => simp [intOf]; omega
    · go_wp2_with fail
      go_returns
      exact ⟨rfl, BW.out⟩
end Go.Proofs.YtfckbpgghlifjaaGreatDoor
