/- Laws on packages: how many elements there are; what a package tells of itself. (printed by gen_pl.py) -/
import Derived.BigRegion
import Derived.Test.YtedjadicdodahaaGreatDoorQPh
import Derived.Test.YtedjadicdodahaaGreatDoorQPa
import Derived.Test.YtedjadicdodahaaGreatDoorPs
import Derived.Test.YtedjadicdodahaaGreatDoorDj
namespace Go.Proofs.YtedjadicdodahaaGreatDoor
open Go.RowKit Go.Maps

theorem packT {K : List Int} {v : Int} {s : Bool} {l : List El} (hP : PackP v s l) (h1 : 1 ≤ ((Pk.all s l).elems 10).length) : PkT (packS K v.toNat s l) v.toNat s (Pk.all s l) (fpL K (q3 v.toNat s (Pk.all s l) ((Pk.all s l).elems 10))) := by
  have hv := hP.ver
  have hz := pack_size s l hP.len hP.ok
  exact ⟨rfl, fpL_len _ _, by omega, fun h => by have := hP.syn h; omega, h1, hz.1, hz.2⟩
theorem elems_pos (p : Pk) (k i : Nat) (hk : k < 10) (hi : i < (p k).length) : 1 ≤ (p.elems 10).length := by
  have := p.elems_le k i hk hi
  omega
theorem packS_pos3 (K : List Int) (v : Nat) (s : Bool) (l : List El) : 1 ≤ (packS K v s l).size := by
  unfold packS
  rw [str_size, List.length_append, fpL_len]
  omega
theorem Gl.gv {K : List Int} {w : World} (h : Gl K w) : Gv w := ⟨h.i, h.r⟩
theorem idxs_at3 (s : Bool) (l : List El) (hok : ∀ x ∈ l, x.Ok) (i : Nat) (h : i < l.length) : (idxs s l)[i]? = some (cntI (l.take i) l[i].sec) := by
  have hx := (hok l[i] (List.getElem_mem h)).sec
  unfold idxs
  rw [List.getElem?_map, List.getElem?_range h, Option.map_some, List.getElem?_eq_getElem h, Option.map_some, Option.getD_some, all_cnt s (l.take i) l[i].sec.toNat (by omega) (fun x hx => hok x (List.mem_of_mem_take hx))]
  unfold cntI
  rw [if_neg (by omega), show ((l[i].sec.toNat : Nat) : Int) = l[i].sec from by omega]
/-- Where an element stands: its index is how many there were. -/
theorem abs_at (s : Bool) (l : List El) (hok : ∀ x ∈ l, x.Ok) (i : Nat) (h : i < l.length) : (Pk.all s (l.take i) l[i].sec.toNat).length < (Pk.all s l l[i].sec.toNat).length ∧ (Pk.all s l l[i].sec.toNat)[(Pk.all s (l.take i) l[i].sec.toNat).length]? = some (str ((l[i].es s (Pk.all s (l.take i))).bytes s)) ∧ cntI (l.take i) l[i].sec = ((Pk.all s (l.take i) l[i].sec.toNat).length : Nat) := by
  have hx := (hok l[i] (List.getElem_mem h)).sec
  have h1 := (Pk.all_at s l i h (hok l[i] (List.getElem_mem h))).1
  refine ⟨(List.getElem?_eq_some_iff.1 h1).1, h1, ?_⟩
  rw [all_cnt s (l.take i) l[i].sec.toNat (by omega) (fun x hx => hok x (List.mem_of_mem_take hx))]
  unfold cntI
  rw [if_neg (by omega), show ((l[i].sec.toNat : Nat) : Int) = l[i].sec from by omega]
theorem cnt_all (s : Bool) (l : List El) (hok : ∀ x ∈ l, x.Ok) (j : Nat) : cntI l j = ((Pk.all s l j).length : Nat) := by
  unfold cntI
  by_cases h : j = 0
  · rw [if_pos (by omega), h, all_ss]
  · rw [if_neg (by omega), all_cnt s l j h hok]
theorem elems_one {s : Bool} {l : List El} (hok : ∀ x ∈ l, x.Ok) (h : 0 < l.length) : 1 ≤ ((Pk.all s l).elems 10).length := by
  have hx := hok l[0] (List.getElem_mem h)
  have hs := hx.sec
  have h1 := (Pk.all_at s l 0 h hx).1
  exact elems_pos _ l[0].sec.toNat _ (by omega) (List.getElem?_eq_some_iff.1 h1).1
set_option maxRecDepth 100000 in
set_option maxHeartbeats 1000000 in
theorem fnPackCounts_any {H : Type} {enc : TypeId × Value → H} (v : Int) (s : Bool) (A : Option Addr) (n c : Nat) (w : World) (hv : -9223372036854775808 ≤ v ∧ v < 9223372036854775808) (f : Rd enc Tryz.prog w 27 [.slice A n c]) (hG : ∃ K, Gl K w) :
    Calls Tryz.prog 9 #[.int .i64 v, .bool s, .slice A n c] w (LawEnd w) := by
  obtain ⟨K, hK⟩ := hG
  obtain ⟨⟨_, _, l⟩, rfl, rfl, rfl, hL, hc⟩ := Rd.elsC f
  replace hc : l.length ≤ c := hc
  have hm : l.length ≤ maxLen := hL.len
  unfold maxLen at hm
  show Calls Tryz.prog 9 #[.int .i64 v, .bool s, .slice A l.length c] w (LawEnd w)
  have n0 : (0 : Int) ≤ l.length := by omega
  have n1 : (l.length : Int) ≤ 9223372036854775807 := by omega
  have n2 : (l.length : Int) ≤ c := by omega
  have Z1 := Lib.hid (zz1_any ⟨A, c, l⟩ w hL)
  have PO := Lib.hid (fun (W : World) (hb : Below w.heap.size w W) => packOk_any v s ⟨A, c, l⟩ W (hL.here hb))
  have PA := Lib.hid (fun (W : World) (hb : Below w.heap.size w W) (hp : PackP v s l) => show Calls Tryz.prog 12 #[.int .i64 v, .bool s, .slice A l.length c] W (PackOut K v.toNat s l W) from by
    have h1 := hp.ver
    obtain ⟨vn, rfl⟩ : ∃ vn : Nat, v = vn := ⟨v.toNat, by omega⟩
    exact pack_any vn s ⟨A, c, l⟩ W (hK.here hb) (hL.here hb) hp.ok hp.len (by omega))
  have HL := Lib.hid hL
  have HK := Lib.hid hK
  have v0 := hv.1
  have v1 := hv.2
  clear f hL hK hm hv
  go_enter Tryz.func9, Tryz.ntmps9
  go_wp2_with fail
  refine Z1.out.mono ?_
  rintro e w1 ⟨b1, rfl, _, hb1⟩
  have B1 := Lib.hid hb1
  clear hb1 Z1
  rcases b1 with _ | _
  · go_wp2_with fail
    go_returns
    exact ⟨rfl, B1.out⟩
  go_wp2_with fail
  refine (PO.out w1 B1.out).mono ?_
  rintro e w2 ⟨b2, rfl, hp2, hb2⟩
  have B2 := Lib.hid (below_from B1.out hb2)
  clear hb2 PO B1
  rcases b2 with _ | _
  · go_wp2_with fail
    go_returns
    exact ⟨rfl, B2.out⟩
  have PP := Lib.hid (hp2 rfl)
  clear hp2
  rcases Nat.eq_zero_or_pos l.length with hl0 | hl0
  · have hl1 : ((l.length : Int) == 0) = true := by rw [hl0]; rfl
    go_wp2_with fail
    go_returns
    exact ⟨rfl, B2.out⟩
  have hl1 : ((l.length : Int) == 0) = false := by rw [beq_eq_false_iff_ne]; omega
  have ON := Lib.hid (elems_one (s := s) PP.out.ok hl0)
  go_wp2_with fail
  refine (PA.out w2 B2.out PP.out).mono ?_
  rintro e w3 ⟨Ai, ci, At, ct, z0, z1, z2, z3, z4, z5, z6, z7, rfl, hF, hci, hct, si, st, hb3⟩
  have B3 := Lib.hid (below_from B2.out hb3)
  obtain ⟨D, hD⟩ : ∃ D, D = packS K v.toNat s l := ⟨_, rfl⟩
  have D1 := Lib.hid hD
  have d0 : (0 : Int) < D.size := by
    have h1 := packS_pos3 K v.toNat s l
    rw [← hD] at h1
    omega
  have dz : ((D.size : Int) == 0) = false := by rw [beq_eq_false_iff_ne]; omega
  rw [← hD]
  obtain ⟨w4, hw4⟩ : ∃ w4, w4 = w3.alloc (.cells #[.string D, .slice Ai l.length ci, .slice At (told l).length ct, .int .u8 z0, .int .u8 z1, .int .u8 z2, .int .u8 z3, .int .u8 z4, .int .u8 z5, .int .u8 z6, .int .u8 z7] 32) := ⟨_, rfl⟩
  have hb4 : Below w3.heap.size w3 w4 := by rw [hw4]; exact Below.alloc (Below.refl _ _) (Nat.le_refl _) _
  have BP := Lib.hid (show Blk w4 w3.heap.size 32 #[.string D, .slice Ai l.length ci, .slice At (told l).length ct, .int .u8 z0, .int .u8 z1, .int .u8 z2, .int .u8 z3, .int .u8 z4, .int .u8 z5, .int .u8 z6, .int .u8 z7] from by rw [hw4]; exact Blk.new _ _ _)
  have B4 := Lib.hid (below_from B3.out hb4)
  have SI := Lib.hid (si.here hb4)
  have ST := Lib.hid (st.here hb4)
  have n3 : (l.length : Int) ≤ 60 := by have := PP.out.len; omega
  have i4 : (l.length : Int) ≤ ci := by omega
  have i5 : ((told l).length : Int) ≤ ct := by omega
  have HW := Lib.hid hw4
  clear hb3 hb4 hw4 hD si st B3
  have CX := Lib.hid (fun (W : World) (hb : Below w.heap.size w W) (k : Int) => countOf_any ⟨A, c, l⟩ k W (HL.out.here hb) PP.out.ok PP.out.len)
  have SZ := Lib.hid (pack_size s l PP.out.len PP.out.ok)
  have PT := Lib.hid (packT (K := K) PP.out ON.out)
  rw [← D1.out] at PT
  have BP4 := Lib.hid BP.out
  have FA := Lib.hid (fun (W : World) (hb : Below w.heap.size w W) => show Calls Tryz.prog 17 #[.string ⟨#[]⟩, .string D] W (RetV (.tuple #[.string ⟨#[]⟩, .bool s, .int .i64 (((Pk.all s l).elems 10).length : Nat), .agg #[.int .u8 z0, .int .u8 z1, .int .u8 z2, .int .u8 z3, .int .u8 z4, .int .u8 z5, .int .u8 z6, .int .u8 z7]]) W) from by
    have h := facts_any ⟨#[]⟩ PT.out (HK.out.here hb).gv
    rw [fpL_cells, show (fpC K (q3 v.toNat s (Pk.all s l) ((Pk.all s l).elems 10))).toArray = #[.int .u8 z0, .int .u8 z1, .int .u8 z2, .int .u8 z3, .int .u8 z4, .int .u8 z5, .int .u8 z6, .int .u8 z7] from hF] at h
    exact h)
  clear hF
  go_wp2_with fail
  rw [← HW.out]
  have p0 := BP.out.cell 0
  have pz := BP.out.lt
  go_wp2_with fail
  go_loopw [6, 8, 9, 10, 36] (fun _ m _ _ x wr => ∃ j : Nat, j ≤ 10 ∧ x = .int .i64 j ∧ m = .int .i64 ((Pk.all s l).elems j).length ∧ Below w4.heap.size w4 wr) (fun _ _ _ _ x _ => 10 - (intOf x).toNat)
  case atStart => exact ⟨0, by omega, rfl, rfl, Below.refl _ _⟩
  case round =>
    obtain ⟨j, hj, rfl, rfl, hb⟩ := hrel
    have HB := Lib.hid hb
    have BW := Lib.hid (B4.out.trans (hb.mono B4.out.size))
    have q0 := keep_cell hb (BP4.out.cell 0)
    by_cases hlt : j < 10
    · have HE := Lib.hid (show ((Pk.all s l).elems (j + 1)).length = ((Pk.all s l).elems j).length + (Pk.all s l j).length from by rw [Pk.elems_succ, List.length_append])
      have EL := Lib.hid (elements_any PT.out (HK.out.here BW.out).gv j hlt)
      have CC := Lib.hid (fun (W : World) (hb : Below w.heap.size w W) => show Calls Tryz.prog 21 #[.slice A l.length c, .int .i64 j] W (RetV (.int .i64 ((Pk.all s l j).length : Nat)) W) from by
        have h1 := CX.out W hb j
        rw [cnt_all s l PP.out.ok j] at h1
        exact h1)
      have hle := ((Pk.all s l).elems_pre (j + 1) 10 (by omega)).length_le
      have hsz := SZ.out.1
      rw [HE.out] at hle
      obtain ⟨a, ha⟩ : ∃ a, a = ((Pk.all s l).elems j).length := ⟨_, rfl⟩
      obtain ⟨b, hb9⟩ : ∃ b, b = (Pk.all s l j).length := ⟨_, rfl⟩
      rw [← ha, ← hb9] at hle HE
      rw [← hb9] at CC EL
      rw [← ha]
      have hab : (a : Int) + b ≤ 1000000 := by omega
      have a0 : (0 : Int) ≤ a := by omega
      have b0 : (0 : Int) ≤ b := by omega
      have jj0 : (0 : Int) ≤ j := by omega
      have jj1 : (j : Int) < 10 := by omega
      clear hb hle hsz ha hb9 p0
      go_wp2_with fail
      refine EL.out.mono ?_
      rintro e w7 ⟨rfl, b7⟩
      have B7 := Lib.hid (HB.out.trans (b7.mono HB.out.size))
      have BW7 := Lib.hid (below_from BW.out b7)
      clear b7 q0
      go_wp2_with fail
      refine (CC.out w7 BW7.out).mono ?_
      rintro e w8 ⟨rfl, b8⟩
      have B8 := Lib.hid (B7.out.trans (b8.mono B7.out.size))
      clear b8
      go_wp2_with fail
      go_roundw
      case rel => exact ⟨j + 1, by omega, by go_num, by rw [HE.out]; push_cast; rfl, B8.out⟩
      case measure => simp [intOf]; omega
    · obtain rfl : j = 10 := by omega
      clear hb
      go_wp2_with fail
      refine (FA.out _ BW.out).mono ?_
      rintro e w7 ⟨rfl, b7⟩
      have B7 := Lib.hid (below_from BW.out b7)
      clear b7
      go_wp2_with fail
      go_returns
      exact ⟨by simp, B7.out.alloc B7.out.size _⟩
set_option maxRecDepth 100000 in
set_option maxHeartbeats 1000000 in
theorem fnPackFacts_any {H : Type} {enc : TypeId × Value → H} (v : Int) (s : Bool) (A : Option Addr) (n c : Nat) (path : ByteArray) (w : World) (hv : -9223372036854775808 ≤ v ∧ v < 9223372036854775808) (f : Rd enc Tryz.prog w 27 [.slice A n c]) (hpl : path.size ≤ maxLen) (hG : ∃ K, Gl K w) :
    Calls Tryz.prog 6 #[.int .i64 v, .bool s, .slice A n c, .string path] w (LawEnd w) := by
  obtain ⟨K, hK⟩ := hG
  obtain ⟨⟨_, _, l⟩, rfl, rfl, rfl, hL, hc⟩ := Rd.elsC f
  replace hc : l.length ≤ c := hc
  have hm : l.length ≤ maxLen := hL.len
  unfold maxLen at hm
  show Calls Tryz.prog 6 #[.int .i64 v, .bool s, .slice A l.length c, .string path] w (LawEnd w)
  have n0 : (0 : Int) ≤ l.length := by omega
  have n1 : (l.length : Int) ≤ 9223372036854775807 := by omega
  have n2 : (l.length : Int) ≤ c := by omega
  have Z1 := Lib.hid (zz1_any ⟨A, c, l⟩ w hL)
  have PO := Lib.hid (fun (W : World) (hb : Below w.heap.size w W) => packOk_any v s ⟨A, c, l⟩ W (hL.here hb))
  have PA := Lib.hid (fun (W : World) (hb : Below w.heap.size w W) (hp : PackP v s l) => show Calls Tryz.prog 12 #[.int .i64 v, .bool s, .slice A l.length c] W (PackOut K v.toNat s l W) from by
    have h1 := hp.ver
    obtain ⟨vn, rfl⟩ : ∃ vn : Nat, v = vn := ⟨v.toNat, by omega⟩
    exact pack_any vn s ⟨A, c, l⟩ W (hK.here hb) (hL.here hb) hp.ok hp.len (by omega))
  have HL := Lib.hid hL
  have HK := Lib.hid hK
  have v0 := hv.1
  have v1 := hv.2
  unfold maxLen at hpl
  have pl0 : (0 : Int) ≤ path.size := by omega
  have pl1 : (path.size : Int) ≤ 9223372036854775807 := by omega
  clear f hL hK hm hv
  go_enter Tryz.func6, Tryz.ntmps6
  go_wp2_with fail
  refine Z1.out.mono ?_
  rintro e w1 ⟨b1, rfl, _, hb1⟩
  have B1 := Lib.hid hb1
  clear hb1 Z1
  rcases b1 with _ | _
  · go_wp2_with fail
    go_returns
    exact ⟨rfl, B1.out⟩
  by_cases hpz : (2147483647 : Int) < path.size
  · go_wp2_with fail
    go_returns
    exact ⟨rfl, B1.out⟩
  go_wp2_with fail
  refine (PO.out w1 B1.out).mono ?_
  rintro e w2 ⟨b2, rfl, hp2, hb2⟩
  have B2 := Lib.hid (below_from B1.out hb2)
  clear hb2 PO B1
  rcases b2 with _ | _
  · go_wp2_with fail
    go_returns
    exact ⟨rfl, B2.out⟩
  have PP := Lib.hid (hp2 rfl)
  clear hp2
  rcases Nat.eq_zero_or_pos l.length with hl0 | hl0
  · have hl1 : ((l.length : Int) == 0) = true := by rw [hl0]; rfl
    go_wp2_with fail
    go_returns
    exact ⟨rfl, B2.out⟩
  have hl1 : ((l.length : Int) == 0) = false := by rw [beq_eq_false_iff_ne]; omega
  have ON := Lib.hid (elems_one (s := s) PP.out.ok hl0)
  by_cases hp2 : (200 : Int) < path.size
  · go_wp2_with fail
    go_returns
    exact ⟨rfl, B2.out⟩
  go_wp2_with fail
  refine (PA.out w2 B2.out PP.out).mono ?_
  rintro e w3 ⟨Ai, ci, At, ct, z0, z1, z2, z3, z4, z5, z6, z7, rfl, hF, hci, hct, si, st, hb3⟩
  have B3 := Lib.hid (below_from B2.out hb3)
  obtain ⟨D, hD⟩ : ∃ D, D = packS K v.toNat s l := ⟨_, rfl⟩
  have D1 := Lib.hid hD
  have d0 : (0 : Int) < D.size := by
    have h1 := packS_pos3 K v.toNat s l
    rw [← hD] at h1
    omega
  have dz : ((D.size : Int) == 0) = false := by rw [beq_eq_false_iff_ne]; omega
  rw [← hD]
  obtain ⟨w4, hw4⟩ : ∃ w4, w4 = w3.alloc (.cells #[.string D, .slice Ai l.length ci, .slice At (told l).length ct, .int .u8 z0, .int .u8 z1, .int .u8 z2, .int .u8 z3, .int .u8 z4, .int .u8 z5, .int .u8 z6, .int .u8 z7] 32) := ⟨_, rfl⟩
  have hb4 : Below w3.heap.size w3 w4 := by rw [hw4]; exact Below.alloc (Below.refl _ _) (Nat.le_refl _) _
  have BP := Lib.hid (show Blk w4 w3.heap.size 32 #[.string D, .slice Ai l.length ci, .slice At (told l).length ct, .int .u8 z0, .int .u8 z1, .int .u8 z2, .int .u8 z3, .int .u8 z4, .int .u8 z5, .int .u8 z6, .int .u8 z7] from by rw [hw4]; exact Blk.new _ _ _)
  have B4 := Lib.hid (below_from B3.out hb4)
  have SI := Lib.hid (si.here hb4)
  have ST := Lib.hid (st.here hb4)
  have n3 : (l.length : Int) ≤ 60 := by have := PP.out.len; omega
  have i4 : (l.length : Int) ≤ ci := by omega
  have i5 : ((told l).length : Int) ≤ ct := by omega
  have HW := Lib.hid hw4
  clear hb3 hb4 hw4 hD si st B3
  have PT := Lib.hid (packT (K := K) PP.out ON.out)
  rw [← D1.out] at PT
  have FA := Lib.hid (facts_any path PT.out (HK.out.here B4.out).gv)
  rw [fpL_cells] at FA
  have hF2 : (fpC K (q3 v.toNat s (Pk.all s l) ((Pk.all s l).elems 10))).toArray = #[.int .u8 z0, .int .u8 z1, .int .u8 z2, .int .u8 z3, .int .u8 z4, .int .u8 z5, .int .u8 z6, .int .u8 z7] := hF
  rw [hF2] at FA
  have BP4 := Lib.hid BP.out
  have hq : ∀ W, (binOp .eql 30 (.agg #[.int .u8 z0, .int .u8 z1, .int .u8 z2, .int .u8 z3, .int .u8 z4, .int .u8 z5, .int .u8 z6, .int .u8 z7]) (.agg #[.int .u8 z0, .int .u8 z1, .int .u8 z2, .int .u8 z3, .int .u8 z4, .int .u8 z5, .int .u8 z6, .int .u8 z7])).run Tryz.prog W = .ok (.bool true) W := fun W => by
    have h := run_eql_ints (P := Tryz.prog) (t := 30) W Tryz.underlying30 Tryz.underlying5 (by kernel_rfl) (by kernel_rfl) [z0, z1, z2, z3, z4, z5, z6, z7] [z0, z1, z2, z3, z4, z5, z6, z7] rfl rfl
    simpa using h
  clear hF hF2
  go_wp2_with fail
  rw [← HW.out]
  have p0 := BP.out.cell 0
  have pz := BP.out.lt
  go_wp2_with fail
  refine FA.out.mono ?_
  rintro e w7 ⟨rfl, b7⟩
  have B7 := Lib.hid (below_from B4.out b7)
  have BP7 := BP4.out.here b7
  have pz7 := BP7.lt
  have r3 := BP7.cell 3
  have r4 := BP7.cell 4
  have r5 := BP7.cell 5
  have r6 := BP7.cell 6
  have r7 := BP7.cell 7
  have r8 := BP7.cell 8
  have r9 := BP7.cell 9
  have r10 := BP7.cell 10
  clear b7 p0 BP7
  go_wp2_with fail
  go_returns
  exact ⟨by simp, B7.out.alloc B7.out.size _⟩
end Go.Proofs.YtedjadicdodahaaGreatDoor
