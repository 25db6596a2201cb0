/- Laws on packages: each element is read as it was written. (printed by gen_pl.py) -/
import Derived.BigRegion
import Derived.Test.YtedjadicdodahaaGreatDoorQPh
import Derived.Test.YtedjadicdodahaaGreatDoorQPa
import Derived.Test.YtedjadicdodahaaGreatDoorPs
import Derived.Test.YtedjadicdodahaaGreatDoorEc
namespace Go.Proofs.YtedjadicdodahaaGreatDoor
open Go.RowKit Go.Maps

theorem packT {K : List Int} {v : Int} {s : Bool} {l : List El} (hP : PackP v s l) (h1 : 1 ≤ ((Pk.all s l).elems 10).length) : PkT (packS K v.toNat s l) v.toNat s (Pk.all s l) (fpL K (q3 v.toNat s (Pk.all s l) ((Pk.all s l).elems 10))) := by
  have hv := hP.ver
  have hz := pack_size s l hP.len hP.ok
  exact ⟨rfl, fpL_len _ _, by omega, fun h => by have := hP.syn h; omega, h1, hz.1, hz.2⟩
theorem elems_pos (p : Pk) (k i : Nat) (hk : k < 10) (hi : i < (p k).length) : 1 ≤ (p.elems 10).length := by
  have := p.elems_le k i hk hi
  omega
theorem packS_pos3 (K : List Int) (v : Nat) (s : Bool) (l : List El) : 1 ≤ (packS K v s l).size := by
  unfold packS
  rw [str_size, List.length_append, fpL_len]
  omega
theorem Gl.gv {K : List Int} {w : World} (h : Gl K w) : Gv w := ⟨h.i, h.r⟩
theorem idxs_at3 (s : Bool) (l : List El) (hok : ∀ x ∈ l, x.Ok) (i : Nat) (h : i < l.length) : (idxs s l)[i]? = some (cntI (l.take i) l[i].sec) := by
  have hx := (hok l[i] (List.getElem_mem h)).sec
  unfold idxs
  rw [List.getElem?_map, List.getElem?_range h, Option.map_some, List.getElem?_eq_getElem h, Option.map_some, Option.getD_some, all_cnt s (l.take i) l[i].sec.toNat (by omega) (fun x hx => hok x (List.mem_of_mem_take hx))]
  unfold cntI
  rw [if_neg (by omega), show ((l[i].sec.toNat : Nat) : Int) = l[i].sec from by omega]
/-- Where an element stands: its index is how many there were. -/
theorem abs_at (s : Bool) (l : List El) (hok : ∀ x ∈ l, x.Ok) (i : Nat) (h : i < l.length) : (Pk.all s (l.take i) l[i].sec.toNat).length < (Pk.all s l l[i].sec.toNat).length ∧ (Pk.all s l l[i].sec.toNat)[(Pk.all s (l.take i) l[i].sec.toNat).length]? = some (str ((l[i].es s (Pk.all s (l.take i))).bytes s)) ∧ cntI (l.take i) l[i].sec = ((Pk.all s (l.take i) l[i].sec.toNat).length : Nat) := by
  have hx := (hok l[i] (List.getElem_mem h)).sec
  have h1 := (Pk.all_at s l i h (hok l[i] (List.getElem_mem h))).1
  refine ⟨(List.getElem?_eq_some_iff.1 h1).1, h1, ?_⟩
  rw [all_cnt s (l.take i) l[i].sec.toNat (by omega) (fun x hx => hok x (List.mem_of_mem_take hx))]
  unfold cntI
  rw [if_neg (by omega), show ((l[i].sec.toNat : Nat) : Int) = l[i].sec from by omega]
theorem cnt_all (s : Bool) (l : List El) (hok : ∀ x ∈ l, x.Ok) (j : Nat) : cntI l j = ((Pk.all s l j).length : Nat) := by
  unfold cntI
  by_cases h : j = 0
  · rw [if_pos (by omega), h, all_ss]
  · rw [if_neg (by omega), all_cnt s l j h hok]
theorem vars_three {H : Type} {enc : TypeId × Value → H} {P : Program} {w : World} {sp : Nat → Bool} {a b c : String} {gs : List (DataW H)} {q : List MemPlace} (h : DataW.TrodVars enc P w sp [a, b, c] gs q) : ∃ g0 g1 g2, gs = [g0, g1, g2] := by
  match gs, h with
  | [g0, g1, g2], _ => exact ⟨g0, g1, g2, rfl⟩
set_option maxRecDepth 100000 in
set_option maxHeartbeats 1000000 in
theorem fnPackBack_any {H : Type} {enc : TypeId × Value → H} (v : Int) (s : Bool) (A : Option Addr) (n c : Nat) (path : ByteArray) (temp : Bool) (w : World) (hv : -9223372036854775808 ≤ v ∧ v < 9223372036854775808) (f : Rd enc Tryz.prog w 27 [.slice A n c]) (hpl : path.size ≤ maxLen) (hG : ∃ K, Gl K w) :
    Calls Tryz.prog 4 #[.int .i64 v, .bool s, .slice A n c, .string path, .bool temp] w (LawEnd w) := by
  obtain ⟨K, hK⟩ := hG
  obtain ⟨⟨_, _, l⟩, rfl, rfl, rfl, hL, hc⟩ := Rd.elsC f
  replace hc : l.length ≤ c := hc
  have hm : l.length ≤ maxLen := hL.len
  unfold maxLen at hm
  show Calls Tryz.prog 4 #[.int .i64 v, .bool s, .slice A l.length c, .string path, .bool temp] w (LawEnd w)
  have n0 : (0 : Int) ≤ l.length := by omega
  have n1 : (l.length : Int) ≤ 9223372036854775807 := by omega
  have n2 : (l.length : Int) ≤ c := by omega
  have Z1 := Lib.hid (zz1_any ⟨A, c, l⟩ w hL)
  have PO := Lib.hid (fun (W : World) (hb : Below w.heap.size w W) => packOk_any v s ⟨A, c, l⟩ W (hL.here hb))
  have PA := Lib.hid (fun (W : World) (hb : Below w.heap.size w W) (hp : PackP v s l) => show Calls Tryz.prog 12 #[.int .i64 v, .bool s, .slice A l.length c] W (PackOut K v.toNat s l W) from by
    have h1 := hp.ver
    obtain ⟨vn, rfl⟩ : ∃ vn : Nat, v = vn := ⟨v.toNat, by omega⟩
    exact pack_any vn s ⟨A, c, l⟩ W (hK.here hb) (hL.here hb) hp.ok hp.len (by omega))
  have HL := Lib.hid hL
  have HK := Lib.hid hK
  have v0 := hv.1
  have v1 := hv.2
  unfold maxLen at hpl
  have pl0 : (0 : Int) ≤ path.size := by omega
  have pl1 : (path.size : Int) ≤ 9223372036854775807 := by omega
  clear hpl
  clear f hL hK hm hv
  go_enter Tryz.func4, Tryz.ntmps4
  go_wp2_with fail
  refine Z1.out.mono ?_
  rintro e w1 ⟨b1, rfl, _, hb1⟩
  have B1 := Lib.hid hb1
  clear hb1 Z1
  rcases b1 with _ | _
  · go_wp2_with fail
    go_returns
    exact ⟨rfl, B1.out⟩
  by_cases hpz : (2147483647 : Int) < path.size
  · go_wp2_with fail
    go_returns
    exact ⟨rfl, B1.out⟩
  go_wp2_with fail
  refine (PO.out w1 B1.out).mono ?_
  rintro e w2 ⟨b2, rfl, hp2, hb2⟩
  have B2 := Lib.hid (below_from B1.out hb2)
  clear hb2 PO B1
  rcases b2 with _ | _
  · go_wp2_with fail
    go_returns
    exact ⟨rfl, B2.out⟩
  have PP := Lib.hid (hp2 rfl)
  clear hp2
  by_cases hp2 : (200 : Int) < path.size
  · go_wp2_with fail
    go_returns
    exact ⟨rfl, B2.out⟩
  go_wp2_with fail
  refine (PA.out w2 B2.out PP.out).mono ?_
  rintro e w3 ⟨Ai, ci, At, ct, z0, z1, z2, z3, z4, z5, z6, z7, rfl, hF, hci, hct, si, st, hb3⟩
  have B3 := Lib.hid (below_from B2.out hb3)
  obtain ⟨D, hD⟩ : ∃ D, D = packS K v.toNat s l := ⟨_, rfl⟩
  have D1 := Lib.hid hD
  have d0 : (0 : Int) < D.size := by
    have h1 := packS_pos3 K v.toNat s l
    rw [← hD] at h1
    omega
  have dz : ((D.size : Int) == 0) = false := by rw [beq_eq_false_iff_ne]; omega
  rw [← hD]
  obtain ⟨w4, hw4⟩ : ∃ w4, w4 = w3.alloc (.cells #[.string D, .slice Ai l.length ci, .slice At (told l).length ct, .int .u8 z0, .int .u8 z1, .int .u8 z2, .int .u8 z3, .int .u8 z4, .int .u8 z5, .int .u8 z6, .int .u8 z7] 32) := ⟨_, rfl⟩
  have hb4 : Below w3.heap.size w3 w4 := by rw [hw4]; exact Below.alloc (Below.refl _ _) (Nat.le_refl _) _
  have BP := Lib.hid (show Blk w4 w3.heap.size 32 #[.string D, .slice Ai l.length ci, .slice At (told l).length ct, .int .u8 z0, .int .u8 z1, .int .u8 z2, .int .u8 z3, .int .u8 z4, .int .u8 z5, .int .u8 z6, .int .u8 z7] from by rw [hw4]; exact Blk.new _ _ _)
  have B4 := Lib.hid (below_from B3.out hb4)
  have SI := Lib.hid (si.here hb4)
  have ST := Lib.hid (st.here hb4)
  have n3 : (l.length : Int) ≤ 60 := by have := PP.out.len; omega
  have i4 : (l.length : Int) ≤ ci := by omega
  have i5 : ((told l).length : Int) ≤ ct := by omega
  have HW := Lib.hid hw4
  clear hb3 hb4 hw4 hD si st B3
  have ATT := Lib.hid (idxs_at3 s l PP.out.ok)
  have AA := Lib.hid (abs_at s l PP.out.ok)
  have SZ := Lib.hid (pack_size s l PP.out.len PP.out.ok)
  have UF := Lib.hid (fun (i : Nat) (hlt : i < l.length) (k m : Nat) (BA : Option Addr) (bc : Nat) (bl : List Bt) (hx : l[i] = ⟨k, m, ⟨BA, bc, bl⟩⟩) (x9 : Nat) (hk : k < 10) (a0 : x9 < (Pk.all s l k).length) (a1 : (Pk.all s l k)[x9]? = some (str ((El.es s ⟨k, m, ⟨BA, bc, bl⟩⟩ (Pk.all s (l.take i))).bytes s))) (h6 : x9 ≤ 1000000) (W : World) (hb : Below w.heap.size w W) (hin : El.In W ⟨k, m, ⟨BA, bc, bl⟩⟩) => show Calls Tryz.prog 35 #[.string path, .string D, .int .i64 x9, .agg #[.int .i64 k, .int .i64 m, .slice BA bl.length bc], .bool temp] W (UnOut bl W) from by
    have hok := PP.out.ok l[i] (List.getElem_mem hlt)
    have hss := (Pk.all_at s l i hlt hok).2
    have hle := Pk.all_le s l PP.out.len PP.out.ok i (by omega)
    have h60 := PP.out.len
    rw [hx] at hok hss
    have ht := (List.getElem?_eq_some_iff.1 a1).2
    have hr := El.es_ref hle (by omega) s hok
    have hl9 := (El.es_le hle s hok).rs
    have hT := packT (K := K) PP.out (elems_pos _ k x9 hk a0)
    rw [← D1.out] at hT
    cases temp
    · exact unpack_any path hT (HK.out.here hb).gv k x9 m hk a0 h6 BA bc bl hok hin _ ht hr (by omega) hss
    · exact unpackT_any path hT (HK.out.here hb).gv k x9 m hk a0 h6 BA bc bl hok hin _ ht hr (by omega) hss)
  go_wp2_with fail
  rw [← HW.out]
  have p0 := BP.out.cell 0
  have p1 := BP.out.cell 1
  have pz := BP.out.lt
  go_wp2_with fail
  go_loopw [10, 12, 13, 50] (fun _ _ _ x wr => ∃ i : Nat, i ≤ l.length ∧ x = .int .i64 i ∧ Below w4.heap.size w4 wr) (fun _ _ _ x _ => l.length - (intOf x).toNat)
  case atStart => exact ⟨0, by omega, rfl, Below.refl _ _⟩
  case round =>
    obtain ⟨i, hi, rfl, hb⟩ := hrel
    have HB := Lib.hid hb
    have zb := hb.size
    have BW := Lib.hid (B4.out.trans (hb.mono B4.out.size))
    by_cases hlt : i < l.length
    · obtain ⟨g, o, rfl, hcl⟩ := SlR.at_ (HL.out.here BW.out).l i hlt
      have q0 := hcl 0 _ rfl
      have q1 := hcl 1 _ rfl
      have q2 := hcl 2 _ rfl
      rw [Nat.add_zero] at q0
      have OK := PP.out.ok l[i] (List.getElem_mem hlt)
      have IN := Lib.hid ((HL.out.here BW.out).sub l[i] (List.getElem_mem hlt))
      have ATI := ATT.out i hlt
      obtain ⟨a0, a1, a2⟩ := AA.out i hlt
      have UI := Lib.hid (UF.out i hlt)
      have j0 : (0 : Int) ≤ i := by omega
      have j1 : (i : Int) < l.length := by omega
      clear hcl hb
      obtain ⟨⟨sec, mark, ⟨BA, bc, bl⟩⟩, hx⟩ : ∃ x, x = l[i] := ⟨_, rfl⟩
      rw [← hx] at q0 q1 q2 OK IN ATI a0 a1 a2
      rw [← hx] at UI
      have hs := OK.sec
      have hmk := OK.mark
      obtain ⟨k, rfl⟩ : ∃ k : Nat, sec = k := ⟨sec.toNat, by simp only at hs; omega⟩
      obtain ⟨m, rfl⟩ : ∃ m : Nat, mark = m := ⟨mark.toNat, by simp only at hmk; omega⟩
      simp only at a0 a1 a2 hs hmk
      have hk9 : (k : Int) ≤ 9 := hs.2
      have hk10 : k < 10 := by omega
      rw [show (k : Int).toNat = k from by omega] at a0 a1 a2
      obtain ⟨x9, hxx⟩ : ∃ x9, x9 = ((Pk.all s (l.take i) k).length) := ⟨_, rfl⟩
      rw [← hxx] at a0 a1 a2
      have EP := SZ.out.1
      have ele := (Pk.all s l).elems_le k x9 (by omega) a0
      have h69 : x9 ≤ 1000000 := by omega
      have UJ := Lib.hid (fun (W : World) (hb : Below w.heap.size w W) (hin : El.In W ⟨k, m, ⟨BA, bc, bl⟩⟩) => UI.out k m BA bc bl rfl x9 hk10 a0 a1 h69 W hb hin)
      have ATJ := Lib.hid (show (idxs s l)[i]? = some (x9 : Int) from by rw [ATI]; show some (cntI (l.take i) (k : Int)) = _; rw [a2])
      have OKH := Lib.hid OK
      obtain ⟨wz, hwz⟩ : ∃ wz, wz = wr.heap.size := ⟨_, rfl⟩
      have HWZ := Lib.hid hwz
      obtain ⟨w5, hw5⟩ : ∃ w5, w5 = wr.alloc (.cells #[.int .i64 k, .int .i64 m, .slice BA bl.length bc] 24) := ⟨_, rfl⟩
      have b5 : Below wr.heap.size wr w5 := by rw [hw5]; exact Below.alloc (Below.refl _ _) (Nat.le_refl _) _
      have BE := Lib.hid (show Blk w5 wz 24 #[.int .i64 k, .int .i64 m, .slice BA bl.length bc] from by rw [hw5, hwz]; exact Blk.new _ _ _)
      have HW5 := Lib.hid hw5
      have B5 := Lib.hid (HB.out.trans (b5.mono HB.out.size))
      have BW5 := Lib.hid (below_from BW.out b5)
      have RAI := Lib.hid (show Calls Tryz.prog 15 #[.string path, .string D, .int .i64 x9, .agg #[.int .i64 k, .int .i64 m, .slice BA bl.length bc], .bool temp] w5.drew (RetV (.bool true) w5.drew) from
        readsAs_any path D x9 k m BA bc bl temp w5.drew ((IN.out.here b5).here (Below.drew (Below.refl _ _))) OKH.out (fun W hb => UJ.out W (below_from BW5.out.drew hb) (((IN.out.here b5).here (Below.drew (Below.refl _ _))).here hb)))
      obtain ⟨g2, o2, rfl, hcl2⟩ := (SI.out) (by rw [List.length_map, idxs_len]; omega)
      have q6 := keep_cell B5.out (hcl2 i _ (by rw [List.getElem?_map, ATJ.out]; rfl))
      have BP5 := BP.out.here B5.out
      have s0 : w5.drew.cell? ⟨w3.heap.size, 0, none⟩ = some (.string D) := BP5.cell 0
      have s1 : w5.drew.cell? ⟨w3.heap.size, 1, none⟩ = some (.slice (some ⟨g2, o2, none⟩) l.length ci) := BP5.cell 1
      have s2 : w5.drew.cell? ⟨g2, o2 + i, none⟩ = some (.int .i64 x9) := q6
      have t0 : w5.drew.cell? ⟨wz, 0, none⟩ = some (.int .i64 k) := BE.out.cell 0
      have t1 : w5.drew.cell? ⟨wz, 1, none⟩ = some (.int .i64 m) := BE.out.cell 1
      have t2 : w5.drew.cell? ⟨wz, 2, none⟩ = some (.slice BA bl.length bc) := BE.out.cell 2
      clear OK a0 a1 a2 hs hmk hx hxx ele EP b5 hw5 ATI p0 p1 hwz UI hcl2 q6 BP5 zb h69
      go_upto_region 11 with fail
      rw [← HW5.out, ← HWZ.out]
      go_region_held3 (fun W => (W.cell? ⟨w3.heap.size, 0, none⟩ = some (.string D) ∧ W.cell? ⟨w3.heap.size, 1, none⟩ = some (.slice (some ⟨g2, o2, none⟩) l.length ci) ∧ W.cell? ⟨g2, o2 + i, none⟩ = some (.int .i64 x9)) ∧ W.cell? ⟨wz, 0, none⟩ = some (.int .i64 k) ∧ W.cell? ⟨wz, 1, none⟩ = some (.int .i64 m) ∧ W.cell? ⟨wz, 2, none⟩ = some (.slice BA bl.length bc)) (first | exact ⟨⟨s0, s1, s2⟩, t0, t1, t2⟩ | exact U6.out | go_keep)
        (first | (go_at_call 15; refine RAI.out.mono ?_; rintro e6 w6 ⟨rfl, b6⟩; have B6 := Lib.hid b6; have U6 := Lib.hid (And.intro (And.intro (keep_cell b6 s0) (And.intro (keep_cell b6 s1) (keep_cell b6 s2))) (And.intro (keep_cell b6 t0) (And.intro (keep_cell b6 t1) (keep_cell b6 t2)))); clear b6))
      all_goals
        have B9 := Lib.hid (B5.out.trans (((Below.drew (Below.refl w5.heap.size w5)).trans B6.out).mono B5.out.size))
        clear s0 s1 s2 t0 t1 t2
        go_wp2_with fail
        go_roundw
        case rel => exact ⟨i + 1, by omega, by go_num, B9.out⟩
        case measure => simp [intOf]; omega
    · go_wp2_with fail
      go_returns
      exact ⟨rfl, BW.out⟩
end Go.Proofs.YtedjadicdodahaaGreatDoor
