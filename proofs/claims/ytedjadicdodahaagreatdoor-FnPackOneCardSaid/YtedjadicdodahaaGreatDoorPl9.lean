/- Laws on packages: a single value. (printed by gen_pl.py) -/
import Derived.BigRegion
import Derived.Test.YtedjadicdodahaaGreatDoorQPh
import Derived.Test.YtedjadicdodahaaGreatDoorQPa
import Derived.Test.YtedjadicdodahaaGreatDoorPs
import Derived.Test.YtedjadicdodahaaGreatDoorPp
import Derived.Test.YtedjadicdodahaaGreatDoorQEb
namespace Go.Proofs.YtedjadicdodahaaGreatDoor
open Go.RowKit Go.Maps

theorem packT {K : List Int} {v : Int} {s : Bool} {l : List El} (hP : PackP v s l) (h1 : 1 ≤ ((Pk.all s l).elems 10).length) : PkT (packS K v.toNat s l) v.toNat s (Pk.all s l) (fpL K (q3 v.toNat s (Pk.all s l) ((Pk.all s l).elems 10))) := by
  have hv := hP.ver
  have hz := pack_size s l hP.len hP.ok
  exact ⟨rfl, fpL_len _ _, by omega, fun h => by have := hP.syn h; omega, h1, hz.1, hz.2⟩
theorem elems_pos (p : Pk) (k i : Nat) (hk : k < 10) (hi : i < (p k).length) : 1 ≤ (p.elems 10).length := by
  have := p.elems_le k i hk hi
  omega
theorem packS_pos3 (K : List Int) (v : Nat) (s : Bool) (l : List El) : 1 ≤ (packS K v s l).size := by
  unfold packS
  rw [str_size, List.length_append, fpL_len]
  omega
theorem Gl.gv {K : List Int} {w : World} (h : Gl K w) : Gv w := ⟨h.i, h.r⟩
theorem vars_three {H : Type} {enc : TypeId × Value → H} {P : Program} {w : World} {sp : Nat → Bool} {a b c : String} {gs : List (DataW H)} {q : List MemPlace} (h : DataW.TrodVars enc P w sp [a, b, c] gs q) : ∃ g0 g1 g2, gs = [g0, g1, g2] := by
  match gs, h with
  | [g0, g1, g2], _ => exact ⟨g0, g1, g2, rfl⟩
theorem one_pos (s : Bool) (x : El) (hx : x.Ok) : 0 < (Pk.all s [x] x.sec.toNat).length := by rw [all_one s x hx]; simp
theorem one_get (s : Bool) (x : El) (hx : x.Ok) : (Pk.all s [x] x.sec.toNat)[0]'(one_pos s x hx) = str (refsB s (x.es s Pk.none).rs ++ (x.es s Pk.none).ds) := by
  simp only [all_one s x hx]
  rfl
theorem one_ss (s : Bool) (x : El) (hx : x.Ok) : (x.es s Pk.none).ss <+: Pk.all s [x] 0 := (Pk.all_at s [x] 0 (by simp) hx).2
theorem idxs_one (s : Bool) (x : El) : (idxs s [x])[0]? = some 0 := by simp [idxs, Pk.all, Pk.none]
theorem bts_one {w : World} {g : Nat} {T : TypeId} {b : Bt} (hb : Blk w g T b.arr2) (hx : b.In w) : Bts.In w ⟨some ⟨g, 0, none⟩, 1, [b]⟩ := by
  refine ⟨fun _ => ⟨g, 0, rfl, fun j cs hj i u hu => ?_⟩, fun y hy => ?_, by show 1 ≤ maxLen; unfold maxLen; omega⟩
  · rcases j with _ | j
    · have hj2 : b.cells = cs := by simpa using hj
      subst hj2
      have h1 := hb.cell i
      simp only [Nat.zero_mul, Nat.zero_add]
      rw [h1, List.getElem?_toArray]
      exact hu
    · simp at hj
  · rw [List.mem_singleton.1 hy]
    exact hx
set_option maxRecDepth 100000 in
set_option maxHeartbeats 2000000 in
theorem fnPackOne_any {H : Type} {enc : TypeId × Value → H} (v : Int) (s : Bool) (sec : Int) (kind num bsec : Int) (text : ByteArray) (val : Value) (w : World) (hv : -9223372036854775808 ≤ v ∧ v < 9223372036854775808) (hsec : I64 sec) (hkind : I64 kind) (hnum : I64 num) (hbsec : I64 bsec) (htext : text.size ≤ maxLen) (hval : Rd enc Tryz.prog w 39 [val]) (hG : ∃ K, Gl K w) :
    Calls Tryz.prog 5 #[.int .i64 v, .bool s, .int .i64 sec, .agg #[.int .i64 kind, .int .i64 num, .int .i64 bsec, .string text, val]] w (LawEnd w) := by
  obtain ⟨K, hK⟩ := hG
  obtain ⟨⟨TA, tc, tl⟩, rfl, x1, x2, x3⟩ := Rd.strs hval
  obtain ⟨b, hb9⟩ : ∃ b : Bt, b = ⟨kind, num, bsec, text, ⟨TA, tc, tl⟩⟩ := ⟨_, rfl⟩
  have hbin : b.In w := by rw [hb9]; exact ⟨x1, x3, x2, hkind, hnum, hbsec, htext⟩
  show Calls Tryz.prog 5 #[.int .i64 v, .bool s, .int .i64 sec, .agg #[.int .i64 kind, .int .i64 num, .int .i64 bsec, .string text, .slice TA tl.length tc]] w (LawEnd w)
  obtain ⟨w0, hw0⟩ : ∃ w0, w0 = w.alloc (.cells #[.int .i64 kind, .int .i64 num, .int .i64 bsec, .string text, .slice TA tl.length tc] 41) := ⟨_, rfl⟩
  have b0 : Below w.heap.size w w0 := by rw [hw0]; exact Below.alloc (Below.refl _ _) (Nat.le_refl _) _
  have KB := Lib.hid (show Blk w0 w.heap.size 41 #[.int .i64 kind, .int .i64 num, .int .i64 bsec, .string text, .slice TA tl.length tc] from by rw [hw0]; exact Blk.new _ _ _)
  have Z := Lib.hid (show Calls Tryz.prog 16 #[.agg #[.int .i64 kind, .int .i64 num, .int .i64 bsec, .string text, .slice TA tl.length tc]] w0 (RetIf True w0) from by
    have h := zz4_any b w0 (hbin.here b0)
    rw [hb9] at h
    exact h)
  have HK := Lib.hid hK
  have HBIN := Lib.hid hbin
  have HB9 := Lib.hid hb9
  have HSEC := Lib.hid hsec
  have HW0 := Lib.hid hw0
  have B0 := Lib.hid b0
  have v0 := hv.1
  have v1 := hv.2
  clear hval x1 x2 x3 hbin hb9 hK hv hsec hkind hnum hbsec htext hw0 b0
  go_enter Tryz.func5, Tryz.ntmps5
  go_wp2_with fail
  rw [← HW0.out]
  refine Z.out.mono ?_
  rintro e w1 ⟨b1, rfl, _, hb1⟩
  have B1 := Lib.hid (below_from B0.out hb1)
  have KB1 := Lib.hid (KB.out.here hb1)
  clear hb1 Z
  rcases b1 with _ | _
  · go_wp2_with fail
    go_returns
    exact ⟨rfl, B1.out⟩
  have e0 := KB1.out.cell 0
  have e1 := KB1.out.cell 1
  have e2 := KB1.out.cell 2
  have e3 := KB1.out.cell 3
  have e4 := KB1.out.cell 4
  have ez := KB1.out.lt
  obtain ⟨sb, hsb⟩ : ∃ sb, sb = w1.heap.size := ⟨_, rfl⟩
  obtain ⟨eb, heb⟩ : ∃ eb, eb = sb + 1 := ⟨_, rfl⟩
  obtain ⟨w2, hw2⟩ : ∃ w2, w2 = (w1.alloc (.cells #[.int .i64 kind, .int .i64 num, .int .i64 bsec, .string text, .slice TA tl.length tc] 41)).alloc (.cells #[.int .i64 sec, .int .i64 1, .slice (some ⟨sb, 0, none⟩) 1 1] 24) := ⟨_, rfl⟩
  have b2 : Below w1.heap.size w1 w2 := by rw [hw2]; exact Below.alloc (Below.alloc (Below.refl _ _) (Nat.le_refl _) _) (by simp) _
  have KE := Lib.hid (show Blk w2 eb 24 #[.int .i64 sec, .int .i64 1, .slice (some ⟨sb, 0, none⟩) 1 1] from by rw [hw2, heb, hsb]; exact Blk.new1 _ _ _ _)
  have B2 := Lib.hid (below_from B1.out b2)
  obtain ⟨x, hx9⟩ : ∃ x : El, x = ⟨sec, 1, ⟨some ⟨sb, 0, none⟩, 1, [b]⟩⟩ := ⟨_, rfl⟩
  have XIN := Lib.hid (show El.In w2 x from by
    rw [hx9]
    refine ⟨bts_one (T := 41) ?_ (HBIN.out.here (below_from B1.out b2)), HSEC.out, by show I64 1; unfold I64; omega⟩
    rw [HB9.out, hw2, hsb]
    exact (Blk.new _ _ _).alloc _)
  have HX := Lib.hid hx9
  have HW2 := Lib.hid hw2
  have HSB := Lib.hid hsb
  have HEB := Lib.hid heb
  have PO := Lib.hid (fun (W : World) (q : Nat) (T : TypeId) (hb : Below w2.heap.size w2 W) (hk : Blk W q T #[.int .i64 sec, .int .i64 1, .slice (some ⟨sb, 0, none⟩) 1 1]) => show Calls Tryz.prog 11 #[.int .i64 v, .bool s, .slice (some ⟨q, 0, none⟩) 1 1] W (RetIf (PackP v s [x]) W) from packOk_any v s ⟨some ⟨q, 0, none⟩, 1, [x]⟩ W (els_one (by rw [hx9]; exact hk) (XIN.out.here hb)))
  have PA := Lib.hid (fun (W : World) (q : Nat) (T : TypeId) (hb : Below w2.heap.size w2 W) (hp : PackP v s [x]) (hk : Blk W q T #[.int .i64 sec, .int .i64 1, .slice (some ⟨sb, 0, none⟩) 1 1]) => show Calls Tryz.prog 12 #[.int .i64 v, .bool s, .slice (some ⟨q, 0, none⟩) 1 1] W (PackOut K v.toNat s [x] W) from by
    have h1 := hp.ver
    obtain ⟨vn, rfl⟩ : ∃ vn : Nat, v = vn := ⟨v.toNat, by omega⟩
    exact pack_any vn s ⟨some ⟨q, 0, none⟩, 1, [x]⟩ W (HK.out.here (below_from B2.out hb)) (els_one (by rw [hx9]; exact hk) (XIN.out.here hb)) hp.ok (by show 1 ≤ 60; omega) (by omega))
  clear b2 hx9 hw2 hsb heb
  go_upto_region 4 with fail
  rw [← HSB.out, ← HEB.out, ← HW2.out]
  have g0 := KE.out.cell 0
  have g1 := KE.out.cell 1
  have g2 := KE.out.cell 2
  clear e0 e1 e2 e3 e4 ez
  go_wp2_with fail
  refine (PO.out _ _ _ (Below.alloc (Below.refl _ _) (Nat.le_refl _) _) (Blk.new _ _ _)).mono ?_
  rintro e w3 ⟨b3, rfl, hp3, hb3⟩
  have R3 := Lib.hid (below_from (Below.alloc (Below.refl w2.heap.size w2) (Nat.le_refl _) _) hb3)
  have KE3 := Lib.hid ((KE.out.alloc _).here hb3)
  clear hb3 PO g0 g1 g2
  rcases b3 with _ | _
  · go_wp2_with fail
    go_returns
    exact ⟨rfl, below_from B2.out R3.out⟩
  have PP := Lib.hid (hp3 rfl)
  clear hp3
  have g0 := KE3.out.cell 0
  have g1 := KE3.out.cell 1
  have g2 := KE3.out.cell 2
  go_wp2_with fail
  refine (PA.out _ _ _ (R3.out.alloc R3.out.size _) PP.out (Blk.new _ _ _)).mono ?_
  rintro e w4 ⟨Ai, ci, At, ct, z0, z1, z2, z3, z4, z5, z6, z7, rfl, hF, hci, hct, si, st, hb4⟩
  have R4 := Lib.hid (below_from (R3.out.alloc R3.out.size _) hb4)
  have KE4 := Lib.hid ((KE3.out.alloc _).here hb4)
  obtain ⟨g, o, rfl, hcl⟩ := si (by rw [List.length_map, idxs_len]; simp)
  have q9 : w4.cell? ⟨g, o, none⟩ = some (.int .i64 0) := hcl 0 (.int .i64 0) (by rw [List.getElem?_map, idxs_one]; rfl)
  have c1 : (1 : Int) ≤ ci := by simp only [List.length_singleton] at hci; omega
  clear hb4 hF hct si st hcl g0 g1 g2 hci
  obtain ⟨D, hD⟩ : ∃ D, D = packS K v.toNat s [x] := ⟨_, rfl⟩
  rw [← hD]
  have OK := Lib.hid (PP.out.ok x (by simp))
  have hs := OK.out.sec
  rw [HX.out] at hs
  obtain ⟨k, rfl⟩ : ∃ k : Nat, sec = k := ⟨sec.toNat, by simp only at hs; omega⟩
  obtain ⟨vn, rfl⟩ : ∃ vn : Nat, v = vn := ⟨v.toNat, by have := PP.out.ver; omega⟩
  have hk : k < 10 := by simp only at hs; omega
  have RA := Lib.hid (fun (W : World) (hb : Below w2.heap.size w2 W) => show Calls Tryz.prog 15 #[.string ⟨#[]⟩, .string D, .int .i64 0, .agg #[.int .i64 k, .int .i64 1, .slice (some ⟨sb, 0, none⟩) 1 1], .bool false] W (RetV (.bool true) W) from by
    have hx' := HX.out
    subst hx'
    have p1 := one_pos s _ OK.out
    have p2 := one_get s _ OK.out
    have p3 := one_ss s _ OK.out
    have p4 := El.es_ref Pk.none_le (by omega) s OK.out
    have p5 := (El.es_le Pk.none_le s OK.out).rs
    have hT := packT (K := K) PP.out (elems_pos _ k 0 hk p1)
    rw [show ((vn : Int)).toNat = vn from by omega] at hT hD
    rw [← hD] at hT
    have hxin := XIN.out.here hb
    have hok := OK.out
    exact readsAs_any ⟨#[]⟩ D 0 k 1 (some ⟨sb, 0, none⟩) 1 [b] false W hxin hok (fun W' hb' => unpack_any ⟨#[]⟩ hT (HK.out.here (below_from B2.out (below_from hb hb'))).gv k 0 1 hk p1 (by omega) _ _ _ hok (hxin.here hb') Pk.none p2 p4 (Nat.le_trans p5 (by omega)) p3))
  have j0 : (0 : Int) ≤ k := by omega
  have j1 : (k : Int) < 10 := by omega
  have g0 : w4.cell? ⟨eb, 0, none⟩ = some (.int .i64 k) := KE4.out.cell 0
  have g1 : w4.cell? ⟨eb, 1, none⟩ = some (.int .i64 1) := KE4.out.cell 1
  have g2 : w4.cell? ⟨eb, 2, none⟩ = some (.slice (some ⟨sb, 0, none⟩) 1 1) := KE4.out.cell 2
  have gz := KE4.out.lt
  have gl : g < w4.heap.size := World.block_lt_of_cell? w4 _ q9
  have A5 := Lib.hid (R4.out.alloc R4.out.size (.cells #[.string D, .slice (some ⟨g, o, none⟩) 1 ci, .slice At (told [x]).length ct, .int .u8 z0, .int .u8 z1, .int .u8 z2, .int .u8 z3, .int .u8 z4, .int .u8 z5, .int .u8 z6, .int .u8 z7] 32))
  clear v0 v1 hD hs PA
  have v0 : (0 : Int) ≤ vn := by omega
  have v1 : (vn : Int) ≤ 5 := by have := PP.out.ver; omega
  go_wp2_with fail
  refine (RA.out _ A5.out).mono ?_
  rintro e w6 ⟨rfl, b6⟩
  have B6 := Lib.hid (below_from (below_from B2.out A5.out) b6)
  clear b6
  go_wp2_with fail
  go_returns
  exact ⟨by simp, B6.out⟩
end Go.Proofs.YtedjadicdodahaaGreatDoor
