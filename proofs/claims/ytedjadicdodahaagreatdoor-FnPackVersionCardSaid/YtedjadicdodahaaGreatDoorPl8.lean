/- Laws on packages: the version. (printed by gen_pl.py) -/
import Derived.BigRegion
import Derived.Test.YtedjadicdodahaaGreatDoorQPh
import Derived.Test.YtedjadicdodahaaGreatDoorQPa
import Derived.Test.YtedjadicdodahaaGreatDoorPs
import Derived.Test.YtedjadicdodahaaGreatDoorPp
import Derived.Test.YtedjadicdodahaaGreatDoorDu
namespace Go.Proofs.YtedjadicdodahaaGreatDoor
open Go.RowKit Go.Maps

theorem packT {K : List Int} {v : Int} {s : Bool} {l : List El} (hP : PackP v s l) (h1 : 1 ≤ ((Pk.all s l).elems 10).length) : PkT (packS K v.toNat s l) v.toNat s (Pk.all s l) (fpL K (q3 v.toNat s (Pk.all s l) ((Pk.all s l).elems 10))) := by
  have hv := hP.ver
  have hz := pack_size s l hP.len hP.ok
  exact ⟨rfl, fpL_len _ _, by omega, fun h => by have := hP.syn h; omega, h1, hz.1, hz.2⟩
theorem elems_pos (p : Pk) (k i : Nat) (hk : k < 10) (hi : i < (p k).length) : 1 ≤ (p.elems 10).length := by
  have := p.elems_le k i hk hi
  omega
theorem packS_pos3 (K : List Int) (v : Nat) (s : Bool) (l : List El) : 1 ≤ (packS K v s l).size := by
  unfold packS
  rw [str_size, List.length_append, fpL_len]
  omega
theorem Gl.gv {K : List Int} {w : World} (h : Gl K w) : Gv w := ⟨h.i, h.r⟩
theorem vars_three {H : Type} {enc : TypeId × Value → H} {P : Program} {w : World} {sp : Nat → Bool} {a b c : String} {gs : List (DataW H)} {q : List MemPlace} (h : DataW.TrodVars enc P w sp [a, b, c] gs q) : ∃ g0 g1 g2, gs = [g0, g1, g2] := by
  match gs, h with
  | [g0, g1, g2], _ => exact ⟨g0, g1, g2, rfl⟩
theorem gl_any3 {W : World} (hS : W.ShapedOpen Tryz.prog) (h : laidMet Tryz.prog [("loop.example/pub-g01454/pub/pkgbits.introduced", Rows.laid_loop_example_pub_g01454_pub_pkgbits_introduced), ("loop.example/pub-g01454/pub/pkgbits.removed", Rows.laid_loop_example_pub_g01454_pub_pkgbits_removed), ("loop.example/pub-g01454/pub/pkgbits.overflow", Rows.laid_loop_example_pub_g01454_pub_pkgbits_overflow)] W) : ∃ K, Gl K W := by
  obtain ⟨K, h1, h2⟩ := shaped_K hS
  have ti : Lib.TabIs Tryz.prog W "loop.example/pub-g01454/pub/pkgbits.introduced" .u32 [1, 0, 0, 2, 0, 3, 4, 5] :=
    Lib.tabIs_of_head (rest := [_, _]) Tryz.gI Tryz.gIT Tryz.underlying182 Tryz.underlying54 Tryz.cellsV Tryz.cellsV8 h
  have tr : Lib.TabIs Tryz.prog W "loop.example/pub-g01454/pub/pkgbits.removed" .u32 [0, 2, 2, 0, 2, 0, 0, 0] :=
    Lib.tabIs_of_head (rest := [_]) Tryz.gR Tryz.gRT Tryz.underlying182 Tryz.underlying54 Tryz.cellsV Tryz.cellsV8 (laidMet_tail h)
  exact ⟨K, h1, h2, ti.cell Tryz.gI 0 (by decide), tr.cell Tryz.gR 0 (by decide)⟩
theorem one_pos (s : Bool) (x : El) (hx : x.Ok) : 0 < (Pk.all s [x] x.sec.toNat).length := by rw [all_one s x hx]; simp
theorem one_get (s : Bool) (x : El) (hx : x.Ok) : (Pk.all s [x] x.sec.toNat)[0]'(one_pos s x hx) = str (refsB s (x.es s Pk.none).rs ++ (x.es s Pk.none).ds) := by
  simp only [all_one s x hx]
  rfl
set_option maxRecDepth 100000 in
set_option maxHeartbeats 1000000 in
theorem fnPackVersion_any {H : Type} {enc : TypeId × Value → H} (v : Int) (s : Bool) (sec mark : Int) (val : Value) (w : World) (hv : -9223372036854775808 ≤ v ∧ v < 9223372036854775808) (hsec : I64 sec) (hmark : I64 mark) (hval : Rd enc Tryz.prog w 22 [val]) (hG : ∃ K, Gl K w) :
    Calls Tryz.prog 3 #[.int .i64 v, .bool s, .agg #[.int .i64 sec, .int .i64 mark, val]] w (LawEnd w) := by
  obtain ⟨K, hK⟩ := hG
  obtain ⟨⟨BA, bc, bl⟩, rfl, hbits⟩ := Rd.bits hval
  have hIn : El.In w ⟨sec, mark, ⟨BA, bc, bl⟩⟩ := ⟨hbits, hsec, hmark⟩
  have hm : bl.length ≤ maxLen := hbits.len
  unfold maxLen at hm
  have n0 : (0 : Int) ≤ bl.length := by omega
  have n1 : (bl.length : Int) ≤ 9223372036854775807 := by omega
  have HK := Lib.hid hK
  have HIN := Lib.hid hIn
  have v0 := hv.1
  have v1 := hv.2
  clear hval hbits hIn hK hm hv hsec hmark
  have PO := Lib.hid (fun (W : World) (b : Nat) (T : TypeId) (hb : Below w.heap.size w W) (hk : Blk W b T #[.int .i64 sec, .int .i64 mark, .slice BA bl.length bc]) => show Calls Tryz.prog 11 #[.int .i64 v, .bool s, .slice (some ⟨b, 0, none⟩) 1 1] W (RetIf (PackP v s [⟨sec, mark, ⟨BA, bc, bl⟩⟩]) W) from packOk_any v s ⟨some ⟨b, 0, none⟩, 1, [⟨sec, mark, ⟨BA, bc, bl⟩⟩]⟩ W (els_one hk (HIN.out.here hb)))
  have PA := Lib.hid (fun (W : World) (b : Nat) (T : TypeId) (hb : Below w.heap.size w W) (hp : PackP v s [⟨sec, mark, ⟨BA, bc, bl⟩⟩]) (hk : Blk W b T #[.int .i64 sec, .int .i64 mark, .slice BA bl.length bc]) => show Calls Tryz.prog 12 #[.int .i64 v, .bool s, .slice (some ⟨b, 0, none⟩) 1 1] W (PackOut K v.toNat s [⟨sec, mark, ⟨BA, bc, bl⟩⟩] W) from by
    have h1 := hp.ver
    obtain ⟨vn, rfl⟩ : ∃ vn : Nat, v = vn := ⟨v.toNat, by omega⟩
    exact pack_any vn s ⟨some ⟨b, 0, none⟩, 1, [⟨sec, mark, ⟨BA, bc, bl⟩⟩]⟩ W (HK.out.here hb) (els_one hk (HIN.out.here hb)) hp.ok (by show 1 ≤ 60; omega) (by omega))
  obtain ⟨w0, hw0⟩ : ∃ w0, w0 = w.alloc (.cells #[.int .i64 sec, .int .i64 mark, .slice BA bl.length bc] 24) := ⟨_, rfl⟩
  have b0 : Below w.heap.size w w0 := by rw [hw0]; exact Below.alloc (Below.refl _ _) (Nat.le_refl _) _
  have KE := Lib.hid (show Blk w0 w.heap.size 24 #[.int .i64 sec, .int .i64 mark, .slice BA bl.length bc] from by rw [hw0]; exact Blk.new _ _ _)
  have Z := Lib.hid (zz2_any ⟨sec, mark, ⟨BA, bc, bl⟩⟩ w0 (HIN.out.here b0))
  have HW0 := Lib.hid hw0
  have B0 := Lib.hid b0
  clear b0 hw0
  go_enter Tryz.func3, Tryz.ntmps3
  go_wp2_with fail
  rw [← HW0.out]
  refine Z.out.mono ?_
  rintro e w1 ⟨b1, rfl, _, hb1⟩
  have B1 := Lib.hid (below_from B0.out hb1)
  have KE1 := Lib.hid (KE.out.here hb1)
  clear hb1 Z
  rcases b1 with _ | _
  · go_wp2_with fail
    go_returns
    exact ⟨rfl, B1.out⟩
  have e0 := KE1.out.cell 0
  have e1 := KE1.out.cell 1
  have e2 := KE1.out.cell 2
  go_wp2_with fail
  refine (PO.out _ _ _ (B1.out.alloc B1.out.size _) (Blk.new _ _ _)).mono ?_
  rintro e w2 ⟨b2, rfl, hp2, hb2⟩
  have B2 := Lib.hid (below_from (B1.out.alloc B1.out.size _) hb2)
  have KE2 := Lib.hid ((KE1.out.alloc _).here hb2)
  clear hb2 PO e0 e1 e2
  rcases b2 with _ | _
  · go_wp2_with fail
    go_returns
    exact ⟨rfl, B2.out⟩
  have PP := Lib.hid (hp2 rfl)
  clear hp2
  have e0 := KE2.out.cell 0
  have e1 := KE2.out.cell 1
  have e2 := KE2.out.cell 2
  go_wp2_with fail
  refine (PA.out _ _ _ (B2.out.alloc B2.out.size _) PP.out (Blk.new _ _ _)).mono ?_
  rintro e w3 ⟨Ai, ci, At, ct, z0, z1, z2, z3, z4, z5, z6, z7, rfl, hF, hci, hct, si, st, hb3⟩
  have B3 := Lib.hid (below_from (B2.out.alloc B2.out.size _) hb3)
  have KE3 := Lib.hid ((KE2.out.alloc _).here hb3)
  clear hb3 hF hci hct si st e0 e1 e2
  obtain ⟨D, hD⟩ : ∃ D, D = packS K v.toNat s [⟨sec, mark, ⟨BA, bc, bl⟩⟩] := ⟨_, rfl⟩
  have D1 := Lib.hid hD
  have d0 : (0 : Int) < D.size := by
    have h1 := packS_pos3 K v.toNat s [⟨sec, mark, ⟨BA, bc, bl⟩⟩]
    rw [← hD] at h1
    omega
  rw [← hD]
  have OK := Lib.hid (PP.out.ok ⟨sec, mark, ⟨BA, bc, bl⟩⟩ (by simp))
  have hs := OK.out.sec
  obtain ⟨k, rfl⟩ : ∃ k : Nat, sec = k := ⟨sec.toNat, by simp only at hs; omega⟩
  obtain ⟨vn, rfl⟩ : ∃ vn : Nat, v = vn := ⟨v.toNat, by have := PP.out.ver; omega⟩
  have hk : k < 10 := by simp only at hs; omega
  have VO := Lib.hid (fun (W : World) (hb : Below w.heap.size w W) => show Calls Tryz.prog 13 #[.string D, .int .i64 k, .int .i64 0] W (RetV (.int .i64 vn) W) from by
    have p1 := one_pos s ⟨(k : Int), mark, ⟨BA, bc, bl⟩⟩ OK.out
    have p2 := one_get s ⟨(k : Int), mark, ⟨BA, bc, bl⟩⟩ OK.out
    have h1 := versionOf_any (packT (K := K) PP.out (elems_pos _ k 0 hk p1)) (HK.out.here hb).gv k 0 hk p1 (by omega) _ _ p2 (El.es_ref Pk.none_le (by omega) s OK.out) (by have := (El.es_le Pk.none_le s OK.out).rs; omega)
    rw [← D1.out] at h1
    exact h1)
  have j0 : (0 : Int) ≤ k := by omega
  have j1 : (k : Int) < 10 := by omega
  have e0 : w3.cell? ⟨w.heap.size, 0, none⟩ = some (.int .i64 (k : Int)) := KE3.out.cell 0
  have ez := KE3.out.lt
  have A4 := Lib.hid (B3.out.alloc B3.out.size (.cells #[.string D, .slice Ai 1 ci, .slice At (told [⟨(k : Int), mark, ⟨BA, bc, bl⟩⟩]).length ct, .int .u8 z0, .int .u8 z1, .int .u8 z2, .int .u8 z3, .int .u8 z4, .int .u8 z5, .int .u8 z6, .int .u8 z7] 32))
  clear v0 v1
  have v0 : (0 : Int) ≤ vn := by omega
  have v1 : (vn : Int) ≤ 5 := by have := PP.out.ver; omega
  clear hD hs PA
  go_wp2_with fail
  refine (VO.out _ A4.out).mono ?_
  rintro e w5 ⟨rfl, b5⟩
  have B5 := Lib.hid (below_from A4.out b5)
  clear b5
  go_wp2_with fail
  go_returns
  exact ⟨by simp, B5.out⟩
end Go.Proofs.YtedjadicdodahaaGreatDoor
