/- Laws on packages: one value more. (printed by gen_pl.py) -/
import Derived.BigRegion
import Derived.Deep.Cut
import Derived.Test.YtedjadicdodahaaGreatDoorQPh
import Derived.Test.YtedjadicdodahaaGreatDoorQPa
import Derived.Test.YtedjadicdodahaaGreatDoorPs
import Derived.Test.YtedjadicdodahaaGreatDoorQDe
import Derived.Test.YtedjadicdodahaaGreatDoorPp
import Derived.Test.YtedjadicdodahaaGreatDoorPo
import Derived.Test.YtedjadicdodahaaGreatDoorRm
namespace Go.Proofs.YtedjadicdodahaaGreatDoor
open Go.RowKit Go.Maps

theorem packT {K : List Int} {v : Int} {s : Bool} {l : List El} (hP : PackP v s l) (h1 : 1 ≤ ((Pk.all s l).elems 10).length) : PkT (packS K v.toNat s l) v.toNat s (Pk.all s l) (fpL K (q3 v.toNat s (Pk.all s l) ((Pk.all s l).elems 10))) := by
  have hv := hP.ver
  have hz := pack_size s l hP.len hP.ok
  exact ⟨rfl, fpL_len _ _, by omega, fun h => by have := hP.syn h; omega, h1, hz.1, hz.2⟩
theorem elems_pos (p : Pk) (k i : Nat) (hk : k < 10) (hi : i < (p k).length) : 1 ≤ (p.elems 10).length := by
  have := p.elems_le k i hk hi
  omega
theorem packS_pos3 (K : List Int) (v : Nat) (s : Bool) (l : List El) : 1 ≤ (packS K v s l).size := by
  unfold packS
  rw [str_size, List.length_append, fpL_len]
  omega
theorem Gl.gv {K : List Int} {w : World} (h : Gl K w) : Gv w := ⟨h.i, h.r⟩
abbrev zPk : Array Value := #[.string ⟨#[]⟩, .slice none 0 0, .slice none 0 0, .int .u8 0, .int .u8 0, .int .u8 0, .int .u8 0, .int .u8 0, .int .u8 0, .int .u8 0, .int .u8 0]
/-- A package that was written. -/
def Pw.pk (D : ByteArray) (n : Nat) (ix : List Int) : Pw := ⟨fun v w => ∃ (Ai : Option Addr) (ci : Nat) (At : Option Addr) (nt ct : Nat) (z0 z1 z2 z3 z4 z5 z6 z7 : Int), v = .agg #[.string D, .slice Ai n ci, .slice At nt ct, .int .u8 z0, .int .u8 z1, .int .u8 z2, .int .u8 z3, .int .u8 z4, .int .u8 z5, .int .u8 z6, .int .u8 z7] ∧ n ≤ ci ∧ SlV w Ai (ix.map (Value.int .i64)), fun _ _ _ hb ⟨Ai, ci, At, nt, ct, z0, z1, z2, z3, z4, z5, z6, z7, h1, h2, h3⟩ => ⟨Ai, ci, At, nt, ct, z0, z1, z2, z3, z4, z5, z6, z7, h1, h2, h3.here hb⟩⟩
theorem src_blk {w : World} {g : Nat} {t : TypeId} {cs : Array Value} (h : Blk w g t cs) (news : List Value) (hn : cs.toList = news) (m : Nat) : 0 < m → ∃ ad, some (⟨g, 0, none⟩ : Addr) = some ad ∧ ∀ j u, news[j]? = some u → w.cell? (ad.add j) = some u := fun _ => by
  refine ⟨_, rfl, fun j u hu => ?_⟩
  subst hn
  rw [add_at, Nat.zero_add, h.cell]
  simpa using hu
/-- A slice of n elements. -/
def Pw.row (n : Nat) (css : List (List Value)) : Pw := ⟨fun v w => ∃ A c, v = .slice A n c ∧ SlR 5 w A css, fun _ _ _ hb ⟨A, c, h1, h2⟩ => ⟨A, c, h1, h2.here hb⟩⟩
/-- An element of n values. -/
def Pw.ele (sec mark : Int) (n : Nat) (css : List (List Value)) : Pw := ⟨fun v w => ∃ A c, v = .agg #[.int .i64 sec, .int .i64 mark, .slice A n c] ∧ SlR 5 w A css, fun _ _ _ hb ⟨A, c, h1, h2⟩ => ⟨A, c, h1, h2.here hb⟩⟩
/-- A new slice of no room. -/
def Pw.blk0 (B : Nat) (T : TypeId) : Pw := ⟨fun v w => ∃ g, v = .slice (some ⟨g, 0, none⟩) 0 0 ∧ B ≤ g ∧ Blk w g T #[], fun _ _ _ hb ⟨g, h1, h2, h3⟩ => ⟨g, h1, h2, h3.here hb⟩⟩
/-- A row of one's own. -/
def Pw.own (B : Nat) (e : TypeId) (size n : Nat) (xs : List Value) : Pw := ⟨fun v w => w.ownsRow B e size v n xs, fun _ _ _ hb h => own_here h hb⟩
theorem Tryz.infoBit9 : (Tryz.prog.info? 41).map (fun i => (i.zero, i.size, i.bytes)) = some (some (.agg #[.int .i64 0, .int .i64 0, .int .i64 0, .string ⟨#[]⟩, .slice none 0 0]), 5, 64) := by kernel_rfl
def pairs (i j : Nat) (u v : Value) : Prop := i = 10 → j = 11 → u ≠ v
theorem pairs_no {i j : Nat} {u v : Value} (h9 : i ≠ 10) (h10 : i ≠ 11) : pairs i j u v ∧ pairs j i v u := ⟨fun e => absurd e h9, fun _ e => absurd e h10⟩
set_option maxRecDepth 100000 in
set_option maxHeartbeats 4000000 in
theorem fnPackRows_any {H : Type} {enc : TypeId × Value → H} (v : Int) (s : Bool) (sec mark : Int) (val : Value) (kind num bsec : Int) (text : ByteArray) (val2 : Value) (w : World) (hv : -9223372036854775808 ≤ v ∧ v < 9223372036854775808) (hsec : I64 sec) (hmark : I64 mark) (hval : Rd enc Tryz.prog w 22 [val]) (hkind : I64 kind) (hnum : I64 num) (hbsec : I64 bsec) (htext : text.size ≤ maxLen) (hval2 : Rd enc Tryz.prog w 39 [val2]) (hG : ∃ K, Gl K w) :
    Calls Tryz.prog 8 #[.int .i64 v, .bool s, .agg #[.int .i64 sec, .int .i64 mark, val], .agg #[.int .i64 kind, .int .i64 num, .int .i64 bsec, .string text, val2]] w (LawEnd w) := by
  obtain ⟨K, hK⟩ := hG
  obtain ⟨⟨BA, bc, bl⟩, rfl, hbits⟩ := Rd.bits hval
  have hIn : El.In w ⟨sec, mark, ⟨BA, bc, bl⟩⟩ := ⟨hbits, hsec, hmark⟩
  have hm : bl.length ≤ maxLen := hbits.len
  unfold maxLen at hm
  have n0 : (0 : Int) ≤ bl.length := by omega
  have n1 : (bl.length : Int) ≤ 9223372036854775807 := by omega
  have HK := Lib.hid hK
  have HIN := Lib.hid hIn
  have v0 := hv.1
  have v1 := hv.2
  obtain ⟨⟨TA, tc, tl⟩, rfl, x1, x2, x3⟩ := Rd.strs hval2
  have HBIN := Lib.hid (show Bt.In w ⟨kind, num, bsec, text, ⟨TA, tc, tl⟩⟩ from ⟨x1, x3, x2, hkind, hnum, hbsec, htext⟩)
  show Calls Tryz.prog 8 #[.int .i64 v, .bool s, .agg #[.int .i64 sec, .int .i64 mark, .slice BA bl.length bc], .agg #[.int .i64 kind, .int .i64 num, .int .i64 bsec, .string text, .slice TA tl.length tc]] w (LawEnd w)
  clear hval2 x1 x2 x3 hkind hnum hbsec htext
  clear hval hbits hIn hK hm hv hsec hmark
  obtain ⟨w0, hw0⟩ : ∃ w0, w0 = (w.alloc (.cells #[.int .i64 sec, .int .i64 mark, .slice BA bl.length bc] 24)).alloc (.cells #[.int .i64 kind, .int .i64 num, .int .i64 bsec, .string text, .slice TA tl.length tc] 41) := ⟨_, rfl⟩
  have b0 : Below w.heap.size w w0 := by rw [hw0]; exact Below.alloc (Below.alloc (Below.refl _ _) (Nat.le_refl _) _) (by simp) _
  have KE := Lib.hid (show Blk w0 w.heap.size 24 #[.int .i64 sec, .int .i64 mark, .slice BA bl.length bc] from by rw [hw0]; exact (Blk.new w _ _).alloc _)
  obtain ⟨bb, hbb⟩ : ∃ bb, bb = w.heap.size + 1 := ⟨_, rfl⟩
  have KB := Lib.hid (show Blk w0 bb 41 #[.int .i64 kind, .int .i64 num, .int .i64 bsec, .string text, .slice TA tl.length tc] from by rw [hw0, hbb]; exact Blk.new1 _ _ _ _)
  have Z2 := Lib.hid (zz2_any ⟨sec, mark, ⟨BA, bc, bl⟩⟩ w0 (HIN.out.here b0))
  have Z4 := Lib.hid (fun (W : World) (hb : Below w.heap.size w W) => show Calls Tryz.prog 16 #[.agg #[.int .i64 kind, .int .i64 num, .int .i64 bsec, .string text, .slice TA tl.length tc]] W (RetIf True W) from zz4_any ⟨kind, num, bsec, text, ⟨TA, tc, tl⟩⟩ W (HBIN.out.here hb))
  have HW0 := Lib.hid hw0
  have HBB := Lib.hid hbb
  have B0 := Lib.hid b0
  have hbw : bb ≠ w.heap.size := by omega
  clear b0 hw0 hbb
  go_enter Tryz.func8, Tryz.ntmps8
  go_wp2_with fail
  rw [← HW0.out, ← HBB.out]
  refine Z2.out.mono ?_
  rintro e w1 ⟨b1, rfl, hn1, hb1⟩
  have B1 := Lib.hid (below_from B0.out hb1)
  have KE1 := Lib.hid (KE.out.here hb1)
  have KB1 := Lib.hid (KB.out.here hb1)
  rcases b1 with _ | _
  · clear hb1 hn1
    go_wp2_with fail
    go_returns
    exact ⟨rfl, B1.out⟩
  have hn : bl.length ≤ 2147483647 := hn1 rfl
  have hn2 : (bl.length : Int) ≤ 2147483647 := by omega
  have k0 := KB1.out.cell 0
  have k1 := KB1.out.cell 1
  have k2 := KB1.out.cell 2
  have k3 := KB1.out.cell 3
  have k4 := KB1.out.cell 4
  clear hb1 hn1 Z2
  go_wp2_with fail
  refine (Z4.out w1 B1.out).mono ?_
  rintro e w2 ⟨b2, rfl, _, hb2⟩
  have B2 := Lib.hid (below_from B1.out hb2)
  have KE2 := Lib.hid (KE1.out.here hb2)
  have KB2 := Lib.hid (KB1.out.here hb2)
  clear hb2 Z4 k0 k1 k2 k3 k4
  rcases b2 with _ | _
  · go_wp2_with fail
    go_returns
    exact ⟨rfl, B2.out⟩
  go_upto_region 3 with fail
  go_cut [9] from 22 to 33 (fun p9 wc => ∃ (eb : Nat) (A3 : Option Addr) (c3 : Nat), p9 = .pointer (some ⟨eb, 0, none⟩) ∧ w2.heap.size ≤ eb ∧ Blk wc eb 24 #[.int .i64 sec, .int .i64 mark, .slice A3 (bl.length + 1) c3] ∧ SlR 5 wc A3 ((bl ++ [(⟨kind, num, bsec, text, ⟨TA, tc, tl⟩⟩ : Bt)]).map Bt.cells) ∧ Below w2.heap.size w2 wc)
  case first =>
    obtain ⟨b, hb9⟩ : ∃ b : Bt, b = ⟨kind, num, bsec, text, ⟨TA, tc, tl⟩⟩ := ⟨_, rfl⟩
    have hbc : b.cells = [.int .i64 kind, .int .i64 num, .int .i64 bsec, .string text, .slice TA tl.length tc] := by rw [hb9]
    have SZB : (Tryz.prog.info? 41).map (·.size) = some 5 := by kernel_rfl
    obtain ⟨i0, hj0, jz0, jz1, jz2⟩ := info_parts Tryz.infoBit9
    have L5 : ∀ y ∈ bl, y.cells.length = 5 := fun _ _ => rfl
    have L6 : ∀ y ∈ bl ++ [b], y.cells.length = 5 := fun _ _ => rfl
    have FL : (bl ++ [b]).flatMap Bt.cells = bl.flatMap Bt.cells ++ b.cells := by simp
    have FN : (bl.flatMap Bt.cells).length = bl.length * 5 := rows_flat_len bl L5
    have O1 : ∀ u ∈ bl.flatMap Bt.cells, u.oneCell' = true := rows_flat_one bl (fun y _ u hu => by
      simp only [Bt.cells, List.mem_cons, List.not_mem_nil, or_false] at hu
      rcases hu with rfl | rfl | rfl | rfl | rfl <;> rfl)
    have O2 : ∀ u ∈ b.cells, u.oneCell' = true := fun u hu => by
      simp only [Bt.cells, List.mem_cons, List.not_mem_nil, or_false] at hu
      rcases hu with rfl | rfl | rfl | rfl | rfl <;> rfl
    have M1 : bl.length ≤ maxLen := by unfold maxLen; omega
    have M2 : bl.length + 1 ≤ maxLen := by unfold maxLen; omega
    have M3 : bl.length * 64 ≤ 140737488355328 := by omega
    have M4 : (bl.length + 1) * 64 ≤ 140737488355328 := by omega
    have SZE : (Tryz.prog.info? 24).map (·.size) = some 3 := by kernel_rfl
    have HSB := Lib.hid (show SlR 5 w BA (bl.map Bt.cells) from HIN.out.bits.l)
    have HBC := Lib.hid hbc
    have low : ∀ {W : World}, RowsOnly w2.heap.size 41 w2.drew W → Below w2.heap.size w2.drew W := fun h => (h (Nat.le_refl _)).1
    refine region_mid_pw (by kernel_rfl) 10 13 (by decide) (by decide) [.is (.pointer (some ⟨w.heap.size, 0, none⟩)), .is (.int .i64 sec), .is (.pointer (some ⟨w.heap.size, 1, none⟩)), .is (.int .i64 mark), .any, .is (.pointer (some ⟨w.heap.size, 2, none⟩)), .is (.slice BA bl.length bc), .any, .is (.agg b.cells.toArray), .any, .row (bl.length + 1) ((bl ++ [b]).map Bt.cells), .ele sec mark (bl.length + 1) ((bl ++ [b]).map Bt.cells), .blk w2.heap.size 24 #[.int .i64 0, .int .i64 0, .slice none 0 0]] [.any, .any, .any, .any, .blk0 w2.heap.size 41, .any, .any, .own w2.heap.size 41 5 bl.length (bl.flatMap Bt.cells), .any, .one b.cells.toArray, .any, .any, .any] (RowsOnly w2.heap.size 41) [22, 23, 24, 25, 26, 27, 28, 29, 30, 31, 32, 33, 9, 1000] (RowsOnly.refl _ _) (fun _ _ _ => RowsOnly.trans) ?_ (by kernel_rfl) (waits_of (by kernel_rfl)) ?_ ?_
    · intro i hi V W W' hr hv
      rcases i with _ | _ | _ | _ | _ | _ | _ | _ | _ | _ | _ | _ | _ | i
      · exact hv
      · exact hv
      · exact hv
      · exact hv
      · exact hv
      · exact hv
      · exact hv
      · exact hv
      · exact hv
      · exact hv
      · exact absurd (hi.symm.trans (by kernel_rfl)) (by decide : ¬ false = true)
      · exact absurd (hi.symm.trans (by kernel_rfl)) (by decide : ¬ false = true)
      · obtain ⟨g, h1, h2, h3⟩ := hv
        have hz := h3.lt
        exact ⟨g, h1, h2, ((hr (by omega)).2 g hz (by unfold tag; rw [h3]; decide)).trans h3⟩
      · exact trivial
    · refine Steps.cons ?_ (Steps.cons ?_ (Steps.cons ?_ (Steps.cons ?_ (Steps.cons ?_ (Steps.cons ?_ (Steps.cons ?_ (Steps.cons ?_ (Steps.cons ?_ (Steps.cons ?_ (Steps.cons ?_ (Steps.cons ?_ (Steps.cons ?_ Steps.nil))))))))))))
      all_goals (intro f_ W hW hd he K hK; rw [if_pos (by rfl)]; simp only [over, List.foldl_cons, List.foldl_nil, List.setIfInBounds_toArray, List.set_cons_zero, List.set_cons_succ, Act.put] at hK ⊢; simp only [Deps, List.filter, Region.binds, pws, Pw.is, Pw.any, Pw.one, Pw.blk, Pw.row, Pw.ele, Pw.own, Pw.blk0, List.getD_cons_zero, List.getD_cons_succ, List.getElem?_cons_zero, List.getElem?_cons_succ, Option.getD_some] at hd he)
      · clear hd he
        go_simp
        exact hK _ _ rfl (RowsOnly.refl _ _ _) (fun _ => ⟨later_refl _, trivial⟩)
      · obtain ⟨h0, _⟩ := hd
        clear he
        rw [h0] at hK ⊢
        have k0 := (KE2.out.drew.here (low hW)).cell 0
        go_simp
        exact hK _ _ rfl (RowsOnly.refl _ _ _) (fun _ => ⟨later_refl _, trivial⟩)
      · clear hd he
        go_simp
        exact hK _ _ rfl (RowsOnly.refl _ _ _) (fun _ => ⟨later_refl _, trivial⟩)
      · obtain ⟨h0, _⟩ := hd
        clear he
        rw [h0] at hK ⊢
        have k0 := (KE2.out.drew.here (low hW)).cell 1
        go_simp
        exact hK _ _ rfl (RowsOnly.refl _ _ _) (fun _ => ⟨later_refl _, trivial⟩)
      · clear hd he
        go_simp
        have hl : Later W (W.alloc (.cells #[] 41)) := Below.alloc (Below.refl _ _) (Nat.le_refl _) _
        exact hK _ _ trivial (RowsOnly.later hl) (fun _ => ⟨hl, ⟨W.heap.size, rfl, (low hW).size, Blk.new _ _ _⟩⟩)
      · clear hd he
        go_simp
        exact hK _ _ rfl (RowsOnly.refl _ _ _) (fun _ => ⟨later_refl _, trivial⟩)
      · obtain ⟨h0, _⟩ := hd
        clear he
        rw [h0] at hK ⊢
        have k0 := (KE2.out.drew.here (low hW)).cell 2
        go_simp
        exact hK _ _ rfl (RowsOnly.refl _ _ _) (fun _ => ⟨later_refl _, trivial⟩)
      · obtain ⟨_, h1, _⟩ := hd
        obtain ⟨⟨g, h0, hgl, hg⟩, _⟩ := he (by kernel_rfl)
        clear he
        rw [h0, h1] at hK ⊢
        refine wp_append_empty (.tmp 26) (.tmp 28) 22 (by rfl) w2.heap.size 41 i0 _ 5 64 Tryz.underlying22 hj0 jz0 jz1 jz2 (by rfl) (by decide) g (by rfl) hg hgl BA bl.length bc (bl.flatMap Bt.cells) (by rfl) FN (rows_src (HSB.out.here (below_from (below_from B2.out.drew (low hW)) (Below.refl _ _))) L5) O1 M1 M3 (low hW).size ?_
        intro V W' hown hl
        exact hK _ _ trivial (RowsOnly.later hl) (fun _ => ⟨hl, hown⟩)
      · clear hd he
        refine wp_load_row 41 (.tmp 7) rfl bb rfl 41 _ (0, 0) _ (KB2.out.drew.here (low hW)) Tryz.underlying41 rfl SZB ?_
        rw [HBC.out] at hK
        exact hK _ _ rfl (RowsOnly.refl _ _ _) (fun _ => ⟨later_refl _, trivial⟩)
      · obtain ⟨h0, _⟩ := hd
        clear he
        rw [h0] at hK ⊢
        rw [HBC.out] at hK ⊢
        go_simp
        have hl : Later W (W.alloc (.cells #[.int .i64 kind, .int .i64 num, .int .i64 bsec, .string text, .slice TA tl.length tc] 41)) := Below.alloc (Below.refl _ _) (Nat.le_refl _) _
        exact hK _ _ trivial (RowsOnly.later hl) (fun _ => ⟨hl, ⟨W.heap.size, _, rfl, Blk.new _ _ _⟩⟩)
      · obtain ⟨hown, ⟨g, T, h1, hg⟩, _⟩ := he (by kernel_rfl)
        clear hd he
        obtain ⟨A4, c4, h0, _⟩ := own_slice hown
        rw [h0] at hown
        rw [h0, h1] at hK ⊢
        refine wp_append_src (.tmp 29) (.tmp 31) 22 (by rfl) w2.heap.size 41 i0 _ 5 64 Tryz.underlying22 hj0 jz0 jz1 jz2 (by rfl) (by decide) (.slice A4 bl.length c4) bl.length (bl.flatMap Bt.cells) (by rfl) hown (some ⟨g, 0, none⟩) 1 1 b.cells (by rfl) (by rfl) (src_blk hg _ rfl 1) O2 M2 M4 (low hW).size ?_
        intro V W' hown2 hgrow
        obtain ⟨A5, c5, rfl, _⟩ := own_slice hown2
        rw [← FL] at hown2
        exact hK _ _ ⟨A5, c5, rfl, rows_of_own hown2 L6 (by simp)⟩ (RowsOnly.grown hown hgrow) (fun h => absurd rfl h)
      · obtain ⟨h0, h1, ⟨A5, c5, h2, hs⟩, _⟩ := hd
        clear he
        rw [h0, h1, h2] at hK ⊢
        go_simp
        exact hK _ _ ⟨A5, c5, rfl, hs⟩ (RowsOnly.refl _ _ _) (fun _ => ⟨later_refl _, trivial⟩)
      · clear hd he
        go_simp
        have hl : Later W (W.alloc (.cells #[.int .i64 0, .int .i64 0, .slice none 0 0] 24)) := Below.alloc (Below.refl _ _) (Nat.le_refl _) _
        exact hK _ _ ⟨W.heap.size, rfl, (low hW).size, Blk.new _ _ _⟩ (RowsOnly.later hl) (fun _ => ⟨hl, trivial⟩)
    · intro f_ W fuel hf hW hd
      obtain ⟨A3, c3, h33, hs3⟩ := hd 11 (by decide)
      obtain ⟨eb, h9, heb, ke⟩ := hd 12 (by decide)
      replace h33 : f_ 33 = _ := h33
      replace h9 : f_ 9 = _ := h9
      clear hd
      obtain ⟨n, rfl⟩ : ∃ n, fuel = n + 1 := ⟨fuel - 1, by have h9 : 14 - 13 ≤ fuel := hf; omega⟩
      refine wpAny_one (by kernel_rfl) (by kernel_rfl) ?_
      simp only [over, List.foldl_cons, List.foldl_nil, List.setIfInBounds_toArray, List.set_cons_zero, List.set_cons_succ, h9, h33]
      refine wpOp_step rfl fun K' hK' => ?_
      rw [if_pos (by rfl)]
      refine wp_store_row 24 (.tmp 9) (.tmp 33) rfl eb _ rfl rfl 24 _ ke SZE rfl (by simp [Value.oneCell']) ?_
      apply hK'
      have kr : Blk (W.setRow eb #[.int .i64 sec, .int .i64 mark, .slice A3 (bl.length + 1) c3]) eb 24 #[.int .i64 sec, .int .i64 mark, .slice A3 (bl.length + 1) c3] := setRow_heap _ _ _ _ _ _ ke
      have f1 := fr_setRow (Fr.refl [eb] W) (g := eb) (.inl (by simp)) #[.int .i64 sec, .int .i64 mark, .slice A3 (bl.length + 1) c3]
      have b1 := (Below.drew (Below.refl w2.heap.size w2)).trans (below_fr (low hW) f1 (fun q hq => by rw [List.mem_singleton.1 hq]; exact heb) (low hW).size)
      obtain ⟨rb, ro, rfl, hc3⟩ := hs3 (by simp)
      have hy := hc3 0 ((bl ++ [b])[0]'(by simp)).cells (by rw [List.getElem?_map, List.getElem?_eq_getElem (by simp)]; rfl) 3 (.string ((bl ++ [b])[0]'(by simp)).text) rfl
      have hrb : rb ≠ eb := by
        rintro rfl
        have h := (ke.cell (ro + 0 * 5 + 3)).symm.trans hy
        simp at h
      have sl4 : SlR 5 (W.setRow eb #[.int .i64 sec, .int .i64 mark, .slice (some ⟨rb, ro, none⟩) (bl.length + 1) c3]) (some ⟨rb, ro, none⟩) ((bl ++ [b]).map Bt.cells) := fun _ => ⟨rb, ro, rfl, fun j cs hj i u hu => (World.cell?_of_block (setRow_other W eb rb _ hrb)).trans (hc3 j cs hj i u hu)⟩
      rw [hb9] at sl4
      obtain ⟨W2, hW2⟩ : ∃ W2, W2 = W.setRow eb #[.int .i64 sec, .int .i64 mark, .slice (some ⟨rb, ro, none⟩) (bl.length + 1) c3] := ⟨_, rfl⟩
      rw [← hW2] at kr b1 sl4 ⊢
      clear hW2 f1 hy hrb hc3 ke hW hK' h33 h9 O1 O2 L5 L6 FL FN low hj0 jz0 jz1 jz2 hf
      go_wp2_with fail
      go_meet
      case rel => exact ⟨eb, some ⟨rb, ro, none⟩, c3, rfl, heb, kr, sl4, b1⟩
  case rest =>
    obtain ⟨eb, A3, c3, rfl, heb, ke3, sl3, b3⟩ := hcut
    obtain ⟨b, hb9⟩ : ∃ b : Bt, b = ⟨kind, num, bsec, text, ⟨TA, tc, tl⟩⟩ := ⟨_, rfl⟩
    rw [← hb9] at sl3
    have hlen : (bl ++ [b]).length = bl.length + 1 := by simp
    have B3 := Lib.hid (below_from B2.out b3)
    have KE3 := Lib.hid ke3
    have SE3 := Lib.hid (KE2.out.here b3)
    have KB3 := Lib.hid (KB2.out.here b3)
    have XIN := Lib.hid (show El.In wc ⟨sec, mark, ⟨A3, c3, bl ++ [b]⟩⟩ from by
      refine ⟨⟨sl3, fun y hy => ?_, by show (bl ++ [b]).length ≤ maxLen; rw [hlen]; unfold maxLen; omega⟩, HIN.out.sec, HIN.out.mark⟩
      rcases List.mem_append.1 hy with hy | hy
      · exact (HIN.out.here (below_from B2.out b3)).bits.sub y hy
      · rw [List.mem_singleton.1 hy, hb9]
        exact HBIN.out.here (below_from B2.out b3))
    have HB9 := Lib.hid hb9
    have PO2 := Lib.hid (fun (W : World) (q : Nat) (T : TypeId) (hb : Below wc.heap.size wc W) (hk : Blk W q T #[.int .i64 sec, .int .i64 mark, .slice A3 (bl.length + 1) c3]) => show Calls Tryz.prog 11 #[.int .i64 v, .bool s, .slice (some ⟨q, 0, none⟩) 1 1] W (RetIf (PackP v s [⟨sec, mark, ⟨A3, c3, bl ++ [b]⟩⟩]) W) from packOk_any v s ⟨some ⟨q, 0, none⟩, 1, [⟨sec, mark, ⟨A3, c3, bl ++ [b]⟩⟩]⟩ W (els_one (by rw [hlen]; exact hk) (XIN.out.here hb)))
    have PB2 := Lib.hid (fun (W : World) (hb : Below wc.heap.size wc W) => show Calls Tryz.prog 18 #[.agg #[.int .i64 sec, .int .i64 mark, .slice A3 (bl.length + 1) c3]] W (RetIf (∀ y ∈ bl ++ [b], y.Plain) W) from by
      have h := plainBits_any ⟨sec, mark, ⟨A3, c3, bl ++ [b]⟩⟩ W (XIN.out.here hb)
      rw [hlen] at h
      exact h)
    clear sl3 b3 hb9 ke3
    have g0 := KE3.out.cell 0
    have g1 := KE3.out.cell 1
    have g2 := KE3.out.cell 2
    have k0 := KB3.out.cell 0
    have kz := KB3.out.lt
    go_wp2_with fail
    refine (PO2.out _ _ _ (Below.alloc (Below.refl _ _) (Nat.le_refl _) _) (Blk.new _ _ _)).mono ?_
    rintro e w4 ⟨b4, rfl, hp4, hb4⟩
    have R4 := Lib.hid (below_from (Below.alloc (Below.refl wc.heap.size wc) (Nat.le_refl _) _) hb4)
    have KE4 := Lib.hid ((KE3.out.alloc _).here hb4)
    have KB4 := Lib.hid ((KB3.out.alloc _).here hb4)
    have SE4 := Lib.hid ((SE3.out.alloc _).here hb4)
    clear hb4 PO2 g0 g1 g2 k0 kz
    rcases b4 with _ | _
    · go_wp2_with fail
      go_returns
      exact ⟨rfl, below_from B3.out R4.out⟩
    have PP := Lib.hid (hp4 rfl)
    clear hp4
    have g0 := KE4.out.cell 0
    have g1 := KE4.out.cell 1
    have g2 := KE4.out.cell 2
    go_wp2_with fail
    refine (PB2.out w4 R4.out).mono ?_
    rintro e w5 ⟨b5, rfl, hp5, hb5⟩
    have R5 := Lib.hid (below_from R4.out hb5)
    have KE5 := Lib.hid (KE4.out.here hb5)
    have KB5 := Lib.hid (KB4.out.here hb5)
    have SE5 := Lib.hid (SE4.out.here hb5)
    clear hb5 PB2 g0 g1 g2
    rcases b5 with _ | _
    · go_wp2_with fail
      go_returns
      exact ⟨rfl, below_from B3.out R5.out⟩
    have PL := Lib.hid (hp5 rfl)
    clear hp5
    have k0 : w5.cell? ⟨bb, 0, none⟩ = some (.int .i64 kind) := KB5.out.cell 0
    by_cases h12 : kind = 12
    · subst h12
      go_wp2_with fail
      go_returns
      exact ⟨rfl, below_from B3.out R5.out⟩
    have e12 : (kind == 12) = false := by simpa using h12
    have H12 := Lib.hid h12
    have okl := PP.out.ok ⟨sec, mark, ⟨A3, c3, bl ++ [b]⟩⟩ (by simp)
    have okx : El.Ok ⟨sec, mark, ⟨BA, bc, bl⟩⟩ := ⟨okl.sec, okl.mark, by have h9 := okl.len; rw [hlen] at h9; show bl.length ≤ 60; omega, fun y hy => okl.bits y (List.mem_append_left _ hy)⟩
    have OKX := Lib.hid okx
    have OKL := Lib.hid okl
    have PPX := Lib.hid (show PackP v s [⟨sec, mark, ⟨BA, bc, bl⟩⟩] from ⟨fun y hy => by rw [List.mem_singleton.1 hy]; exact okx, PP.out.ver, PP.out.syn, by simp⟩)
    have PAx := Lib.hid (fun (W : World) (q : Nat) (T : TypeId) (hb : Below wc.heap.size wc W) (hk : Blk W q T #[.int .i64 sec, .int .i64 mark, .slice BA bl.length bc]) => show Calls Tryz.prog 12 #[.int .i64 v, .bool s, .slice (some ⟨q, 0, none⟩) 1 1] W (PackOut K v.toNat s [⟨sec, mark, ⟨BA, bc, bl⟩⟩] W) from by
      have h1 := PP.out.ver
      obtain ⟨vn, rfl⟩ : ∃ vn : Nat, v = vn := ⟨v.toNat, by omega⟩
      exact pack_any vn s ⟨some ⟨q, 0, none⟩, 1, [⟨sec, mark, ⟨BA, bc, bl⟩⟩]⟩ W (HK.out.here (below_from B3.out hb)) (els_one hk (HIN.out.here (below_from B3.out hb))) PPX.out.ok (by show 1 ≤ 60; omega) (by omega))
    have PAl := Lib.hid (fun (W : World) (q : Nat) (T : TypeId) (hb : Below wc.heap.size wc W) (hk : Blk W q T #[.int .i64 sec, .int .i64 mark, .slice A3 (bl.length + 1) c3]) => show Calls Tryz.prog 12 #[.int .i64 v, .bool s, .slice (some ⟨q, 0, none⟩) 1 1] W (PackOut K v.toNat s [⟨sec, mark, ⟨A3, c3, bl ++ [b]⟩⟩] W) from by
      have h1 := PP.out.ver
      obtain ⟨vn, rfl⟩ : ∃ vn : Nat, v = vn := ⟨v.toNat, by omega⟩
      exact pack_any vn s ⟨some ⟨q, 0, none⟩, 1, [⟨sec, mark, ⟨A3, c3, bl ++ [b]⟩⟩]⟩ W (HK.out.here (below_from B3.out hb)) (els_one (by rw [hlen]; exact hk) (XIN.out.here hb)) PP.out.ok (by show 1 ≤ 60; omega) (by omega))
    have SZE : (Tryz.prog.info? 24).map (·.size) = some 3 := by kernel_rfl
    have e1' := SE5.out.lt
    have e2' := KE5.out.lt
    clear okl okx
    go_upto_region 6 with fail
    refine region_pwt (by kernel_rfl) 12 (by decide) [.is (.int .i64 v), .is (.bool s), .is (.agg #[.int .i64 sec, .int .i64 mark, .slice BA bl.length bc]), .one #[.int .i64 sec, .int .i64 mark, .slice BA bl.length bc], .pk (packS K v.toNat s [⟨sec, mark, ⟨BA, bc, bl⟩⟩]) 1 (idxs s [⟨sec, mark, ⟨BA, bc, bl⟩⟩]), .is (.int .i64 v), .is (.bool s), .is (.agg #[.int .i64 sec, .int .i64 mark, .slice A3 (bl.length + 1) c3]), .one #[.int .i64 sec, .int .i64 mark, .slice A3 (bl.length + 1) c3], .pk (packS K v.toNat s [⟨sec, mark, ⟨A3, c3, bl ++ [b]⟩⟩]) 1 (idxs s [⟨sec, mark, ⟨A3, c3, bl ++ [b]⟩⟩]), .blk w5.heap.size 32 zPk, .blk w5.heap.size 32 zPk] pairs [50, 51, 52, 53, 54, 55, 56, 57, 58, 59, 10, 11, 1000, 1001] (by kernel_rfl) (waits_of (by kernel_rfl)) ?_ ?_
    · refine Steps.cons ?_ (Steps.cons ?_ (Steps.cons ?_ (Steps.cons ?_ (Steps.cons ?_ (Steps.cons ?_ (Steps.cons ?_ (Steps.cons ?_ (Steps.cons ?_ (Steps.cons ?_ (Steps.cons ?_ (Steps.cons ?_ Steps.nil)))))))))))
      all_goals (intro f_ W hW hd K hK; rw [if_pos (by rfl)]; simp only [over, List.foldl_cons, List.foldl_nil, List.setIfInBounds_toArray, List.set_cons_zero, List.set_cons_succ, Act.put] at hK ⊢; simp only [Deps, List.filter, Region.binds, pws, Pw.is, Pw.pk, Pw.one, Pw.blk, List.getD_cons_zero, List.getD_cons_succ, List.getElem?_cons_zero, List.getElem?_cons_succ, Option.getD_some] at hd)
      · clear hd
        go_simp
        exact hK _ _ rfl (later_refl _) (fun _ _ _ => pairs_no (by decide) (by decide))
      · clear hd
        go_simp
        exact hK _ _ rfl (later_refl _) (fun _ _ _ => pairs_no (by decide) (by decide))
      · clear hd
        refine wp_load_row 24 (.tmp 6) rfl w.heap.size rfl 24 _ (0, 0) _ (SE5.out.drew.here hW) Tryz.underlying24 rfl SZE ?_
        exact hK _ _ rfl (later_refl _) (fun _ _ _ => pairs_no (by decide) (by decide))
      · obtain ⟨h0, _⟩ := hd
        rw [h0] at hK ⊢
        go_simp
        exact hK _ _ ⟨W.heap.size, _, rfl, Blk.new _ _ _⟩ (Below.alloc (Below.refl _ _) (Nat.le_refl _) _) (fun _ _ _ => pairs_no (by decide) (by decide))
      · obtain ⟨h0, h1, ⟨q, T, h2, hk⟩, _⟩ := hd
        rw [h0, h1, h2] at hK ⊢
        go_simp
        go_at_call 12
        refine (PAx.out W q T (below_from R5.out.drew hW) hk).mono ?_
        rintro e6 w6 ⟨Ai, ci, At, ct, z0, z1, z2, z3, z4, z5, z6, z7, rfl, hF, hci, hct, si, st, hb6⟩
        exact hK _ _ ⟨Ai, ci, At, _, ct, z0, z1, z2, z3, z4, z5, z6, z7, rfl, hci, si⟩ hb6 (fun _ _ _ => pairs_no (by decide) (by decide))
      · clear hd
        go_simp
        exact hK _ _ rfl (later_refl _) (fun _ _ _ => pairs_no (by decide) (by decide))
      · clear hd
        go_simp
        exact hK _ _ rfl (later_refl _) (fun _ _ _ => pairs_no (by decide) (by decide))
      · clear hd
        refine wp_load_row 24 (.tmp 9) rfl eb rfl 24 _ (0, 0) _ (KE5.out.drew.here hW) Tryz.underlying24 rfl SZE ?_
        exact hK _ _ rfl (later_refl _) (fun _ _ _ => pairs_no (by decide) (by decide))
      · obtain ⟨h0, _⟩ := hd
        rw [h0] at hK ⊢
        go_simp
        exact hK _ _ ⟨W.heap.size, _, rfl, Blk.new _ _ _⟩ (Below.alloc (Below.refl _ _) (Nat.le_refl _) _) (fun _ _ _ => pairs_no (by decide) (by decide))
      · obtain ⟨h0, h1, ⟨q, T, h2, hk⟩, _⟩ := hd
        rw [h0, h1, h2] at hK ⊢
        go_simp
        go_at_call 12
        refine (PAl.out W q T (below_from R5.out.drew hW) hk).mono ?_
        rintro e6 w6 ⟨Ai, ci, At, ct, z0, z1, z2, z3, z4, z5, z6, z7, rfl, hF, hci, hct, si, st, hb6⟩
        exact hK _ _ ⟨Ai, ci, At, _, ct, z0, z1, z2, z3, z4, z5, z6, z7, rfl, hci, si⟩ hb6 (fun _ _ _ => pairs_no (by decide) (by decide))
      · clear hd
        go_simp
        refine hK _ _ ⟨W.heap.size, rfl, hW.size, Blk.new _ _ _⟩ (Below.alloc (Below.refl _ _) (Nat.le_refl _) _) (fun j u hu => ⟨fun _ e => ?_, fun _ e => absurd e (by decide)⟩)
        subst e
        obtain ⟨b', rfl, _, hb'⟩ := hu
        have h9 := hb'.lt
        intro e2
        injection e2 with e2
        injection e2 with e2
        injection e2 with e2
        omega
      · clear hd
        go_simp
        refine hK _ _ ⟨W.heap.size, rfl, hW.size, Blk.new _ _ _⟩ (Below.alloc (Below.refl _ _) (Nat.le_refl _) _) (fun j u hu => ⟨fun e => absurd e (by decide), fun e _ => ?_⟩)
        subst e
        obtain ⟨b', rfl, _, hb'⟩ := hu
        have h9 := hb'.lt
        intro e2
        injection e2 with e2
        injection e2 with e2
        injection e2 with e2
        omega
    · intro f_ W fuel hf hW hd hp
      obtain ⟨Ai, ci, At, nt, ct, z0, z1, z2, z3, z4, z5, z6, z7, h54, _, _⟩ := hd 4 (by decide)
      obtain ⟨Ai2, ci2, At2, nt2, ct2, y0, y1, y2, y3, y4, y5, y6, y7, h59, _, _⟩ := hd 9 (by decide)
      obtain ⟨P1, h10, hP1, kp1⟩ := hd 10 (by decide)
      obtain ⟨P2, h11, hP2, kp2⟩ := hd 11 (by decide)
      replace h54 : f_ 54 = _ := h54
      replace h59 : f_ 59 = _ := h59
      replace h10 : f_ 10 = _ := h10
      replace h11 : f_ 11 = _ := h11
      have hne : P1 ≠ P2 := by
        have h := hp 10 11 (by decide) (by decide) (by decide) rfl rfl
        intro e
        apply h
        show f_ 10 = f_ 11
        rw [h10, h11, e]
      clear hd hp
      obtain ⟨Da, hDa⟩ : ∃ D, D = packS K v.toNat s [⟨sec, mark, ⟨BA, bc, bl⟩⟩] := ⟨_, rfl⟩
      obtain ⟨Db, hDb⟩ : ∃ D, D = packS K v.toNat s [⟨sec, mark, ⟨A3, c3, bl ++ [b]⟩⟩] := ⟨_, rfl⟩
      rw [← hDa] at h54
      rw [← hDb] at h59
      obtain ⟨n, rfl⟩ : ∃ n, fuel = n + 2 := ⟨fuel - 2, by have h9 : 14 - 12 ≤ fuel := hf; omega⟩
      have SZP : (Tryz.prog.info? 32).map (·.size) = some 11 := by kernel_rfl
      refine wpAny_two (by kernel_rfl) (by kernel_rfl) (by kernel_rfl) ?_
      simp only [over, List.foldl_cons, List.foldl_nil, List.setIfInBounds_toArray, List.set_cons_zero, List.set_cons_succ, h10, h11, h54, h59]
      refine wpOp_step rfl fun K' hK' => ?_
      rw [if_pos (by rfl)]
      refine wp_store_row 32 (.tmp 10) (.tmp 54) rfl P1 _ rfl rfl 32 _ kp1 SZP rfl (by simp [Value.oneCell']) ?_
      apply hK'
      refine wpOp_step rfl fun K'' hK'' => ?_
      rw [if_pos (by rfl)]
      have kr1 : Blk (W.setRow P1 #[.string Da, .slice Ai 1 ci, .slice At nt ct, .int .u8 z0, .int .u8 z1, .int .u8 z2, .int .u8 z3, .int .u8 z4, .int .u8 z5, .int .u8 z6, .int .u8 z7]) P1 32 #[.string Da, .slice Ai 1 ci, .slice At nt ct, .int .u8 z0, .int .u8 z1, .int .u8 z2, .int .u8 z3, .int .u8 z4, .int .u8 z5, .int .u8 z6, .int .u8 z7] := setRow_heap _ _ _ _ _ _ kp1
      have f1 := fr_setRow (Fr.refl [P1] W) (g := P1) (.inl (by simp)) #[.string Da, .slice Ai 1 ci, .slice At nt ct, .int .u8 z0, .int .u8 z1, .int .u8 z2, .int .u8 z3, .int .u8 z4, .int .u8 z5, .int .u8 z6, .int .u8 z7]
      refine wp_store_row 32 (.tmp 11) (.tmp 59) rfl P2 _ rfl rfl 32 _ (kp2.fr f1 (by simpa using hne.symm)) SZP rfl (by simp [Value.oneCell']) ?_
      apply hK''
      obtain ⟨wa, hwa⟩ : ∃ wa, wa = W.setRow P1 #[.string Da, .slice Ai 1 ci, .slice At nt ct, .int .u8 z0, .int .u8 z1, .int .u8 z2, .int .u8 z3, .int .u8 z4, .int .u8 z5, .int .u8 z6, .int .u8 z7] := ⟨_, rfl⟩
      rw [← hwa] at kr1 f1 ⊢
      have kr2 : Blk (wa.setRow P2 #[.string Db, .slice Ai2 1 ci2, .slice At2 nt2 ct2, .int .u8 y0, .int .u8 y1, .int .u8 y2, .int .u8 y3, .int .u8 y4, .int .u8 y5, .int .u8 y6, .int .u8 y7]) P2 32 #[.string Db, .slice Ai2 1 ci2, .slice At2 nt2 ct2, .int .u8 y0, .int .u8 y1, .int .u8 y2, .int .u8 y3, .int .u8 y4, .int .u8 y5, .int .u8 y6, .int .u8 y7] := setRow_heap _ _ _ _ _ _ (kp2.fr f1 (by simpa using hne.symm))
      have f2 := fr_setRow (Fr.refl [P2] wa) (g := P2) (.inl (by simp)) #[.string Db, .slice Ai2 1 ci2, .slice At2 nt2 ct2, .int .u8 y0, .int .u8 y1, .int .u8 y2, .int .u8 y3, .int .u8 y4, .int .u8 y5, .int .u8 y6, .int .u8 y7]
      obtain ⟨w7, hw7⟩ : ∃ w7, w7 = wa.setRow P2 #[.string Db, .slice Ai2 1 ci2, .slice At2 nt2 ct2, .int .u8 y0, .int .u8 y1, .int .u8 y2, .int .u8 y3, .int .u8 y4, .int .u8 y5, .int .u8 y6, .int .u8 y7] := ⟨_, rfl⟩
      rw [← hw7] at kr2 f2 ⊢
      have K1 := kr1.fr f2 (by simpa using hne)
      have f7 : Fr [P1, P2] W w7 := (f1.mono (by simp)).trans (f2.mono (F := [P1, P2]) (by simp)) (fun q hq => .inl hq)
      have BWW : Below w.heap.size w W := below_from (below_from B3.out R5.out).drew hW
      have B7 := Lib.hid (below_fr BWW f7 (fun q hq => by
        simp only [List.mem_cons, List.not_mem_nil, or_false] at hq
        have h9 := (below_from B3.out R5.out).size
        rcases hq with rfl | rfl <;> omega) BWW.size)
      have ke7 := (SE5.out.drew.here hW).fr f7 (by simp; omega)
      have hs := OKX.out.sec
      obtain ⟨k, rfl⟩ : ∃ k : Nat, sec = k := ⟨sec.toNat, by simp only at hs; omega⟩
      have hk : k < 10 := by simp only at hs; omega
      have PV := PP.out.ver
      obtain ⟨vn, rfl⟩ : ∃ vn : Nat, v = vn := ⟨v.toNat, by omega⟩
      have plx : ∀ y ∈ bl, y.Plain := fun y hy => PL.out y (List.mem_append_left _ hy)
      obtain ⟨T1, hT1⟩ : ∃ T, T = str (elB s mark bl) := ⟨_, rfl⟩
      obtain ⟨T2, hT2⟩ : ∃ T, T = str (elB s mark (bl ++ [b])) := ⟨_, rfl⟩
      have aX : Pk.all s [⟨(k : Int), mark, ⟨BA, bc, bl⟩⟩] k = [T1] := by rw [hT1]; exact all_none_size s ⟨(k : Int), mark, ⟨BA, bc, bl⟩⟩ OKX.out plx
      have aL : Pk.all s [⟨(k : Int), mark, ⟨A3, c3, bl ++ [b]⟩⟩] k = [T2] := by rw [hT2]; exact all_none_size s ⟨(k : Int), mark, ⟨A3, c3, bl ++ [b]⟩⟩ OKL.out PL.out
      have pX : 0 < (Pk.all s [⟨(k : Int), mark, ⟨BA, bc, bl⟩⟩] k).length := by rw [aX]; simp
      have pL : 0 < (Pk.all s [⟨(k : Int), mark, ⟨A3, c3, bl ++ [b]⟩⟩] k).length := by rw [aL]; simp
      have gX : (Pk.all s [⟨(k : Int), mark, ⟨BA, bc, bl⟩⟩] k)[0] = T1 := by simp only [aX]; rfl
      have gL : (Pk.all s [⟨(k : Int), mark, ⟨A3, c3, bl ++ [b]⟩⟩] k)[0] = T2 := by simp only [aL]; rfl
      have TX := packT (K := K) PPX.out (elems_pos _ k 0 hk pX)
      have TL := packT (K := K) PP.out (elems_pos _ k 0 hk pL)
      rw [← hDa] at TX
      rw [← hDb] at TL
      have RA := Lib.hid (fun (W' : World) (hb : Below w.heap.size w W') => show Calls Tryz.prog 19 #[.string Da, .int .i64 k, .int .i64 0] W' (RetV (.string T1) W') from by
        have h1 := rawAt_any TX (HK.out.here hb).gv k 0 hk pX
        rw [gX] at h1
        exact h1)
      have RB := Lib.hid (fun (W' : World) (hb : Below w.heap.size w W') => show Calls Tryz.prog 19 #[.string Db, .int .i64 k, .int .i64 0] W' (RetV (.string T2) W') from by
        have h1 := rawAt_any TL (HK.out.here hb).gv k 0 hk pL
        rw [gL] at h1
        exact h1)
      have bk : b.kind = kind := by rw [HB9.out]
      have more := elB_more s mark bl b (OKL.out.bits b (by simp)).kind (PL.out b (by simp)) (by rw [bk]; exact H12.out)
      rw [← hT1, ← hT2] at more
      have less : T2.size < Db.size := by
        have h9 := lt_body vn s (Pk.all s [⟨(k : Int), mark, ⟨A3, c3, bl ++ [b]⟩⟩]) _ TL.fp8 k 0 hk pL
        rw [gL] at h9
        rw [TL.eq]
        exact h9
      have m1 : (T1.size : Int) < T2.size := by have := more.1; omega
      have m2 : (T2.size : Int) < Db.size := by omega
      have m3 := more.2
      have m0 : (0 : Int) ≤ T1.size := by omega
      have k0' : (0 : Int) ≤ k := by omega
      have k1' : (k : Int) < 10 := by omega
      have s0 : w7.drew.cell? ⟨P1, 0, none⟩ = some (.string Da) := K1.cell 0
      have s1 : w7.drew.cell? ⟨P2, 0, none⟩ = some (.string Db) := kr2.cell 0
      have s2 : w7.drew.cell? ⟨w.heap.size, 0, none⟩ = some (.int .i64 k) := ke7.cell 0
      clear hDa hDb SZP hK' hK'' kr1 kr2 f1 f2 f7 hwa hw7 K1 BWW ke7 hs plx aX aL pX pL gX gL TX TL hT1 hT2 more less bk h10 h11 h54 h59 hP1 hP2 kp1 kp2 hf v0 v1 PV
      have v0 : (0 : Int) ≤ vn := by omega
      go_upto_region 7 with fail
      go_region_held3 (fun W => W.cell? ⟨P1, 0, none⟩ = some (.string Da) ∧ W.cell? ⟨P2, 0, none⟩ = some (.string Db) ∧ W.cell? ⟨w.heap.size, 0, none⟩ = some (.int .i64 k)) (first | exact ⟨s0, s1, s2⟩ | exact U8.out | exact U9.out | go_keep)
        (first
          | (go_at_call 19; refine (RB.out _ B8.out).mono ?_; rintro e9 w9 ⟨rfl, b9⟩; have B9 := Lib.hid (below_from B8.out b9); have U9 := Lib.hid (And.intro (keep_cell b9 U8.out.1) (And.intro (keep_cell b9 U8.out.2.1) (keep_cell b9 U8.out.2.2))); clear b9)
          | (go_at_call 19; refine (RA.out _ B7.out.drew).mono ?_; rintro e8 w8 ⟨rfl, b8⟩; have B8 := Lib.hid (below_from B7.out.drew b8); have U8 := Lib.hid (And.intro (keep_cell b8 s0) (And.intro (keep_cell b8 s1) (keep_cell b8 s2))); clear b8))
      all_goals
        have u1 := U9.out.2.1
        clear s0 s1 s2
        go_wp2_with fail
        go_returns
        exact ⟨rfl, B9.out⟩
end Go.Proofs.YtedjadicdodahaaGreatDoor
