/- The law on what is known of a function: its head, read also where more follows. -/
import Derived.Test.YtnbojmciolecgaaDoorFunL
namespace Go.Proofs.YtnbojmciolecgaaDoor
open Go.RowKit

set_option maxRecDepth 100000 in
set_option maxHeartbeats 400000 in
theorem fnFunctionHead_walk (args locals id flag line : Int) (files : List Int) (tree : List Nd) (FA TA : Option Addr) (fc tc : Nat) (w : World) (sf : SlI .u32 w FA files) (st : SlN w TA tree)
    (bnd : ∀ z ∈ files, 0 ≤ z ∧ z < 4294967296) (bt : ∀ z ∈ tree, z.Ok) (a0 : 0 ≤ args ∧ args < 4294967296) (l0 : 0 ≤ locals ∧ locals < 4294967296) (hfm : files.length ≤ maxLen) (htm : tree.length ≤ maxLen) (n0 : -2147483648 ≤ line ∧ line < 2147483648)
    (RA : Option Addr) (rc : Nat) (rest : List Int) (sr : SlI .u8 w RA rest) (rk : rest.length ≤ rc) :
    Calls Tryd.prog 8 #[funVal args locals id flag line (.slice FA files.length fc) (.slice TA tree.length tc), .slice RA rest.length rc] w (LawEnd w) := by
  have P0 := Blk.new w 52 (funCells args locals id flag line (.slice FA files.length fc) (.slice TA tree.length tc))
  have hbw : Below w.heap.size w (w.alloc (funBox args locals id flag line (.slice FA files.length fc) (.slice TA tree.length tc))) := by (repeat' (first | (with_reducible exact Below.refl _ _) | (with_reducible assumption) | (with_reducible refine below_drewN ?_ _) | (with_reducible refine Below.alloc ?_ ?_ _) | (with_reducible refine Below.drew ?_) | (with_reducible refine Below.setCell ?_ ?_ _) | go_size))
  unfold maxLen at hfm htm
  by_cases hn : files.length ≤ 50 ∧ tree.length ≤ 50 ∧ rest.length ≤ 200
  · obtain ⟨h1, h2, h3⟩ := hn
    have i3 : (rest.length : Int) ≤ 200 := by omega
    have SR := Lib.hid (sr.here hbw)
    have i1 : (files.length : Int) ≤ 50 := by omega
    have i2 : (tree.length : Int) ≤ 50 := by omega
    have SF := Lib.hid (sf.here hbw)
    have ST := Lib.hid (st.here hbw)
    have HP := Lib.hid P0
    have HB := Lib.hid hbw
    clear sf st sr P0 hbw
    unfold funVal
    go_enter Tryd.func8, Tryd.ntmps8
    go_wp2_with fail
    refine (zz15_yes args locals id flag line FA TA _ _ fc tc _ h1 h2).mono ?_
    rintro e w1 ⟨rfl, hb1⟩
    have p1 := HP.out.here hb1
    have P1 := Lib.hid p1
    have B1 := Lib.hid (below_from HB.out hb1)
    have SF1 := Lib.hid (SF.out.here hb1)
    have ST1 := Lib.hid (ST.out.here hb1)
    have SR1 := Lib.hid (SR.out.here hb1)
    have pc := p1.cell
    clear p1 hb1 HP HB SF ST
    go_wp2_with fail
    refine (functionOk_yes args locals id flag line FA TA _ _ fc tc _ h1 h2).mono ?_
    rintro e w2 ⟨rfl, hb2⟩
    have p2 := P1.out.here hb2
    have P2 := Lib.hid p2
    have B2 := Lib.hid (below_from B1.out hb2)
    have SF2 := Lib.hid (SF1.out.here hb2)
    have ST2 := Lib.hid (ST1.out.here hb2)
    have SR2 := Lib.hid (SR1.out.here hb2)
    clear pc
    have pc := p2.cell
    clear p2 hb2 P1 B1 SF1 ST1
    go_wp2_with fail
    refine (functionBytes_any args locals id flag line files tree FA TA fc tc _ SF2.out ST2.out (by omega) (by omega) bnd bt a0.1 a0.2 l0.1 l0.2).mono ?_
    rintro e w3 ⟨A3, c3, rfl, s3, k3, hb3⟩
    have p3 := P2.out.here hb3
    have P3 := Lib.hid p3
    have B3 := Lib.hid (below_from B2.out hb3)
    have SR3 := Lib.hid (SR2.out.here hb3)
    have S3 := Lib.hid s3
    have LN := Lib.hid (funBytes_length args locals id flag line files tree)
    clear pc p3 hb3 P2 B2 SF2 ST2 SR2 s3
    go_wp2_with fail
    refine (joined_B _ _ [funBytes args locals id flag line files tree, rest] _ (by have h := slS_new w3 29 [(A3, c3, funBytes args locals id flag line files tree), (RA, rc, rest)] (by simp only [List.forall_mem_cons]; exact ⟨⟨S3.out, k3⟩, ⟨SR3.out, rk⟩, by simp⟩); exact h) (by simp) (by have := LN.out; simp; omega)).mono ?_
    rintro e w4 ⟨A4, c4, rfl, s4, k4, hb4⟩
    have hf : [funBytes args locals id flag line files tree, rest].flatten = funBytes args locals id flag line files tree ++ rest := by simp
    rw [hf] at s4 k4 ⊢
    have hb34 := below_from (later_alloc w3 _) hb4
    obtain ⟨g, o, rfl, at4⟩ := s4.at_ (by rw [List.length_append, LN.out]; omega)
    have P4 := Lib.hid (P3.out.here hb34)
    have B4 := Lib.hid (below_from B3.out hb34)
    have L := Lib.hid (fun n (hn : n = (funBytes args locals id flag line files tree).length + rest.length) => functionHead_any (n := n) (c := c4) args locals id flag line at4 (by rw [hn, LN.out]; omega) (by rw [List.length_append] at k4; omega) ((has_args args locals id flag line files tree).more rest) ((has_locals args locals id flag line files tree).more rest) ((has_ids args locals id flag line files tree).more rest) ((has_line args locals id flag line files tree).more rest) a0.1 a0.2 l0.1 l0.2 n0.1 n0.2)
    clear hf s4 k4 hb4 hb34 at4 P3 B3 S3 SR3 k3
    go_wp2_with fail
    refine (L.out _ (by first | rfl | simp)).mono ?_
    rintro e w5 ⟨rfl, hb5⟩
    have p5 := P4.out.here hb5
    have pc := p5.cell
    have zl := p5.lt
    have B5 := Lib.hid (below_from B4.out hb5)
    clear p5 hb5 P4 B4 L
    go_wp2_with fail
    have hB := B5.out
    have hz := hB.size
    go_returns
    exact ⟨by simp, by (repeat' (first | (with_reducible exact Below.refl _ _) | (with_reducible assumption) | (with_reducible refine below_drewN ?_ _) | (with_reducible refine Below.alloc ?_ ?_ _) | (with_reducible refine Below.drew ?_) | (with_reducible refine Below.setCell ?_ ?_ _) | go_size))⟩
  · have HP := Lib.hid P0
    have HB := Lib.hid hbw
    clear sf st sr P0 hbw
    have r0 : (0 : Int) ≤ rest.length := by omega
    unfold funVal
    go_enter Tryd.func8, Tryd.ntmps8
    go_wp2_with fail
    refine (zz15_any args locals id flag line FA TA _ _ fc tc _).mono ?_
    rintro e w1 ⟨b, rfl, hb1⟩
    have p1 := HP.out.here hb1
    have P1 := Lib.hid p1
    have B1 := Lib.hid (below_from HB.out hb1)
    have pc := p1.cell
    clear p1 hb1 HP HB
    cases b
    · go_wp2_with fail
      go_returns
      exact ⟨rfl, B1.out⟩
    · by_cases hz : rest.length ≤ 2147483647
      · have iz : (rest.length : Int) ≤ 2147483647 := by omega
        go_wp2_with fail
        by_cases hn2 : files.length ≤ 50 ∧ tree.length ≤ 50
        · have i3 : (200 : Int) < rest.length := by omega
          refine (functionOk_yes args locals id flag line FA TA _ _ fc tc _ hn2.1 hn2.2).mono ?_
          rintro e w2 ⟨rfl, hb2⟩
          have B2 := Lib.hid (below_from B1.out hb2)
          clear pc
          go_wp2_with fail
          go_returns
          exact ⟨rfl, B2.out⟩
        · refine (functionOk_no args locals id flag line FA TA _ _ fc tc _ hn2).mono ?_
          rintro e w2 ⟨rfl, hb2⟩
          have B2 := Lib.hid (below_from B1.out hb2)
          clear pc
          go_wp2_with fail
          go_returns
          exact ⟨rfl, B2.out⟩
      · have iz : (2147483647 : Int) < rest.length := by omega
        go_wp2_with fail
        go_returns
        exact ⟨rfl, B1.out⟩
theorem fnFunctionHead_any {H : Type} {enc : TypeId × Value → H} (args locals id flag line : Int) (F T : Value) (RA : Option Addr) (rl rc : Nat) (w : World) (b0 : 0 ≤ args ∧ args < 4294967296) (b1 : 0 ≤ locals ∧ locals < 4294967296) (_ : 0 ≤ id ∧ id < 256) (_ : 0 ≤ flag ∧ flag < 256) (b4 : -2147483648 ≤ line ∧ line < 2147483648)
    (h5 : Rd enc Tryd.prog w 49 [F]) (h6 : Rd enc Tryd.prog w 50 [T]) (h7 : Rd enc Tryd.prog w 29 [.slice RA rl rc]) : Calls Tryd.prog 8 #[funVal args locals id flag line F T, .slice RA rl rc] w (LawEnd w) := by
  obtain ⟨files, tree, FA, TA, fc, tc, rfl, rfl, hf, ht, bf, bt, mf, mt⟩ := Rd.funs h5 h6
  obtain ⟨rest, rfl, hr, hc, _⟩ := Rd.ints Tryd.underlying29 Tryd.underlying5 (by kernel_rfl) h7
  exact fnFunctionHead_walk args locals id flag line files tree FA TA fc tc w hf ht bf bt b0 b1 mf mt b4 RA rc rest hr hc
end Go.Proofs.YtnbojmciolecgaaDoor
