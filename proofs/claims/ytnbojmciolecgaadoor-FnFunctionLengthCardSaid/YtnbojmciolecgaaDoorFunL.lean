/- The laws on what is known of a function: sizes, files, inlined calls, head. -/
import Derived.Test.YtnbojmciolecgaaDoorFunR
import Derived.Test.YtnbojmciolecgaaDoorOpen
import Derived.Test.YtnbojmciolecgaaDoorArgs
namespace Go.Proofs.YtnbojmciolecgaaDoor
open Go.RowKit

theorem slN_of {w : World} {A : Option Addr} {xs : List Nd} (h : SlR 6 w A (xs.map Nd.cells)) : SlN w A xs := fun hn => by
  obtain ⟨b, o, e, hc⟩ := h (by simpa using hn)
  exact ⟨b, o, e, fun j n hj i u hu => hc j _ (by rw [List.getElem?_map, hj]; rfl) i u hu⟩

/-- A slice of inlined calls handed in. -/
theorem Rd.nodes {H : Type} {enc : TypeId × Value → H} {w : World} {A : Option Addr} {l c : Nat} (h : Rd enc Tryd.prog w 50 [.slice A l c]) : ∃ xs : List Nd, l = xs.length ∧ SlN w A xs ∧ l ≤ maxLen ∧ ∀ z ∈ xs, z.Ok := by
  obtain ⟨xs, h1, _, h2, h3, h4⟩ := Rd.list Nd.cells Nd.Ok Tryd.underlying50 (show Tryd.prog.cellsOf 43 = 6 by kernel_rfl) (by omega) (fun cs hr => by
    obtain ⟨a, f, l, p, y, c, rfl, b0, b1, b2, b3, b4, b5⟩ := open_impl_Inlined hr
    exact ⟨⟨a, f, l, p, y, c⟩, rfl, ⟨b0, b1, b2, b3, b4, b5⟩⟩) h
  exact ⟨xs, h1, slN_of h3, h2, h4⟩

/-- A call that returns a truth value, and turns nothing that was there. -/
def RetBool (w : World) (e : Ending) (w' : World) : Prop := ∃ b, e = .returned (.bool b) ∧ Below w.heap.size w w'

section
variable (args locals id flag line : Int) (FA TA : Option Addr) (nf nt fc tc : Nat) (w : World)
theorem zz15_any : Calls Tryd.prog 27 #[funVal args locals id flag line (.slice FA nf fc) (.slice TA nt tc)] w (RetBool w) := by
  unfold funVal
  go_enter Tryd.func27, Tryd.ntmps27
  go_wp2_with fail
  all_goals (go_returns; exact ⟨_, rfl, by (repeat' (first | (with_reducible exact Below.refl _ _) | (with_reducible assumption) | (with_reducible refine below_drewN ?_ _) | (with_reducible refine Below.alloc ?_ ?_ _) | (with_reducible refine Below.drew ?_) | (with_reducible refine Below.setCell ?_ ?_ _) | go_size))⟩)
theorem zz15_yes (h1 : nf ≤ 50) (h2 : nt ≤ 50) : Calls Tryd.prog 27 #[funVal args locals id flag line (.slice FA nf fc) (.slice TA nt tc)] w (RetV (.bool true) w) := by
  unfold funVal
  have i1 : (nf : Int) ≤ 50 := by omega
  have i2 : (nt : Int) ≤ 50 := by omega
  go_enter Tryd.func27, Tryd.ntmps27
  go_wp2_with fail
  go_returns
  exact ⟨rfl, by (repeat' (first | (with_reducible exact Below.refl _ _) | (with_reducible assumption) | (with_reducible refine below_drewN ?_ _) | (with_reducible refine Below.alloc ?_ ?_ _) | (with_reducible refine Below.drew ?_) | (with_reducible refine Below.setCell ?_ ?_ _) | go_size))⟩
theorem functionOk_yes (h1 : nf ≤ 50) (h2 : nt ≤ 50) : Calls Tryd.prog 28 #[funVal args locals id flag line (.slice FA nf fc) (.slice TA nt tc)] w (RetV (.bool true) w) := by
  unfold funVal
  have i1 : (nf : Int) ≤ 50 := by omega
  have i2 : (nt : Int) ≤ 50 := by omega
  go_enter Tryd.func28, Tryd.ntmps28
  go_wp2_with fail
  go_returns
  exact ⟨by simp, by (repeat' (first | (with_reducible exact Below.refl _ _) | (with_reducible assumption) | (with_reducible refine below_drewN ?_ _) | (with_reducible refine Below.alloc ?_ ?_ _) | (with_reducible refine Below.drew ?_) | (with_reducible refine Below.setCell ?_ ?_ _) | go_size))⟩
theorem functionOk_no (h : ¬ (nf ≤ 50 ∧ nt ≤ 50)) : Calls Tryd.prog 28 #[funVal args locals id flag line (.slice FA nf fc) (.slice TA nt tc)] w (RetV (.bool false) w) := by
  unfold funVal
  by_cases h1 : nf ≤ 50
  · have i1 : (nf : Int) ≤ 50 := by omega
    have i2 : (50 : Int) < (nt : Int) := by omega
    go_enter Tryd.func28, Tryd.ntmps28
    go_wp2_with fail
    go_returns
    exact ⟨by simp; omega, by (repeat' (first | (with_reducible exact Below.refl _ _) | (with_reducible assumption) | (with_reducible refine below_drewN ?_ _) | (with_reducible refine Below.alloc ?_ ?_ _) | (with_reducible refine Below.drew ?_) | (with_reducible refine Below.setCell ?_ ?_ _) | go_size))⟩
  · have i2 : (50 : Int) < (nf : Int) := by omega
    go_enter Tryd.func28, Tryd.ntmps28
    go_wp2_with fail
    go_returns
    exact ⟨by simp, by (repeat' (first | (with_reducible exact Below.refl _ _) | (with_reducible assumption) | (with_reducible refine below_drewN ?_ _) | (with_reducible refine Below.alloc ?_ ?_ _) | (with_reducible refine Below.drew ?_) | (with_reducible refine Below.setCell ?_ ?_ _) | go_size))⟩
end

/-- The box of a function handed in. -/
abbrev funBox (args locals id flag line : Int) (F T : Value) : Obj := .cells (funCells args locals id flag line F T) 52

/-- A function handed in: its two slices. -/
theorem Rd.funs {H : Type} {enc : TypeId × Value → H} {w : World} {F T : Value} (h5 : Rd enc Tryd.prog w 49 [F]) (h6 : Rd enc Tryd.prog w 50 [T]) :
    ∃ (files : List Int) (tree : List Nd) (FA TA : Option Addr) (fc tc : Nat), F = .slice FA files.length fc ∧ T = .slice TA tree.length tc ∧ SlI .u32 w FA files ∧ SlN w TA tree ∧ (∀ z ∈ files, 0 ≤ z ∧ z < 4294967296) ∧ (∀ z ∈ tree, z.Ok) ∧ files.length ≤ maxLen ∧ tree.length ≤ maxLen := by
  obtain ⟨FA, nf, fc, rfl⟩ := Rd.sl Tryd.underlying49 h5
  obtain ⟨TA, nt, tc, rfl⟩ := Rd.sl Tryd.underlying50 h6
  obtain ⟨files, rfl, hf, _, bf, mf⟩ := Rd.ints Tryd.underlying49 Tryd.underlying22 (by kernel_rfl) h5
  obtain ⟨tree, rfl, ht, mt, bt⟩ := Rd.nodes h6
  exact ⟨files, tree, FA, TA, fc, tc, rfl, rfl, hf, ht, fun z hz => bd_u32 (bf z hz), bt, mf, mt⟩

set_option maxRecDepth 100000 in
set_option maxHeartbeats 400000 in
theorem fnFunctionSizes_walk (args locals id flag line : Int) (files : List Int) (tree : List Nd) (FA TA : Option Addr) (fc tc : Nat) (w : World) (sf : SlI .u32 w FA files) (st : SlN w TA tree)
    (bnd : ∀ z ∈ files, 0 ≤ z ∧ z < 4294967296) (bt : ∀ z ∈ tree, z.Ok) (a0 : 0 ≤ args ∧ args < 4294967296) (l0 : 0 ≤ locals ∧ locals < 4294967296) (hfm : files.length ≤ maxLen) (htm : tree.length ≤ maxLen) :
    Calls Tryd.prog 11 #[funVal args locals id flag line (.slice FA files.length fc) (.slice TA tree.length tc)] w (LawEnd w) := by
  have P0 := Blk.new w 52 (funCells args locals id flag line (.slice FA files.length fc) (.slice TA tree.length tc))
  have hbw : Below w.heap.size w (w.alloc (funBox args locals id flag line (.slice FA files.length fc) (.slice TA tree.length tc))) := by (repeat' (first | (with_reducible exact Below.refl _ _) | (with_reducible assumption) | (with_reducible refine below_drewN ?_ _) | (with_reducible refine Below.alloc ?_ ?_ _) | (with_reducible refine Below.drew ?_) | (with_reducible refine Below.setCell ?_ ?_ _) | go_size))
  unfold maxLen at hfm htm
  by_cases hn : files.length ≤ 50 ∧ tree.length ≤ 50
  · obtain ⟨h1, h2⟩ := hn
    have i1 : (files.length : Int) ≤ 50 := by omega
    have i2 : (tree.length : Int) ≤ 50 := by omega
    have SF := Lib.hid (sf.here hbw)
    have ST := Lib.hid (st.here hbw)
    have HP := Lib.hid P0
    have HB := Lib.hid hbw
    clear sf st P0 hbw
    unfold funVal
    go_enter Tryd.func11, Tryd.ntmps11
    go_wp2_with fail
    refine (zz15_yes args locals id flag line FA TA _ _ fc tc _ h1 h2).mono ?_
    rintro e w1 ⟨rfl, hb1⟩
    have p1 := HP.out.here hb1
    have P1 := Lib.hid p1
    have B1 := Lib.hid (below_from HB.out hb1)
    have SF1 := Lib.hid (SF.out.here hb1)
    have ST1 := Lib.hid (ST.out.here hb1)
    have pc := p1.cell
    clear p1 hb1 HP HB SF ST
    go_wp2_with fail
    refine (functionOk_yes args locals id flag line FA TA _ _ fc tc _ h1 h2).mono ?_
    rintro e w2 ⟨rfl, hb2⟩
    have p2 := P1.out.here hb2
    have P2 := Lib.hid p2
    have B2 := Lib.hid (below_from B1.out hb2)
    have SF2 := Lib.hid (SF1.out.here hb2)
    have ST2 := Lib.hid (ST1.out.here hb2)
    clear pc
    have pc := p2.cell
    clear p2 hb2 P1 B1 SF1 ST1
    go_wp2_with fail
    refine (functionBytes_any args locals id flag line files tree FA TA fc tc _ SF2.out ST2.out (by omega) (by omega) bnd bt a0.1 a0.2 l0.1 l0.2).mono ?_
    rintro e w3 ⟨A3, c3, rfl, s3, k3, hb3⟩
    obtain ⟨g, o, rfl, at3⟩ := s3.at_ (by rw [funBytes_length]; omega)
    have p3 := P2.out.here hb3
    have P3 := Lib.hid p3
    have B3 := Lib.hid (below_from B2.out hb3)
    have L := Lib.hid (functionSizes_any (n := (funBytes args locals id flag line files tree).length) (c := c3) files.length tree.length at3 (at3.lt (by rw [funBytes_length]; omega)) (by rw [funBytes_length]; omega) k3 (has_nf _ _ _ _ _ _ _) (has_nt _ _ _ _ _ _ _) (by omega) (by omega))
    clear pc p3 hb3 P2 B2 SF2 ST2 s3 at3 k3
    go_wp2_with fail
    refine L.out.mono ?_
    rintro e w4 ⟨rfl, hb4⟩
    have p4 := P3.out.here hb4
    have B4 := Lib.hid (below_from B3.out hb4)
    have pc := p4.cell
    clear p4 hb4 P3 B3 L
    go_wp2_with fail
    go_returns
    exact ⟨by simp, B4.out⟩
  · have HP := Lib.hid P0
    have HB := Lib.hid hbw
    clear sf st P0 hbw
    unfold funVal
    go_enter Tryd.func11, Tryd.ntmps11
    go_wp2_with fail
    refine (zz15_any args locals id flag line FA TA _ _ fc tc _).mono ?_
    rintro e w1 ⟨b, rfl, hb1⟩
    have p1 := HP.out.here hb1
    have P1 := Lib.hid p1
    have B1 := Lib.hid (below_from HB.out hb1)
    have pc := p1.cell
    clear p1 hb1 HP HB
    cases b
    · go_wp2_with fail
      go_returns
      exact ⟨rfl, B1.out⟩
    · go_wp2_with fail
      refine (functionOk_no args locals id flag line FA TA _ _ fc tc _ hn).mono ?_
      rintro e w2 ⟨rfl, hb2⟩
      have B2 := Lib.hid (below_from B1.out hb2)
      clear pc
      go_wp2_with fail
      go_returns
      exact ⟨rfl, B2.out⟩
theorem fnFunctionSizes_any {H : Type} {enc : TypeId × Value → H} (args locals id flag line : Int) (F T : Value) (w : World) (b0 : 0 ≤ args ∧ args < 4294967296) (b1 : 0 ≤ locals ∧ locals < 4294967296) (_ : 0 ≤ id ∧ id < 256) (_ : 0 ≤ flag ∧ flag < 256) (_ : -2147483648 ≤ line ∧ line < 2147483648)
    (h5 : Rd enc Tryd.prog w 49 [F]) (h6 : Rd enc Tryd.prog w 50 [T]) : Calls Tryd.prog 11 #[funVal args locals id flag line F T] w (LawEnd w) := by
  obtain ⟨files, tree, FA, TA, fc, tc, rfl, rfl, hf, ht, bf, bt, mf, mt⟩ := Rd.funs h5 h6
  exact fnFunctionSizes_walk args locals id flag line files tree FA TA fc tc w hf ht bf bt b0 b1 mf mt
end Go.Proofs.YtnbojmciolecgaaDoor
