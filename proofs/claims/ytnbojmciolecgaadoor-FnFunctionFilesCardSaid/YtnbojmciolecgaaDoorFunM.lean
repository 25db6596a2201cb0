/- The laws on what is known of a function: files, inlined calls. -/
import Derived.Test.YtnbojmciolecgaaDoorFunL
namespace Go.Proofs.YtnbojmciolecgaaDoor
open Go.RowKit

set_option maxRecDepth 100000 in
set_option maxHeartbeats 400000 in
theorem fnFunctionFiles_walk (args locals id flag line : Int) (files : List Int) (tree : List Nd) (FA TA : Option Addr) (fc tc : Nat) (w : World) (sf : SlI .u32 w FA files) (st : SlN w TA tree)
    (bnd : ∀ z ∈ files, 0 ≤ z ∧ z < 4294967296) (bt : ∀ z ∈ tree, z.Ok) (a0 : 0 ≤ args ∧ args < 4294967296) (l0 : 0 ≤ locals ∧ locals < 4294967296) (hfm : files.length ≤ maxLen) (htm : tree.length ≤ maxLen) :
    Calls Tryd.prog 12 #[funVal args locals id flag line (.slice FA files.length fc) (.slice TA tree.length tc)] w (LawEnd w) := by
  have P0 := Blk.new w 52 (funCells args locals id flag line (.slice FA files.length fc) (.slice TA tree.length tc))
  have hbw : Below w.heap.size w (w.alloc (funBox args locals id flag line (.slice FA files.length fc) (.slice TA tree.length tc))) := by (repeat' (first | (with_reducible exact Below.refl _ _) | (with_reducible assumption) | (with_reducible refine below_drewN ?_ _) | (with_reducible refine Below.alloc ?_ ?_ _) | (with_reducible refine Below.drew ?_) | (with_reducible refine Below.setCell ?_ ?_ _) | go_size))
  unfold maxLen at hfm htm
  by_cases hn : files.length ≤ 50 ∧ tree.length ≤ 50
  · obtain ⟨h1, h2⟩ := hn
    have i1 : (files.length : Int) ≤ 50 := by omega
    have i2 : (tree.length : Int) ≤ 50 := by omega
    have SF := Lib.hid (sf.here hbw)
    have ST := Lib.hid (st.here hbw)
    have HP := Lib.hid P0
    have HB := Lib.hid hbw
    clear sf st P0 hbw
    unfold funVal
    go_enter Tryd.func12, Tryd.ntmps12
    go_wp2_with fail
    refine (zz15_yes args locals id flag line FA TA _ _ fc tc _ h1 h2).mono ?_
    rintro e w1 ⟨rfl, hb1⟩
    have p1 := HP.out.here hb1
    have P1 := Lib.hid p1
    have B1 := Lib.hid (below_from HB.out hb1)
    have SF1 := Lib.hid (SF.out.here hb1)
    have ST1 := Lib.hid (ST.out.here hb1)
    have pc := p1.cell
    clear p1 hb1 HP HB SF ST
    go_wp2_with fail
    refine (functionOk_yes args locals id flag line FA TA _ _ fc tc _ h1 h2).mono ?_
    rintro e w2 ⟨rfl, hb2⟩
    have p2 := P1.out.here hb2
    have P2 := Lib.hid p2
    have B2 := Lib.hid (below_from B1.out hb2)
    have SF2 := Lib.hid (SF1.out.here hb2)
    have ST2 := Lib.hid (ST1.out.here hb2)
    clear pc
    have pc := p2.cell
    clear p2 hb2 P1 B1 SF1 ST1
    go_wp2_with fail
    refine (functionBytes_any args locals id flag line files tree FA TA fc tc _ SF2.out ST2.out (by omega) (by omega) bnd bt a0.1 a0.2 l0.1 l0.2).mono ?_
    rintro e w3 ⟨A3, c3, rfl, s3, k3, hb3⟩
    obtain ⟨g, o, rfl, at3⟩ := s3.at_ (by rw [funBytes_length]; omega)
    have p3 := P2.out.here hb3
    have P3 := Lib.hid p3
    have B3 := Lib.hid (below_from B2.out hb3)
    have A3' := Lib.hid at3
    have gl := at3.lt (by rw [funBytes_length]; omega)
    have K3 := Lib.hid k3
    have LN := Lib.hid (funBytes_length args locals id flag line files tree)
    have pc3 := p3.cell
    have j0 : (0 : Int) < (funBytes args locals id flag line files tree).length := by rw [funBytes_length]; omega
    have SF3 := Lib.hid (SF2.out.here hb3)
    have i0 : (0 : Int) ≤ files.length := by omega
    clear pc p3 hb3 P2 B2 SF2 ST2 s3 at3 k3
    go_wp2_with fail
    clear pc3
    go_loopw [4, 5, 17] (fun _ _ i wr => ∃ k : Nat, k ≤ files.length ∧ i = .int .i64 k ∧ Below w3.heap.size w3 wr) (fun _ _ i _ => files.length - (intOf i).toNat)
    case atStart => exact ⟨0, by omega, rfl, Below.refl _ _⟩
    case round =>
      obtain ⟨k, hk, rfl, hb⟩ := hrel
      have HBk := Lib.hid hb
      by_cases hlt : k < files.length
      · obtain ⟨fb, fo, rfl, hc⟩ := SF3.out (by omega)
        have c0 := keep_cell hb (hc k files[k] (by simp [hlt]))
        have bx := bnd files[k] (List.getElem_mem hlt)
        have HK := has_file args locals id flag line files tree k hlt
        have L := Lib.hid (functionFile_any (n := (funBytes args locals id flag line files tree).length) (c := c3) files.length tree.length k files[k] (A3'.out.here hb) (Nat.lt_of_lt_of_le gl hb.size) (by rw [LN.out]; omega) K3.out (has_nf _ _ _ _ _ _ _) (has_nt _ _ _ _ _ _ _) (by omega) (by omega) HK bx.1 bx.2 hlt)
        have i3 : (k : Int) < 50 := by omega
        have i4 : (0 : Int) ≤ (k : Int) := by omega
        clear hc hb HK
        generalize files[k] = x at *
        go_wp2_with fail
        refine L.out.mono ?_
        rintro e w4 ⟨rfl, hb4⟩
        go_wp2_with fail
        go_roundw
        case rel => exact ⟨k + 1, by omega, by go_num, HBk.out.trans (hb4.mono HBk.out.size)⟩
        case measure => simp [intOf]; omega
      · obtain rfl : k = files.length := by omega
        clear hb
        go_wp2_with fail
        go_returns
        exact ⟨by simp; omega, B3.out.trans (HBk.out.mono B3.out.size)⟩
  · have HP := Lib.hid P0
    have HB := Lib.hid hbw
    clear sf st P0 hbw
    unfold funVal
    go_enter Tryd.func12, Tryd.ntmps12
    go_wp2_with fail
    refine (zz15_any args locals id flag line FA TA _ _ fc tc _).mono ?_
    rintro e w1 ⟨b, rfl, hb1⟩
    have p1 := HP.out.here hb1
    have P1 := Lib.hid p1
    have B1 := Lib.hid (below_from HB.out hb1)
    have pc := p1.cell
    clear p1 hb1 HP HB
    cases b
    · go_wp2_with fail
      go_returns
      exact ⟨rfl, B1.out⟩
    · go_wp2_with fail
      refine (functionOk_no args locals id flag line FA TA _ _ fc tc _ hn).mono ?_
      rintro e w2 ⟨rfl, hb2⟩
      have B2 := Lib.hid (below_from B1.out hb2)
      clear pc
      go_wp2_with fail
      go_returns
      exact ⟨rfl, B2.out⟩
theorem fnFunctionFiles_any {H : Type} {enc : TypeId × Value → H} (args locals id flag line : Int) (F T : Value) (w : World) (b0 : 0 ≤ args ∧ args < 4294967296) (b1 : 0 ≤ locals ∧ locals < 4294967296) (_ : 0 ≤ id ∧ id < 256) (_ : 0 ≤ flag ∧ flag < 256) (_ : -2147483648 ≤ line ∧ line < 2147483648)
    (h5 : Rd enc Tryd.prog w 49 [F]) (h6 : Rd enc Tryd.prog w 50 [T]) : Calls Tryd.prog 12 #[funVal args locals id flag line F T] w (LawEnd w) := by
  obtain ⟨files, tree, FA, TA, fc, tc, rfl, rfl, hf, ht, bf, bt, mf, mt⟩ := Rd.funs h5 h6
  exact fnFunctionFiles_walk args locals id flag line files tree FA TA fc tc w hf ht bf bt b0 b1 mf mt
set_option maxRecDepth 100000 in
set_option maxHeartbeats 400000 in
theorem fnFunctionInlined_walk (args locals id flag line : Int) (files : List Int) (tree : List Nd) (FA TA : Option Addr) (fc tc : Nat) (w : World) (sf : SlI .u32 w FA files) (st : SlN w TA tree)
    (bnd : ∀ z ∈ files, 0 ≤ z ∧ z < 4294967296) (bt : ∀ z ∈ tree, z.Ok) (a0 : 0 ≤ args ∧ args < 4294967296) (l0 : 0 ≤ locals ∧ locals < 4294967296) (hfm : files.length ≤ maxLen) (htm : tree.length ≤ maxLen) :
    Calls Tryd.prog 13 #[funVal args locals id flag line (.slice FA files.length fc) (.slice TA tree.length tc)] w (LawEnd w) := by
  have P0 := Blk.new w 52 (funCells args locals id flag line (.slice FA files.length fc) (.slice TA tree.length tc))
  have hbw : Below w.heap.size w (w.alloc (funBox args locals id flag line (.slice FA files.length fc) (.slice TA tree.length tc))) := by (repeat' (first | (with_reducible exact Below.refl _ _) | (with_reducible assumption) | (with_reducible refine below_drewN ?_ _) | (with_reducible refine Below.alloc ?_ ?_ _) | (with_reducible refine Below.drew ?_) | (with_reducible refine Below.setCell ?_ ?_ _) | go_size))
  unfold maxLen at hfm htm
  by_cases hn : files.length ≤ 50 ∧ tree.length ≤ 50
  · obtain ⟨h1, h2⟩ := hn
    have i1 : (files.length : Int) ≤ 50 := by omega
    have i2 : (tree.length : Int) ≤ 50 := by omega
    have SF := Lib.hid (sf.here hbw)
    have ST := Lib.hid (st.here hbw)
    have HP := Lib.hid P0
    have HB := Lib.hid hbw
    clear sf st P0 hbw
    unfold funVal
    go_enter Tryd.func13, Tryd.ntmps13
    go_wp2_with fail
    refine (zz15_yes args locals id flag line FA TA _ _ fc tc _ h1 h2).mono ?_
    rintro e w1 ⟨rfl, hb1⟩
    have p1 := HP.out.here hb1
    have P1 := Lib.hid p1
    have B1 := Lib.hid (below_from HB.out hb1)
    have SF1 := Lib.hid (SF.out.here hb1)
    have ST1 := Lib.hid (ST.out.here hb1)
    have pc := p1.cell
    clear p1 hb1 HP HB SF ST
    go_wp2_with fail
    refine (functionOk_yes args locals id flag line FA TA _ _ fc tc _ h1 h2).mono ?_
    rintro e w2 ⟨rfl, hb2⟩
    have p2 := P1.out.here hb2
    have P2 := Lib.hid p2
    have B2 := Lib.hid (below_from B1.out hb2)
    have SF2 := Lib.hid (SF1.out.here hb2)
    have ST2 := Lib.hid (ST1.out.here hb2)
    clear pc
    have pc := p2.cell
    clear p2 hb2 P1 B1 SF1 ST1
    go_wp2_with fail
    refine (functionBytes_any args locals id flag line files tree FA TA fc tc _ SF2.out ST2.out (by omega) (by omega) bnd bt a0.1 a0.2 l0.1 l0.2).mono ?_
    rintro e w3 ⟨A3, c3, rfl, s3, k3, hb3⟩
    obtain ⟨g, o, rfl, at3⟩ := s3.at_ (by rw [funBytes_length]; omega)
    have p3 := P2.out.here hb3
    have P3 := Lib.hid p3
    have B3 := Lib.hid (below_from B2.out hb3)
    have A3' := Lib.hid at3
    have gl := at3.lt (by rw [funBytes_length]; omega)
    have K3 := Lib.hid k3
    have LN := Lib.hid (funBytes_length args locals id flag line files tree)
    have pc3 := p3.cell
    have j0 : (0 : Int) < (funBytes args locals id flag line files tree).length := by rw [funBytes_length]; omega
    have ST3 := Lib.hid (ST2.out.here hb3)
    have i0 : (0 : Int) ≤ tree.length := by omega
    clear pc p3 hb3 P2 B2 SF2 ST2 s3 at3 k3
    go_wp2_with fail
    clear pc3
    go_loopw [4, 5, 17] (fun _ _ i wr => ∃ k : Nat, k ≤ tree.length ∧ i = .int .i64 k ∧ Below w3.heap.size w3 wr) (fun _ _ i _ => tree.length - (intOf i).toNat)
    case atStart => exact ⟨0, by omega, rfl, Below.refl _ _⟩
    case round =>
      obtain ⟨k, hk, rfl, hb⟩ := hrel
      have HBk := Lib.hid hb
      by_cases hlt : k < tree.length
      · obtain ⟨fb, fo, rfl, hc⟩ := ST3.out (by omega)
        have hk' : tree[k]? = some tree[k] := by simp [hlt]
        have q0 := keep_cell hb (hc k tree[k] hk' 0 _ rfl)
        have q1 := keep_cell hb (hc k tree[k] hk' 1 _ rfl)
        have q2 := keep_cell hb (hc k tree[k] hk' 2 _ rfl)
        have q3 := keep_cell hb (hc k tree[k] hk' 3 _ rfl)
        have q4 := keep_cell hb (hc k tree[k] hk' 4 _ rfl)
        have q5 := keep_cell hb (hc k tree[k] hk' 5 _ rfl)
        rw [Nat.add_zero] at q0
        have bx := bt tree[k] (List.getElem_mem hlt)
        have HK := has_node args locals id flag line files tree k hlt
        rw [Nat.mul_comm 24 k] at HK
        generalize tree[k] = x at *
        have hbn : Below wr.heap.size wr (wr.alloc (.cells (nodeCells x.a x.f x.l x.p x.y x.c) 43)) := by (repeat' (first | (with_reducible exact Below.refl _ _) | (with_reducible assumption) | (with_reducible refine below_drewN ?_ _) | (with_reducible refine Below.alloc ?_ ?_ _) | (with_reducible refine Below.drew ?_) | (with_reducible refine Below.setCell ?_ ?_ _) | go_size))
        have nb := Blk.new wr 43 (nodeCells x.a x.f x.l x.p x.y x.c)
        have NB := Lib.hid nb
        have n0 := nb.cell 0
        have n1 := nb.cell 1
        have n2 := nb.cell 2
        have n3 := nb.cell 3
        have n4 := nb.cell 4
        have n5 := nb.cell 5
        have HBn := Lib.hid hbn
        have L := Lib.hid (functionInlined_any (n := (funBytes args locals id flag line files tree).length) (c := c3) files.length tree.length k x ((A3'.out.here hb).here hbn).drew (by have := hb.size; have := hbn.size; show g < (wr.alloc _).heap.size; omega) rfl (by rw [LN.out]; omega) K3.out (has_nf _ _ _ _ _ _ _) (has_nt _ _ _ _ _ _ _) (by omega) (by omega) HK bx hlt)
        have i3 : (k : Int) < 50 := by omega
        have i4 : (0 : Int) ≤ (k : Int) := by omega
        have wk : IntKind.u32.wrap (k : Int) = (k : Int) := by rw [IntKind.wrap_u32]; omega
        clear hc hb HK hk' nb hbn
        have SK := Lib.hid (fun (w' : World) (q : Blk w' wr.heap.size 43 (nodeCells x.a x.f x.l x.p x.y x.c)) => show w'.cell? ⟨wr.heap.size, 0, none⟩ = some (.int .i32 x.a) ∧ w'.cell? ⟨wr.heap.size, 1, none⟩ = some (.int .u32 x.f) ∧ w'.cell? ⟨wr.heap.size, 2, none⟩ = some (.int .i32 x.l) ∧ w'.cell? ⟨wr.heap.size, 3, none⟩ = some (.int .u32 x.p) ∧ w'.cell? ⟨wr.heap.size, 4, none⟩ = some (.int .u32 x.y) ∧ w'.cell? ⟨wr.heap.size, 5, none⟩ = some (.int .i32 x.c) from ⟨q.cell 0, q.cell 1, q.cell 2, q.cell 3, q.cell 4, q.cell 5⟩)
        go_wp2_with fail
        go_region_held3 (fun w' => w'.cell? ⟨wr.heap.size, 0, none⟩ = some (.int .i32 x.a) ∧ w'.cell? ⟨wr.heap.size, 1, none⟩ = some (.int .u32 x.f) ∧ w'.cell? ⟨wr.heap.size, 2, none⟩ = some (.int .i32 x.l) ∧ w'.cell? ⟨wr.heap.size, 3, none⟩ = some (.int .u32 x.p) ∧ w'.cell? ⟨wr.heap.size, 4, none⟩ = some (.int .u32 x.y) ∧ w'.cell? ⟨wr.heap.size, 5, none⟩ = some (.int .i32 x.c))
          (first | exact SK.out _ nb4 | exact SK.out _ NB.out.drew | go_keep)
          (first | (go_at_call 37; refine L.out.mono ?_; rintro e w4 ⟨rfl, hb4⟩; have nb4 := NB.out.drew.here hb4))
        go_wp2_with fail
        go_roundw
        case rel => exact ⟨k + 1, by omega, by go_num, HBk.out.trans ((HBn.out.drew.trans (hb4.mono HBn.out.size)).mono HBk.out.size)⟩
        case measure => simp [intOf]; omega
      · obtain rfl : k = tree.length := by omega
        clear hb
        go_wp2_with fail
        go_returns
        exact ⟨by simp; omega, B3.out.trans (HBk.out.mono B3.out.size)⟩
  · have HP := Lib.hid P0
    have HB := Lib.hid hbw
    clear sf st P0 hbw
    unfold funVal
    go_enter Tryd.func13, Tryd.ntmps13
    go_wp2_with fail
    refine (zz15_any args locals id flag line FA TA _ _ fc tc _).mono ?_
    rintro e w1 ⟨b, rfl, hb1⟩
    have p1 := HP.out.here hb1
    have P1 := Lib.hid p1
    have B1 := Lib.hid (below_from HB.out hb1)
    have pc := p1.cell
    clear p1 hb1 HP HB
    cases b
    · go_wp2_with fail
      go_returns
      exact ⟨rfl, B1.out⟩
    · go_wp2_with fail
      refine (functionOk_no args locals id flag line FA TA _ _ fc tc _ hn).mono ?_
      rintro e w2 ⟨rfl, hb2⟩
      have B2 := Lib.hid (below_from B1.out hb2)
      clear pc
      go_wp2_with fail
      go_returns
      exact ⟨rfl, B2.out⟩
theorem fnFunctionInlined_any {H : Type} {enc : TypeId × Value → H} (args locals id flag line : Int) (F T : Value) (w : World) (b0 : 0 ≤ args ∧ args < 4294967296) (b1 : 0 ≤ locals ∧ locals < 4294967296) (_ : 0 ≤ id ∧ id < 256) (_ : 0 ≤ flag ∧ flag < 256) (_ : -2147483648 ≤ line ∧ line < 2147483648)
    (h5 : Rd enc Tryd.prog w 49 [F]) (h6 : Rd enc Tryd.prog w 50 [T]) : Calls Tryd.prog 13 #[funVal args locals id flag line F T] w (LawEnd w) := by
  obtain ⟨files, tree, FA, TA, fc, tc, rfl, rfl, hf, ht, bf, bt, mf, mt⟩ := Rd.funs h5 h6
  exact fnFunctionInlined_walk args locals id flag line files tree FA TA fc tc w hf ht bf bt b0 b1 mf mt
end Go.Proofs.YtnbojmciolecgaaDoor
