/- What is known of a function: its bytes. -/
import Derived.Test.YtnbojmciolecgaaDoorFunW
import Derived.Test.YtnbojmciolecgaaDoorSlB
namespace Go.Proofs.YtnbojmciolecgaaDoor
open Go.RowKit
attribute [local go_sem ↓] Go.wp_at_zero Go.wp_at_succ

/-- A slice of inlined calls. -/
def SlN (w : World) (A : Option Addr) (xs : List Nd) : Prop := 0 < xs.length → ∃ b o, A = some ⟨b, o, none⟩ ∧ ∀ j n, xs[j]? = some n → ∀ i u, n.cells[i]? = some u → w.cell? ⟨b, o + j * 6 + i, none⟩ = some u
theorem SlN.here {w w' : World} {A : Option Addr} {xs : List Nd} (h : SlN w A xs) (hb : Below w.heap.size w w') : SlN w' A xs := fun hn => by
  obtain ⟨b, o, e, hc⟩ := h hn
  exact ⟨b, o, e, fun j n hj i u hu => keep_cell hb (hc j n hj i u hu)⟩
theorem Tryd.infoCU : (Tryd.prog.info? 90).map (fun i => (i.zero, i.size, i.bytes)) = some (some (.int .u32 0), 1, 4) := by kernel_rfl
theorem Tryd.infoNode : (Tryd.prog.info? 94).map (fun i => (i.zero, i.size, i.bytes)) = some (some (nodeVal 0 0 0 0 0 0), 6, 24) := by kernel_rfl

abbrev funVal (args locals id flag line : Int) (F T : Value) : Value := .agg #[.int .u32 args, .int .u32 locals, .int .u8 id, .int .u8 flag, .int .i32 line, F, T]
abbrev funCells (args locals id flag line : Int) (F T : Value) : Array Value := #[.int .u32 args, .int .u32 locals, .int .u8 id, .int .u8 flag, .int .i32 line, F, T]

set_option maxHeartbeats 2000000 in
set_option maxRecDepth 100000 in
theorem functionBytes_any (args locals id flag line : Int) (files : List Int) (tree : List Nd) (FA TA : Option Addr) (fc tc : Nat) (w : World) (sf : SlI .u32 w FA files) (st : SlN w TA tree) (nf : files.length ≤ 100) (nt : tree.length ≤ 100)
    (bnd : ∀ z ∈ files, 0 ≤ z ∧ z < 4294967296) (bt : ∀ z ∈ tree, z.Ok) (a0 : 0 ≤ args) (a1 : args < 4294967296) (l0 : 0 ≤ locals) (l1 : locals < 4294967296) :
    Calls Tryd.prog 29 #[funVal args locals id flag line (.slice FA files.length fc) (.slice TA tree.length tc)] w (RetB (funBytes args locals id flag line files tree) w) := by
  obtain ⟨i0, hi, hz0, hz1, hz2⟩ := info_parts Tryd.infoCU
  obtain ⟨j0, hj, jz0, jz1, jz2⟩ := info_parts Tryd.infoNode
  unfold funVal
  have hbw : Below w.heap.size w ((w.alloc (.cells (funCells args locals id flag line (.slice FA files.length fc) (.slice TA tree.length tc)) 52)).alloc (.cells (funCells args locals id flag line (.slice none 0 0) (.slice none 0 0)) 105)) := by (repeat' (first | (with_reducible exact Below.refl _ _) | (with_reducible assumption) | (with_reducible refine below_drewN ?_ _) | (with_reducible refine Below.alloc ?_ ?_ _) | (with_reducible refine Below.drew ?_) | (with_reducible refine Below.setCell ?_ ?_ _) | go_size))
  have P0 : Blk ((w.alloc (.cells (funCells args locals id flag line (.slice FA files.length fc) (.slice TA tree.length tc)) 52)).alloc (.cells (funCells args locals id flag line (.slice none 0 0) (.slice none 0 0)) 105)) w.heap.size _ _ := (Blk.new w _ _).alloc _
  have X0 : Blk ((w.alloc (.cells (funCells args locals id flag line (.slice FA files.length fc) (.slice TA tree.length tc)) 52)).alloc (.cells (funCells args locals id flag line (.slice none 0 0) (.slice none 0 0)) 105)) (w.heap.size + 1) _ _ := Blk.new1 w _ _ _
  have SF := Lib.hid sf
  have ST := Lib.hid st
  have HBW := Lib.hid hbw
  have HP := Lib.hid P0
  have HX := Lib.hid X0
  clear sf st hbw P0 X0
  have n0 : (0 : Int) ≤ files.length := by omega
  go_enter Tryd.func29, Tryd.ntmps29
  go_wp2_with fail
  go_loopw [5, 23] (fun _ i wr => ∃ (k : Nat) (v : Value), k ≤ files.length ∧ i = .int .i64 k ∧ Blk wr w.heap.size 52 (funCells args locals id flag line (.slice FA files.length fc) (.slice TA tree.length tc)) ∧ Blk wr (w.heap.size + 1) 105 (funCells args locals id flag line v (.slice none 0 0)) ∧ wr.ownsRow (w.heap.size + 2) 90 1 v k ((files.take k).map (Value.int .u32)) ∧ Below w.heap.size w wr)
    (fun _ i _ => files.length - (intOf i).toNat)
  case atStart => exact ⟨0, _, by omega, rfl, HP.out, HX.out, World.ownsRow_nil _ _ _ _, HBW.out⟩
  case round =>
    obtain ⟨k, v, hk, rfl, hp, hx, ho, hb⟩ := hrel
    have HP1 := Lib.hid hp
    have HX1 := Lib.hid hx
    have HO := Lib.hid ho
    have HB := Lib.hid hb
    have zs := hb.size
    have zx := hx.lt
    clear HP HX HBW
    by_cases hlt : k < files.length
    · obtain ⟨b, o, rfl, hc⟩ := SF.out (by omega)
      have c0 := keep_cell hb (hc k files[k] (by simp [hlt]))
      have xc := hx.cell 5
      have HT := Lib.hid (show (files.take (k + 1)).map (Value.int .u32) = (files.take k).map (Value.int .u32) ++ [.int .u32 files[k]] from by rw [List.take_succ_eq_append_getElem hlt, List.map_append]; rfl)
      generalize files[k] = x at *
      clear hp hx ho hb hc
      go_wp2_with (at_builtin; refine wpList_append_sl rfl _ _ 102 rfl (w.heap.size + 2) 90 i0 _ 1 4 Tryd.underlying102 hi hz0 hz1 hz2 rfl (by decide) _ k _ rfl (HO.out.alloc _) (some ⟨wr.heap.size, 0, none⟩) 1 1 [.int .u32 x] rfl rfl (fun _ => ⟨_, rfl, cell_one_new _ _ _⟩) (by simp [Value.oneCell']) (by unfold maxLen; omega) (by omega) (by simp; omega) ?_; intro A1 C1 w1 hown' hgrow; have q1 := (HX1.out.alloc _).grown hgrow (own_ne_low HO.out (by omega)); have hx1 := Lib.hid q1; have hc1 := hx1.out.cell 5; have hf1 := hx1.out.frozen 5)
      have hp1 := (HP1.out.alloc _).grown hgrow (own_ne_low HO.out (by omega))
      have hb1 : Below w.heap.size w w1 := (HB.out.alloc zs _).grown hgrow (by simp; omega) (fun k hk => by have := (HO.out.lt k hk).1; omega)
      have ho1 := own_set hown' (p := ⟨w.heap.size + 1, 5, none⟩) (own_ne_low hown' (by simp)) (.slice A1 (k + 1) C1)
      clear hc1 hf1 c0 xc
      go_wp2_with fail
      go_roundw
      case rel => exact ⟨k + 1, .slice A1 (k + 1) C1, by omega, by go_num, hp1.far (by simp) _, hx1.out.set_ 5 (.slice A1 (k + 1) C1), by rw [HT.out]; exact ho1, hb1.setCell (by simp) _⟩
      case measure => simp [intOf]; omega
    · obtain rfl : k = files.length := by omega
      have pc := hp.cell 6
      rw [List.take_length] at ho
      obtain ⟨w2, rfl⟩ : ∃ w2 : World, w2 = wr := ⟨_, rfl⟩
      have HO2 := Lib.hid ho
      have FV := Lib.hid (fun k hk => (HO2.out.lt k hk).2 : ∀ k, v.ownBlock = some k → k < w2.heap.size)
      have m0 : (0 : Int) ≤ tree.length := by omega
      clear hp hx ho hb SF
      go_wp2_with fail
      clear pc
      go_loopw [7, 37] (fun _ i wr => ∃ (k : Nat) (u : Value), k ≤ tree.length ∧ i = .int .i64 k ∧ Blk wr (w.heap.size + 1) 105 (funCells args locals id flag line v u) ∧ wr.ownsRow (w.heap.size + 2) 90 1 v files.length (files.map (Value.int .u32)) ∧ wr.ownsRow w2.heap.size 94 6 u k ((tree.take k).flatMap Nd.cells) ∧ Below w.heap.size w wr ∧ w2.heap.size ≤ wr.heap.size)
        (fun _ i _ => tree.length - (intOf i).toNat)
      case atStart => exact ⟨0, _, by omega, rfl, HX1.out, HO2.out, World.ownsRow_nil _ _ _ _, HB.out, Nat.le_refl _⟩
      case round =>
        obtain ⟨k, u, hk, rfl, hx, hf, ho, hb, hz⟩ := hrel
        have HX2 := Lib.hid hx
        have HF2 := Lib.hid hf
        have HT2 := Lib.hid ho
        have HB2 := Lib.hid hb
        have zs2 := hb.size
        have zx2 := hx.lt
        clear HX1 HO HO2 HB HP1
        by_cases hlt : k < tree.length
        · obtain ⟨b, o, rfl, hc⟩ := ST.out (by omega)
          have hk' : tree[k]? = some tree[k] := by simp [hlt]
          have c0 := keep_cell hb (hc k tree[k] hk' 0 _ rfl)
          have c1 := keep_cell hb (hc k tree[k] hk' 1 _ rfl)
          have c2 := keep_cell hb (hc k tree[k] hk' 2 _ rfl)
          have c3 := keep_cell hb (hc k tree[k] hk' 3 _ rfl)
          have c4 := keep_cell hb (hc k tree[k] hk' 4 _ rfl)
          have c5 := keep_cell hb (hc k tree[k] hk' 5 _ rfl)
          rw [Nat.add_zero] at c0
          have HT := Lib.hid (show (tree.take (k + 1)).flatMap Nd.cells = (tree.take k).flatMap Nd.cells ++ Nd.cells tree[k] from by rw [List.take_succ_eq_append_getElem hlt, List.flatMap_append]; simp)
          generalize tree[k] = x at *
          clear hx hf ho hb hc hk'
          have NB := Blk.new wr 43 (nodeCells x.a x.f x.l x.p x.y x.c)
          have N0 := NB.cell 0
          have N1 := NB.cell 1
          have N2 := NB.cell 2
          have N3 := NB.cell 3
          have N4 := NB.cell 4
          have N5 := NB.cell 5
          have X0 := HX2.out.alloc (.cells (nodeCells x.a x.f x.l x.p x.y x.c) 43)
          have X6 := X0.cell 6
          have XF := X0.frozen 6
          have T0 := Lib.hid (HT2.out.alloc (.cells (nodeCells x.a x.f x.l x.p x.y x.c) 43))
          have XX := Lib.hid X0
          have NN := Lib.hid NB
          have O1 := Lib.hid (show ∀ u ∈ x.cells, u.oneCell' = true from by simp [Nd.cells, Value.oneCell'])
          have O2 := Lib.hid (show k + 1 ≤ maxLen from by unfold maxLen; omega)
          have O3 := Lib.hid (show (k + 1) * 24 ≤ 140737488355328 from by omega)
          have O4 := Lib.hid (show x.cells.length = 1 * 6 from by rfl)
          have O5 := Lib.hid (show w2.heap.size ≤ wr.heap.size from by omega)
          clear X0 NB
          go_wp2_with fail
          have NZ : u.ownBlock ≠ some wr.heap.size := own_ne_new HT2.out
          have nx : wr.heap.size ≠ w.heap.size + 1 := by omega
          go_region_law (first
              | (refine step_append_sl (by rfl) _ _ 103 (by rfl) w2.heap.size 94 j0 _ 6 24 Tryd.underlying103 hj jz0 jz1 jz2 (by rfl) (by decide) u k _ (by rfl) (T1.out.alloc _) _ 1 1 x.cells (by rfl) O4.out (src_new w1 _ _ _ rfl 1 _ (Below.refl _ _)) O1.out O2.out O3.out O6.out ?_; intro A2 C2 w3 hown2 hgrow2; have x3 := (X1.out.alloc _).grown hgrow2 (own_ne_low T1.out zx); have x3c := x3.cell 6; have x3f := x3.frozen 6)
              | (go_simp; go_at_call 50; refine (node_any x.a x.f x.l x.p x.y x.c _).mono ?_; rintro e w1 ⟨rfl, hb1⟩; have x1 := XX.out.drew.here hb1; have X1 := Lib.hid x1; have t1 := own_here T0.out.drew hb1; have T1 := Lib.hid t1; have B1 := Lib.hid hb1; have q6 := le_later (o' := (.cells (nodeCells x.a x.f x.l x.p x.y x.c) 94)) O5.out hb1; have O6 := Lib.hid q6; have x1c := x1.cell 6; have x2c := (x1.alloc (.cells (nodeCells x.a x.f x.l x.p x.y x.c) 94)).cell 6; clear x1 t1 hb1 q6))
          all_goals go_wp2_with fail
          all_goals
            have f2 := own_here HF2.out (((Below.alloc (Below.refl _ _) (Nat.le_refl _) (.cells (nodeCells x.a x.f x.l x.p x.y x.c) 43)).drew.trans (B1.out.mono (by simp))).alloc (by have := B1.out.size; simp at this; omega) (.cells (nodeCells x.a x.f x.l x.p x.y x.c) 94))
            have f3 := own_grown f2 hgrow2 (fun j hj h' => by have := FV.out j hj; have := (T1.out.lt j h').1; omega)
            have b3 : Below w.heap.size w w3 := (((HB2.out.alloc zs2 (.cells (nodeCells x.a x.f x.l x.p x.y x.c) 43)).drew.trans (B1.out.mono (by simp; omega))).alloc (by have := B1.out.size; simp at this; omega) (.cells (nodeCells x.a x.f x.l x.p x.y x.c) 94)).grown hgrow2 (by have := B1.out.size; simp at this ⊢; omega) (fun j hj => by have := (T1.out.lt j hj).1; omega)
            have z3 : w2.heap.size ≤ w3.heap.size := by have := B1.out.size; have := hgrow2.size; simp at *; omega
            go_roundw
            case rel => exact ⟨k + 1, .slice A2 (k + 1) C2, by omega, by go_num, x3.set_ 6 (.slice A2 (k + 1) C2), own_set f3 (p := ⟨w.heap.size + 1, 6, none⟩) (own_ne_low f3 (by simp)) _, by rw [HT.out]; exact own_set hown2 (p := ⟨w.heap.size + 1, 6, none⟩) (own_ne_low hown2 zx) _, b3.setCell (by simp) _, by simpa [World.setCell] using z3⟩
            case measure => simp [intOf]; omega
        · obtain rfl : k = tree.length := by omega
          rw [List.take_length] at ho
          obtain ⟨FA', fc', rfl, _⟩ := own_slice hf
          obtain ⟨TA', tc', rfl, _⟩ := own_slice ho
          have bx := Blk.new wr 78 #[.slice none 0 0, .int .i64 0, .int .i8 0]
          have bb := isBuf_new (B := w.heap.size) zs2 bx
          have BB := Lib.hid bb
          have XB := Lib.hid (hx.alloc (.cells #[.slice none 0 0, .int .i64 0, .int .i8 0] 78))
          have FB := Lib.hid (hf.alloc (.cells #[.slice none 0 0, .int .i64 0, .int .i8 0] 78))
          have q1 := (own_mono ho (base' := w.heap.size + 2) (by omega)).alloc (.cells #[.slice none 0 0, .int .i64 0, .int .i8 0] 78)
          have TB := Lib.hid q1
          clear hx hf ho bx bb q1 hb
          go_wp2_with fail
          refine (funWrite_any w.heap.size wr.heap.size (w.heap.size + 1) (w.heap.size + 2) args locals id flag line files tree FA' TA' fc' tc' _ BB.out (by simp; omega) XB.out (by omega) FB.out TB.out nf nt bnd bt a0 a1 l0 l1).mono ?_
          rintro e w4 ⟨rfl, h4, wf4⟩
          have B4 := Lib.hid (Below.trans (HB2.out.alloc zs2 (.cells #[.slice none 0 0, .int .i64 0, .int .i8 0] 78)) ⟨wf4.os, wf4.tape, wf4.output, wf4.size, wf4.low⟩ : Below w.heap.size w w4)
          clear wf4
          go_wp2_with fail
          refine (buffer_Bytes w.heap.size wr.heap.size _ w4 h4).mono ?_
          rintro e w5 ⟨A5, c5, rfl, h1, h2, n5, rfl⟩
          clear h4
          go_wp2_with fail
          go_ret
          exact ⟨A5, c5, rfl, h1, h2, below_drewN B4.out n5⟩
end Go.Proofs.YtnbojmciolecgaaDoor
