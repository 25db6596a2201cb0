/- Whether a file is small. (printed by gen_small.py) -/
import Derived.Test.YtajeinkkfggcbaaGreatDoorFits
import Derived.Test.YtajeinkkfggcbaaGreatDoorAll
import Derived.Test.YtajeinkkfggcbaaGreatDoorSpecB
namespace Go.Proofs.YtajeinkkfggcbaaGreatDoor
open Go.RowKit

def mxI (x y : Int) : Int := if y > x then y else x
theorem mxI_le (x y m : Int) : mxI x y ≤ m ↔ x ≤ m ∧ y ≤ m := by
  unfold mxI
  split <;> omega
theorem run_max7 {P : Program} (w : World) (ts : Array TypeId) (t : TypeId) (x0 x1 x2 x3 x4 x5 x6 : Int) : (Builtin.max_ ts t #[.int .i64 x0, .int .i64 x1, .int .i64 x2, .int .i64 x3, .int .i64 x4, .int .i64 x5, .int .i64 x6]).run P w = .ok (.int .i64 (mxI (mxI (mxI (mxI (mxI (mxI x0 x1) x2) x3) x4) x5) x6)) w := rfl
/-- Slot by slot, what a value is. -/
def psv (l : List (Value → Prop)) (i : Nat) (v : Value) (_ : World) : Prop := (l[i]?.getD (fun _ => True)) v
theorem region_pv {P : Program} {ops : Array Oper} {Q : Exit → Act → World → Prop} {a0 : Act} {w0 : World} {id : Nat} (hm : P.follows .mixedOrders = true) (l : List (Value → Prop)) (sl : List Nat) (hok : slotsOk ops sl a0.tmps.size = true)
    (hstep : Steps (RStep P ops Q (psv l) Later sl a0 w0.drew) 0 ops.toList)
    (hend : ∀ f w, Later w0.drew w → (∀ i, i < ops.size → psv l i (f (sl.getD i 0)) w) → Q .normal (over a0 sl f) w) : (Code.region id ops true).wp P Q a0 w0 :=
  region_inv hm (psv l) Later sl (fun _ => Below.refl _ _) (fun _ _ _ => below_from) (fun _ _ _ _ _ hv => hv) hok hstep hend
set_option maxRecDepth 100000 in
theorem two_at (f : FM) {a1 a2 : Option Addr} (h : f.pk.A = a1 ∧ f.fi.A = a2) (k : Nat) (hk : k < 2) : ∃ (L : Sl ByteArray) (LA : Option Addr), [f.pk, f.fi][k]? = some L ∧ LA = L.A ∧ ∀ W : World, (Instr.index 63 (.agg #[.slice a1 f.pk.l.length f.pk.c, .slice a2 f.fi.l.length f.fi.c]) (.int .i64 (k : Int))).run Tryz.prog W = .ok (.slice LA L.l.length L.c) W := by
  match k, hk with
  | 0, _ => exact ⟨f.pk, a1, rfl, h.1.symm, fun W => by kernel_rfl⟩
  | 1, _ => exact ⟨f.fi, a2, rfl, h.2.symm, fun W => by kernel_rfl⟩
/-- The sizes of a symbol are within the bounds. -/
def DfSmall (d : Df) : Prop := d.name.size ≤ 100 ∧ d.data.size ≤ 200 ∧ d.rs.l.length ≤ 20 ∧ d.xs.l.length ≤ 20

set_option maxRecDepth 100000 in
set_option maxHeartbeats 4000000 in
theorem small_any (f : FM) (w : World) (hI : f.In w) (hbl : ∀ L ∈ f.lists, L.l.length ≤ 2147483647) : Calls Tryz.prog 6 #[f.val] w (RetIf f.Small w) := by
  obtain ⟨p0, p1, p2, p3, p4, p5, p6, p7, a0, a1, a2, a3, a4, a5, a6, a7, a8, a9, a10, a11, _, hA, e⟩ := FM.val_eq hI.fp.1
  have HE := Lib.hid e
  rw [e]
  clear e
  have HI := Lib.hid hI
  have HBL := Lib.hid hbl
  have HA0 := Lib.hid hA.im
  have HA1 := Lib.hid hA.pk
  have HA2 := Lib.hid hA.fi
  have HA3 := Lib.hid hA.own
  have HA4 := Lib.hid hA.short
  have HA5 := Lib.hid hA.hashed
  have HA6 := Lib.hid hA.other
  have HA7 := Lib.hid hA.refs
  have HA8 := Lib.hid hA.rf
  have HA9 := Lib.hid hA.h64
  have HA10 := Lib.hid hA.hs
  have HA11 := Lib.hid hA.rn
  have hal := lists_sum_le f hbl 4
  rw [show f.lists.take 4 = f.lists from rfl, ← FM.all_flat] at hal
  have m_im : (f.im.l.length : Int) ≤ 9223372036854775807 := by have := hI.iml; unfold maxLen at this; omega
  have m_pk : (f.pk.l.length : Int) ≤ 9223372036854775807 := by have := hI.pkl; unfold maxLen at this; omega
  have m_fi : (f.fi.l.length : Int) ≤ 9223372036854775807 := by have := hI.fil; unfold maxLen at this; omega
  have m_refs : (f.refs.l.length : Int) ≤ 9223372036854775807 := by have := hI.refl; unfold maxLen at this; omega
  have m_rf : (f.rf.l.length : Int) ≤ 9223372036854775807 := by have := hI.rfl_; unfold maxLen at this; omega
  have m_h64 : (f.h64.l.length : Int) ≤ 9223372036854775807 := by have := hI.h64l; unfold maxLen at this; omega
  have m_hs : (f.hs.l.length : Int) ≤ 9223372036854775807 := by have := hI.hsl; unfold maxLen at this; omega
  have m_rn : (f.rn.l.length : Int) ≤ 9223372036854775807 := by have := hI.rnl; unfold maxLen at this; omega
  obtain ⟨w0, hw0⟩ : ∃ w0, w0 = w.alloc (.cells (fileArr p0 p1 p2 p3 p4 p5 p6 p7 a0 a1 a2 a3 a4 a5 a6 a7 a8 a9 a10 a11 f) 33) := ⟨_, rfl⟩
  have BX0 := Lib.hid (show Blk w0 w.heap.size 33 (fileArr p0 p1 p2 p3 p4 p5 p6 p7 a0 a1 a2 a3 a4 a5 a6 a7 a8 a9 a10 a11 f) from by rw [hw0]; exact Blk.new _ _ _)
  have B0 := Lib.hid (show Below w.heap.size w w0 from by rw [hw0]; exact later_alloc _ _)
  have HW := Lib.hid hw0
  clear hI hA hw0 hbl
  have AL := Lib.hid (fun (W : World) (hb : Below w.heap.size w W) => show Calls Tryz.prog 8 #[.agg (fileArr p0 p1 p2 p3 p4 p5 p6 p7 a0 a1 a2 a3 a4 a5 a6 a7 a8 a9 a10 a11 f)] W (AllIs f W) from by have h := all_any f w W HI.out hb HBL.out; rw [HE.out] at h; exact h)
  go_enter Tryz.func6, Tryz.ntmps6
  go_upto_region 1 with fail
  rw [← HW.out]
  go_upto_block 0 with (first | (refine wpList_load_row rfl 33 (.tmp 1) rfl w.heap.size rfl 33 _ (0, 0) _ BX0.out Tryz.underlying33 rfl Tryz.fileInfo ?_) | (go_at_call 8; refine (AL.out w0 B0.out).mono ?_; rintro e w1 ⟨LA, LC, rfl, hs1, hc1, hb1⟩; have BX1 := Lib.hid (BX0.out.here hb1); have B1 := Lib.hid (below_from B0.out hb1); have HS1 := Lib.hid hs1; have hcc1 := hc1; clear hb1 hs1))
  go_cut [] from 3 to 142 (fun wc => Blk wc w.heap.size 33 (fileArr p0 p1 p2 p3 p4 p5 p6 p7 a0 a1 a2 a3 a4 a5 a6 a7 a8 a9 a10 a11 f) ∧ Below w.heap.size w wc ∧ Hid (∀ x ∈ f.all, DfSmall x))
  case first =>
   as_aux_lemma =>
    have B1z := B1.out.size
    go_wp2_with fail
    go_loopw [4, 19] (fun _ i wr => ∃ k : Nat, k ≤ f.all.length ∧ i = .int .i64 k ∧ Below w1.heap.size w1 wr ∧ Hid (∀ j (h : j < k) (h' : j < f.all.length), DfSmall f.all[j])) (fun _ i _ => f.all.length - (intOf i).toNat)
    case atStart => exact ⟨0, by omega, rfl, Below.refl _ _, Lib.hid (fun j h => absurd h (by omega))⟩
    case round =>
      obtain ⟨k, hk, rfl, hb, HX⟩ := hrel
      have HB := Lib.hid hb
      have zb := hb.size
      by_cases hlt : k < f.all.length
      · obtain ⟨bb, oo, rfl, hc⟩ := SlR.at_ (HS1.out.here hb) k hlt
        have hmem : f.all[k] ∈ f.all := List.getElem_mem hlt
        have OKd : f.all[k].Ok := by
          have hm2 : f.all[k] ∈ (f.lists.map Sl.l).flatten := by rw [← FM.all_flat]; exact hmem
          obtain ⟨L, hL, hd⟩ := List.mem_flatten.1 hm2
          obtain ⟨L', hL', rfl⟩ := List.mem_map.1 hL
          exact (HI.out.dfs L' hL').ok _ hd
        have o1 : (f.all[k].name.size : Int) ≤ 9223372036854775807 := by have := OKd.name; unfold maxLen at this; omega
        have o2 : (f.all[k].data.size : Int) ≤ 9223372036854775807 := by have := OKd.data; unfold maxLen at this; omega
        have o3 : (f.all[k].rs.l.length : Int) ≤ 9223372036854775807 := by have := OKd.rl; unfold maxLen at this; omega
        have o4 : (f.all[k].xs.l.length : Int) ≤ 9223372036854775807 := by have := OKd.xl; unfold maxLen at this; omega
        have HN := Lib.hid (fun (h : DfSmall f.all[k]) => show ∀ j (h : j < k + 1) (h' : j < f.all.length), DfSmall f.all[j] from fun j h1 h2 => by
          rcases Nat.lt_or_ge j k with h3 | h3
          · exact HX.out j h3 h2
          · obtain rfl : j = k := by omega
            exact h)
        have q0 := hc 0 _ rfl
        have q1 := hc 1 _ rfl
        have q2 := hc 2 _ rfl
        have q3 := hc 3 _ rfl
        have q4 := hc 4 _ rfl
        have q5 := hc 5 _ rfl
        have q6 := hc 6 _ rfl
        have q7 := hc 7 _ rfl
        have q8 := hc 8 _ rfl
        have q9 := hc 9 _ rfl
        rw [Nat.add_zero] at q0
        clear hb hc hmem OKd HX
        generalize f.all[k] = x at *
        have DS := Lib.hid (fun (h1 : (x.name.size : Int) ≤ 100) (h2 : (x.data.size : Int) ≤ 200) (h3 : (x.rs.l.length : Int) ≤ 20) (h4 : (x.xs.l.length : Int) ≤ 20) => show DfSmall x from ⟨by omega, by omega, by omega, by omega⟩)
        by_cases t1 : (x.name.size : Int) ≤ 100
        · by_cases t2 : (x.data.size : Int) ≤ 200
          · by_cases t3 : (x.rs.l.length : Int) ≤ 20
            · by_cases t4 : (x.xs.l.length : Int) ≤ 20
              · have HD := Lib.hid (HN.out (DS.out t1 t2 t3 t4))
                clear DS HN
                go_wp2_with fail
                go_roundw
                case rel => exact ⟨k + 1, by omega, by go_num, HB.out.alloc zb _, HD⟩
                case measure => simp [intOf]; omega
              · have t4' : (20 : Int) < x.xs.l.length := by omega
                go_wp2_with fail
                go_returns
                exact ⟨_, rfl, fun h => (by simp at h), B1.out.trans ((HB.out.alloc zb _).mono B1z)⟩
            · have t3' : (20 : Int) < x.rs.l.length := by omega
              go_wp2_with fail
              go_returns
              exact ⟨_, rfl, fun h => (by simp at h), B1.out.trans ((HB.out.alloc zb _).mono B1z)⟩
          · have t2' : (200 : Int) < x.data.size := by omega
            go_wp2_with fail
            go_returns
            exact ⟨_, rfl, fun h => (by simp at h), B1.out.trans ((HB.out.alloc zb _).mono B1z)⟩
        · have t1' : (100 : Int) < x.name.size := by omega
          go_wp2_with fail
          go_returns
          exact ⟨_, rfl, fun h => (by simp at h), B1.out.trans ((HB.out.alloc zb _).mono B1z)⟩
      · obtain rfl : k = f.all.length := by omega
        go_wp2_with fail
        go_meet
        case rel => exact ⟨BX1.out.here HB.out, B1.out.trans (HB.out.mono B1z), Lib.hid (fun x hx => by
          obtain ⟨j, hj, rfl⟩ := List.getElem_of_mem hx
          exact HX.out j hj hj)⟩
  case rest =>
  have BX2 := Lib.hid hcut.1
  have B2 := Lib.hid hcut.2.1
  have P2 := hcut.2.2
  clear hcut BX1 B1 HS1 hcc1 BX0 B0
  have hbx := BX2.out.cell 16
  obtain ⟨w2, hw2⟩ : ∃ w', w' = wc := ⟨_, rfl⟩
  rw [← hw2] at hbx BX2 B2 ⊢
  clear hw2
  go_upto_block 2 with fail
  go_cut [] from 3 to 142 (fun wc => Blk wc w.heap.size 33 (fileArr p0 p1 p2 p3 p4 p5 p6 p7 a0 a1 a2 a3 a4 a5 a6 a7 a8 a9 a10 a11 f) ∧ Below w.heap.size w wc ∧ Hid (∀ x ∈ f.all, DfSmall x) ∧ Hid (∀ x ∈ f.refs.l, x.name.size ≤ 100))
  case first =>
   as_aux_lemma =>
    have Bz := B2.out.size
    go_wp2_with fail
    go_loopw [6, 49] (fun _ i wr => ∃ k : Nat, k ≤ f.refs.l.length ∧ i = .int .i64 k ∧ Below w2.heap.size w2 wr ∧ Hid (∀ j (h : j < k) (h' : j < f.refs.l.length), f.refs.l[j].name.size ≤ 100)) (fun _ i _ => f.refs.l.length - (intOf i).toNat)
    case atStart => exact ⟨0, by omega, rfl, Below.refl _ _, Lib.hid (fun j h => absurd h (by omega))⟩
    case round =>
      obtain ⟨k, hk, rfl, hb, HX⟩ := hrel
      have HB := Lib.hid hb
      have zb := hb.size
      by_cases hlt : k < f.refs.l.length
      · obtain ⟨bb, oo, hA, hc⟩ := SlR.at_ ((HI.out.refs.here B2.out).here hb) k hlt
        obtain rfl : a7 = some ⟨bb, oo, none⟩ := HA7.out.symm.trans hA
        have o1 : (f.refs.l[k].name.size : Int) ≤ 9223372036854775807 := by have := (HI.out.refk _ (List.getElem_mem hlt)).1; unfold maxLen at this; omega
        have HN := Lib.hid (fun (h : f.refs.l[k].name.size ≤ 100) => show ∀ j (h : j < k + 1) (h' : j < f.refs.l.length), f.refs.l[j].name.size ≤ 100 from fun j h1 h2 => by
          rcases Nat.lt_or_ge j k with h3 | h3
          · exact HX.out j h3 h2
          · obtain rfl : j = k := by omega
            exact h)
        have q0 := hc 0 _ rfl
        have q1 := hc 1 _ rfl
        have q2 := hc 2 _ rfl
        have q3 := hc 3 _ rfl
        have q4 := hc 4 _ rfl
        have q5 := hc 5 _ rfl
        have q6 := hc 6 _ rfl
        rw [Nat.add_zero] at q0
        clear hb hc HX
        generalize f.refs.l[k] = x at *
        by_cases t1 : (x.name.size : Int) ≤ 100
        · have HD := Lib.hid (HN.out (by omega))
          clear HN
          go_wp2_with fail
          go_roundw
          case rel => exact ⟨k + 1, by omega, by go_num, HB.out.alloc zb _, HD⟩
          case measure => simp [intOf]; omega
        · have t1' : (100 : Int) < x.name.size := by omega
          go_wp2_with fail
          go_returns
          exact ⟨_, rfl, fun h => (by simp at h), B2.out.trans ((HB.out.alloc zb _).mono Bz)⟩
      · obtain rfl : k = f.refs.l.length := by omega
        go_wp2_with fail
        go_meet
        case rel => exact ⟨BX2.out.here HB.out, B2.out.trans (HB.out.mono Bz), P2, Lib.hid (fun x hx => by
          obtain ⟨j, hj, rfl⟩ := List.getElem_of_mem hx
          exact HX.out j hj hj)⟩
  case rest =>
  have BX3 := Lib.hid hcut.1
  have B3 := Lib.hid hcut.2.1
  have P3 := hcut.2.2.2
  clear hcut BX2 B2 hbx
  have hbx := BX3.out.cell 20
  obtain ⟨w3, hw3⟩ : ∃ w', w' = wc := ⟨_, rfl⟩
  rw [← hw3] at hbx BX3 B3 ⊢
  clear hw3
  go_upto_block 4 with fail
  go_cut [] from 3 to 142 (fun wc => Blk wc w.heap.size 33 (fileArr p0 p1 p2 p3 p4 p5 p6 p7 a0 a1 a2 a3 a4 a5 a6 a7 a8 a9 a10 a11 f) ∧ Below w.heap.size w wc ∧ Hid (∀ x ∈ f.all, DfSmall x) ∧ Hid (∀ x ∈ f.refs.l, x.name.size ≤ 100) ∧ Hid (∀ x ∈ f.rn.l, x.name.size ≤ 100))
  case first =>
   as_aux_lemma =>
    have Bz := B3.out.size
    go_wp2_with fail
    go_loopw [8, 61] (fun _ i wr => ∃ k : Nat, k ≤ f.rn.l.length ∧ i = .int .i64 k ∧ Below w3.heap.size w3 wr ∧ Hid (∀ j (h : j < k) (h' : j < f.rn.l.length), f.rn.l[j].name.size ≤ 100)) (fun _ i _ => f.rn.l.length - (intOf i).toNat)
    case atStart => exact ⟨0, by omega, rfl, Below.refl _ _, Lib.hid (fun j h => absurd h (by omega))⟩
    case round =>
      obtain ⟨k, hk, rfl, hb, HX⟩ := hrel
      have HB := Lib.hid hb
      have zb := hb.size
      by_cases hlt : k < f.rn.l.length
      · obtain ⟨bb, oo, hA, hc⟩ := SlR.at_ ((HI.out.rn.here B3.out).here hb) k hlt
        obtain rfl : a11 = some ⟨bb, oo, none⟩ := HA11.out.symm.trans hA
        have o1 : (f.rn.l[k].name.size : Int) ≤ 9223372036854775807 := by have := (HI.out.rnk _ (List.getElem_mem hlt)).2.2; unfold maxLen at this; omega
        have HN := Lib.hid (fun (h : f.rn.l[k].name.size ≤ 100) => show ∀ j (h : j < k + 1) (h' : j < f.rn.l.length), f.rn.l[j].name.size ≤ 100 from fun j h1 h2 => by
          rcases Nat.lt_or_ge j k with h3 | h3
          · exact HX.out j h3 h2
          · obtain rfl : j = k := by omega
            exact h)
        have q0 := hc 0 _ rfl
        have q1 := hc 1 _ rfl
        have q2 := hc 2 _ rfl
        rw [Nat.add_zero] at q0
        clear hb hc HX
        generalize f.rn.l[k] = x at *
        by_cases t1 : (x.name.size : Int) ≤ 100
        · have HD := Lib.hid (HN.out (by omega))
          clear HN
          go_wp2_with fail
          go_roundw
          case rel => exact ⟨k + 1, by omega, by go_num, HB.out.alloc zb _, HD⟩
          case measure => simp [intOf]; omega
        · have t1' : (100 : Int) < x.name.size := by omega
          go_wp2_with fail
          go_returns
          exact ⟨_, rfl, fun h => (by simp at h), B3.out.trans ((HB.out.alloc zb _).mono Bz)⟩
      · obtain rfl : k = f.rn.l.length := by omega
        go_wp2_with fail
        go_meet
        case rel => exact ⟨BX3.out.here HB.out, B3.out.trans (HB.out.mono Bz), P2, P3, Lib.hid (fun x hx => by
          obtain ⟨j, hj, rfl⟩ := List.getElem_of_mem hx
          exact HX.out j hj hj)⟩
  case rest =>
  have BX4 := Lib.hid hcut.1
  have B4 := Lib.hid hcut.2.1
  have P4 := hcut.2.2.2.2
  clear hcut BX3 B3 hbx
  have hbx := BX4.out.cell 9
  obtain ⟨w4, hw4⟩ : ∃ w', w' = wc := ⟨_, rfl⟩
  rw [← hw4] at hbx BX4 B4 ⊢
  clear hw4
  go_upto_block 6 with fail
  go_cut [] from 3 to 142 (fun wc => Blk wc w.heap.size 33 (fileArr p0 p1 p2 p3 p4 p5 p6 p7 a0 a1 a2 a3 a4 a5 a6 a7 a8 a9 a10 a11 f) ∧ Below w.heap.size w wc ∧ Hid (∀ x ∈ f.all, DfSmall x) ∧ Hid (∀ x ∈ f.refs.l, x.name.size ≤ 100) ∧ Hid (∀ x ∈ f.rn.l, x.name.size ≤ 100) ∧ Hid (∀ x ∈ f.im.l, x.pkg.size ≤ 100))
  case first =>
   as_aux_lemma =>
    have Bz := B4.out.size
    go_wp2_with fail
    go_loopw [10, 73] (fun _ i wr => ∃ k : Nat, k ≤ f.im.l.length ∧ i = .int .i64 k ∧ Below w4.heap.size w4 wr ∧ Hid (∀ j (h : j < k) (h' : j < f.im.l.length), f.im.l[j].pkg.size ≤ 100)) (fun _ i _ => f.im.l.length - (intOf i).toNat)
    case atStart => exact ⟨0, by omega, rfl, Below.refl _ _, Lib.hid (fun j h => absurd h (by omega))⟩
    case round =>
      obtain ⟨k, hk, rfl, hb, HX⟩ := hrel
      have HB := Lib.hid hb
      have zb := hb.size
      by_cases hlt : k < f.im.l.length
      · obtain ⟨bb, oo, hA, hc⟩ := SlR.at_ ((HI.out.im.here B4.out).here hb) k hlt
        obtain rfl : a0 = some ⟨bb, oo, none⟩ := HA0.out.symm.trans hA
        have o1 : (f.im.l[k].pkg.size : Int) ≤ 9223372036854775807 := by have := (HI.out.imk _ (List.getElem_mem hlt)).1; unfold maxLen at this; omega
        have HN := Lib.hid (fun (h : f.im.l[k].pkg.size ≤ 100) => show ∀ j (h : j < k + 1) (h' : j < f.im.l.length), f.im.l[j].pkg.size ≤ 100 from fun j h1 h2 => by
          rcases Nat.lt_or_ge j k with h3 | h3
          · exact HX.out j h3 h2
          · obtain rfl : j = k := by omega
            exact h)
        obtain ⟨z0, z1, z2, z3, z4, z5, z6, z7, hz⟩ := list8 (HI.out.imk _ (List.getElem_mem hlt)).2.1
        rw [show Im.cells f.im.l[k] = [.string f.im.l[k].pkg, .int .u8 z0, .int .u8 z1, .int .u8 z2, .int .u8 z3, .int .u8 z4, .int .u8 z5, .int .u8 z6, .int .u8 z7] from by unfold Im.cells; rw [hz]; rfl] at hc
        clear hz
        have q0 := hc 0 _ rfl
        have q1 := hc 1 _ rfl
        have q2 := hc 2 _ rfl
        have q3 := hc 3 _ rfl
        have q4 := hc 4 _ rfl
        have q5 := hc 5 _ rfl
        have q6 := hc 6 _ rfl
        have q7 := hc 7 _ rfl
        have q8 := hc 8 _ rfl
        rw [Nat.add_zero] at q0
        clear hb hc HX
        generalize f.im.l[k] = x at *
        by_cases t1 : (x.pkg.size : Int) ≤ 100
        · have HD := Lib.hid (HN.out (by omega))
          clear HN
          go_wp2_with fail
          go_roundw
          case rel => exact ⟨k + 1, by omega, by go_num, HB.out.alloc zb _, HD⟩
          case measure => simp [intOf]; omega
        · have t1' : (100 : Int) < x.pkg.size := by omega
          go_wp2_with fail
          go_returns
          exact ⟨_, rfl, fun h => (by simp at h), B4.out.trans ((HB.out.alloc zb _).mono Bz)⟩
      · obtain rfl : k = f.im.l.length := by omega
        go_wp2_with fail
        go_meet
        case rel => exact ⟨BX4.out.here HB.out, B4.out.trans (HB.out.mono Bz), P2, P3, P4, Lib.hid (fun x hx => by
          obtain ⟨j, hj, rfl⟩ := List.getElem_of_mem hx
          exact HX.out j hj hj)⟩
  case rest =>
  have BX5 := Lib.hid hcut.1
  have B5 := Lib.hid hcut.2.1
  have P5 := hcut.2.2.2.2.2
  clear hcut BX4 B4 hbx
  have hb1 := BX5.out.cell 10
  have hb2 := BX5.out.cell 11
  have HL2 := Lib.hid (show f.pk.A = a1 ∧ f.fi.A = a2 from ⟨HA1.out, HA2.out⟩)
  obtain ⟨w5, hw5⟩ : ∃ w', w' = wc := ⟨_, rfl⟩
  rw [← hw5] at hb1 hb2 BX5 B5 ⊢
  clear hw5
  go_upto_block 8 with fail
  go_cut [] from 3 to 142 (fun wc => Blk wc w.heap.size 33 (fileArr p0 p1 p2 p3 p4 p5 p6 p7 a0 a1 a2 a3 a4 a5 a6 a7 a8 a9 a10 a11 f) ∧ Below w.heap.size w wc ∧ Hid (∀ x ∈ f.all, DfSmall x) ∧ Hid (∀ x ∈ f.refs.l, x.name.size ≤ 100) ∧ Hid (∀ x ∈ f.rn.l, x.name.size ≤ 100) ∧ Hid (∀ x ∈ f.im.l, x.pkg.size ≤ 100) ∧ Hid (∀ L ∈ [f.pk, f.fi], ∀ s ∈ L.l, s.size ≤ 100))
  case first =>
   as_aux_lemma =>
    have Bz := B5.out.size
    go_wp2_with fail
    go_loopw [12, 14, 87] (fun _ _ i wr => ∃ p : Nat, p ≤ 2 ∧ i = .int .i64 p ∧ Below w5.heap.size w5 wr ∧ Hid (∀ j (h : j < p) (L : Sl ByteArray), [f.pk, f.fi][j]? = some L → ∀ s ∈ L.l, s.size ≤ 100)) (fun _ _ i _ => 2 - (intOf i).toNat)
    case atStart => exact ⟨0, by omega, rfl, Below.refl _ _, Lib.hid (fun j h => absurd h (by omega))⟩
    case round =>
      obtain ⟨p, hp, rfl, hb, HX⟩ := hrel
      have HB := Lib.hid hb
      have zb := hb.size
      clear hb1 hb2 hb
      by_cases hlt : p < 2
      · obtain ⟨L, LA, hL, hLA, hix⟩ := two_at f HL2.out p hlt
        have hkb : decide ((p : Int) < 2) = true := by simp; omega
        have HL := Lib.hid hL
        have HLA := Lib.hid hLA
        have hSL : SlR 1 w L.A (L.l.map strCells) ∧ (∀ s ∈ L.l, s.size ≤ maxLen) ∧ L.l.length ≤ maxLen := by
          have hm := List.mem_of_getElem? hL
          simp only [List.mem_cons, List.not_mem_nil, or_false] at hm
          rcases hm with rfl | rfl
          · exact ⟨HI.out.pk, HI.out.pkk, HI.out.pkl⟩
          · exact ⟨HI.out.fi, HI.out.fik, HI.out.fil⟩
        have HS := Lib.hid hSL
        have hl63 : (L.l.length : Int) ≤ 9223372036854775807 := by have := hSL.2.2; unfold maxLen at this; omega
        clear hL hLA hSL
        go_wp2_with fail
        go_loopw [14, 92] (fun _ i wr => ∃ k : Nat, k ≤ L.l.length ∧ i = .int .i64 k ∧ Below w5.heap.size w5 wr ∧ Hid (∀ j (h : j < k) (h' : j < L.l.length), L.l[j].size ≤ 100)) (fun _ i _ => L.l.length - (intOf i).toNat)
        case atStart => exact ⟨0, by omega, rfl, HB.out, Lib.hid (fun j h => absurd h (by omega))⟩
        case round =>
          obtain ⟨k, hk, rfl, hb, HY⟩ := hrel
          have HBk := Lib.hid hb
          by_cases hltk : k < L.l.length
          · obtain ⟨bb, oo, hA, hc⟩ := SlR.at_ ((HS.out.1.here B5.out).here hb) k hltk
            obtain rfl : LA = some ⟨bb, oo, none⟩ := HLA.out.trans hA
            have o1 : (L.l[k].size : Int) ≤ 9223372036854775807 := by have := HS.out.2.1 _ (List.getElem_mem hltk); unfold maxLen at this; omega
            have HN := Lib.hid (fun (h : L.l[k].size ≤ 100) => show ∀ j (h : j < k + 1) (h' : j < L.l.length), L.l[j].size ≤ 100 from fun j h1 h2 => by
              rcases Nat.lt_or_ge j k with h3 | h3
              · exact HY.out j h3 h2
              · obtain rfl : j = k := by omega
                exact h)
            have q0 := hc 0 _ rfl
            rw [Nat.add_zero, Nat.mul_one] at q0
            clear hb hc HY
            generalize L.l[k] = x at *
            by_cases t1 : (x.size : Int) ≤ 100
            · have HD := Lib.hid (HN.out (by omega))
              clear HN
              go_wp2_with fail
              go_roundw
              case rel => exact ⟨k + 1, by omega, by go_num, HBk.out, HD⟩
              case measure => simp [intOf]; omega
            · have t1' : (100 : Int) < x.size := by omega
              go_wp2_with fail
              go_returns
              exact ⟨_, rfl, fun h => (by simp at h), B5.out.trans (HBk.out.mono Bz)⟩
          · obtain rfl : k = L.l.length := by omega
            have HN := Lib.hid (show ∀ j (h : j < p + 1) (L : Sl ByteArray), [f.pk, f.fi][j]? = some L → ∀ s ∈ L.l, s.size ≤ 100 from fun j h1 M hM s hs => by
              rcases Nat.lt_or_ge j p with h3 | h3
              · exact HX.out j h3 M hM s hs
              · obtain rfl : j = p := by omega
                obtain rfl : L = M := Option.some.inj (HL.out.symm.trans hM)
                obtain ⟨i, hi, rfl⟩ := List.getElem_of_mem hs
                exact HY.out i hi hi)
            clear hb HX HY
            go_wp2_with fail
            go_roundw
            case rel => exact ⟨p + 1, by omega, by go_num, HBk.out, HN⟩
            case measure => simp [intOf]; omega
      · obtain rfl : p = 2 := by omega
        go_wp2_with fail
        go_meet
        case rel => exact ⟨BX5.out.here HB.out, B5.out.trans (HB.out.mono Bz), P2, P3, P4, P5, Lib.hid (fun L hL => by
          obtain ⟨j, hj, rfl⟩ := List.getElem_of_mem hL
          exact HX.out j hj _ (List.getElem?_eq_getElem hj))⟩
  case rest =>
  have BX6 := Lib.hid hcut.1
  have B6 := Lib.hid hcut.2.1
  have P6 := hcut.2.2.2.2.2.2
  clear hcut BX5 B5 hb1 hb2
  obtain ⟨w6, hw6⟩ : ∃ w', w' = wc := ⟨_, rfl⟩
  rw [← hw6] at BX6 B6 ⊢
  clear hw6
  have m_all : (f.all.length : Int) ≤ 9223372036854775807 := by omega
  have HMX := Lib.hid (@run_max7 Tryz.prog)
  go_upto_region 35 with fail
  refine region_pv (by kernel_rfl) [fun v => v = .agg (fileArr p0 p1 p2 p3 p4 p5 p6 p7 a0 a1 a2 a3 a4 a5 a6 a7 a8 a9 a10 a11 f), fun v => ∃ A c, v = .slice A f.all.length c, fun v => v = .int .i64 f.all.length, fun v => v = .pointer (some ⟨w.heap.size, 16, none⟩), fun v => v = .slice a7 f.refs.l.length f.refs.c, fun v => v = .int .i64 f.refs.l.length, fun v => v = .pointer (some ⟨w.heap.size, 17, none⟩), fun v => v = .slice a8 f.rf.l.length f.rf.c, fun v => v = .int .i64 f.rf.l.length, fun v => v = .pointer (some ⟨w.heap.size, 20, none⟩), fun v => v = .slice a11 f.rn.l.length f.rn.c, fun v => v = .int .i64 f.rn.l.length, fun v => v = .pointer (some ⟨w.heap.size, 9, none⟩), fun v => v = .slice a0 f.im.l.length f.im.c, fun v => v = .int .i64 f.im.l.length, fun v => v = .pointer (some ⟨w.heap.size, 10, none⟩), fun v => v = .slice a1 f.pk.l.length f.pk.c, fun v => v = .int .i64 f.pk.l.length, fun v => v = .pointer (some ⟨w.heap.size, 11, none⟩), fun v => v = .slice a2 f.fi.l.length f.fi.c, fun v => v = .int .i64 f.fi.l.length, fun v => v = .int .i64 (mxI (mxI (mxI (mxI (mxI (mxI (f.all.length : Int) f.refs.l.length) f.rf.l.length) f.rn.l.length) f.im.l.length) f.pk.l.length) f.fi.l.length), fun v => v = .int .i64 (mxI (mxI (mxI (mxI (mxI (mxI (f.all.length : Int) f.refs.l.length) f.rf.l.length) f.rn.l.length) f.im.l.length) f.pk.l.length) f.fi.l.length)] [101, 102, 103, 104, 105, 106, 107, 108, 109, 110, 111, 112, 113, 114, 115, 116, 117, 118, 119, 120, 121, 122, 15] (by kernel_rfl) ?_ ?_
  · refine Steps.cons ?_ (Steps.cons ?_ (Steps.cons ?_ (Steps.cons ?_ (Steps.cons ?_ (Steps.cons ?_ (Steps.cons ?_ (Steps.cons ?_ (Steps.cons ?_ (Steps.cons ?_ (Steps.cons ?_ (Steps.cons ?_ (Steps.cons ?_ (Steps.cons ?_ (Steps.cons ?_ (Steps.cons ?_ (Steps.cons ?_ (Steps.cons ?_ (Steps.cons ?_ (Steps.cons ?_ (Steps.cons ?_ (Steps.cons ?_ (Steps.cons ?_ (Steps.nil)))))))))))))))))))))))
    all_goals (intro f_ W hW hd K hK; rw [if_pos (by rfl)]; simp only [over, List.foldl_cons, List.foldl_nil, List.setIfInBounds_toArray, List.set_cons_zero, List.set_cons_succ, Act.put] at hK ⊢; simp only [Deps, List.filter, Region.binds, psv, List.getD_cons_zero, List.getD_cons_succ, List.getElem?_cons_zero, List.getElem?_cons_succ, Option.getD_some] at hd)
    · clear hd
      refine wp_load_row 33 (.tmp 1) rfl w.heap.size rfl 33 _ (0, 0) _ (BX6.out.drew.here hW) Tryz.underlying33 rfl Tryz.fileInfo ?_
      exact hK _ _ rfl (later_refl _)
    · have h0 := hd.1
      clear hd
      rw [h0] at hK ⊢
      go_simp
      go_at_call 8
      refine (AL.out W (below_from B6.out.drew hW)).mono ?_
      rintro e_ w1 ⟨A, c_, rfl, _, _, h3⟩
      exact hK _ _ ⟨A, c_, rfl⟩ h3
    · have hd0 := hd.1
      clear hd
      obtain ⟨A, c_, h0⟩ := hd0
      rw [h0] at hK ⊢
      go_simp
      exact hK _ _ rfl (later_refl _)
    · clear hd
      go_simp
      exact hK _ _ rfl (later_refl _)
    · have h0 := hd.1
      clear hd
      have hc := (BX6.out.drew.here hW).cell 16
      rw [h0] at hK ⊢
      go_simp
      exact hK _ _ rfl (later_refl _)
    · have h0 := hd.1
      clear hd
      rw [h0] at hK ⊢
      go_simp
      exact hK _ _ rfl (later_refl _)
    · clear hd
      go_simp
      exact hK _ _ rfl (later_refl _)
    · have h0 := hd.1
      clear hd
      have hc := (BX6.out.drew.here hW).cell 17
      rw [h0] at hK ⊢
      go_simp
      exact hK _ _ rfl (later_refl _)
    · have h0 := hd.1
      clear hd
      rw [h0] at hK ⊢
      go_simp
      exact hK _ _ rfl (later_refl _)
    · clear hd
      go_simp
      exact hK _ _ rfl (later_refl _)
    · have h0 := hd.1
      clear hd
      have hc := (BX6.out.drew.here hW).cell 20
      rw [h0] at hK ⊢
      go_simp
      exact hK _ _ rfl (later_refl _)
    · have h0 := hd.1
      clear hd
      rw [h0] at hK ⊢
      go_simp
      exact hK _ _ rfl (later_refl _)
    · clear hd
      go_simp
      exact hK _ _ rfl (later_refl _)
    · have h0 := hd.1
      clear hd
      have hc := (BX6.out.drew.here hW).cell 9
      rw [h0] at hK ⊢
      go_simp
      exact hK _ _ rfl (later_refl _)
    · have h0 := hd.1
      clear hd
      rw [h0] at hK ⊢
      go_simp
      exact hK _ _ rfl (later_refl _)
    · clear hd
      go_simp
      exact hK _ _ rfl (later_refl _)
    · have h0 := hd.1
      clear hd
      have hc := (BX6.out.drew.here hW).cell 10
      rw [h0] at hK ⊢
      go_simp
      exact hK _ _ rfl (later_refl _)
    · have h0 := hd.1
      clear hd
      rw [h0] at hK ⊢
      go_simp
      exact hK _ _ rfl (later_refl _)
    · clear hd
      go_simp
      exact hK _ _ rfl (later_refl _)
    · have h0 := hd.1
      clear hd
      have hc := (BX6.out.drew.here hW).cell 11
      rw [h0] at hK ⊢
      go_simp
      exact hK _ _ rfl (later_refl _)
    · have h0 := hd.1
      clear hd
      rw [h0] at hK ⊢
      go_simp
      exact hK _ _ rfl (later_refl _)
    · have h0 := hd.1
      have h1 := hd.2.1
      have h2 := hd.2.2.1
      have h3 := hd.2.2.2.1
      have h4 := hd.2.2.2.2.1
      have h5 := hd.2.2.2.2.2.1
      have h6 := hd.2.2.2.2.2.2.1
      clear hd
      rw [h0] at hK ⊢
      rw [h1] at hK ⊢
      rw [h2] at hK ⊢
      rw [h3] at hK ⊢
      rw [h4] at hK ⊢
      rw [h5] at hK ⊢
      rw [h6] at hK ⊢
      have hmx := HMX.out
      go_simp
      exact hK _ _ rfl (later_refl _)
    · have h0 := hd.1
      clear hd
      rw [h0] at hK ⊢
      go_simp
      exact hK _ _ rfl (later_refl _)
  · intro f_ W hW hd
    have h15 : f_ 15 = .int .i64 (mxI (mxI (mxI (mxI (mxI (mxI (f.all.length : Int) f.refs.l.length) f.rf.l.length) f.rn.l.length) f.im.l.length) f.pk.l.length) f.fi.l.length) := hd 22 (by decide)
    clear hd
    have BX7 := Lib.hid (BX6.out.drew.here hW)
    have B7 := Lib.hid (below_from B6.out.drew hW)
    obtain ⟨mm, hmm⟩ : ∃ mm, mm = mxI (mxI (mxI (mxI (mxI (mxI (f.all.length : Int) f.refs.l.length) f.rf.l.length) f.rn.l.length) f.im.l.length) f.pk.l.length) f.fi.l.length := ⟨_, rfl⟩
    have k1 := BX7.out.cell 18
    have k2 := BX7.out.cell 13
    have k3 := BX7.out.cell 19
    have k4 := BX7.out.cell 14
    rw [← hmm] at h15
    simp only [over, List.foldl_cons, List.foldl_nil, List.setIfInBounds_toArray, List.set_cons_zero, List.set_cons_succ, h15]
    have HM := Lib.hid hmm
    clear hmm h15 hW
    have ms : (f.short.l.length : Int) ≤ 9223372036854775807 := by have := HBL.out f.short (by simp [FM.lists]); omega
    have mh : (f.hashed.l.length : Int) ≤ 9223372036854775807 := by have := HBL.out f.hashed (by simp [FM.lists]); omega
    by_cases t1 : mm ≤ 60
    · by_cases t2 : f.h64.l.length = f.short.l.length
      · by_cases t3 : f.hs.l.length = f.hashed.l.length
        · have SMALL := Lib.hid (show f.Small from by
            have h := HM.out
            rw [h] at t1
            simp only [mxI_le] at t1
            obtain ⟨⟨⟨⟨⟨⟨q1, q2⟩, q3⟩, q4⟩, q5⟩, q6⟩, q7⟩ := t1
            refine ⟨HI.out.fp.1, fun x hx => (HI.out.imk x hx).2.1, fun x hx => (HI.out.hsk x hx).1, fun s hs => ?_, fun d hd => ⟨(P2.out d hd).2.1, (P2.out d hd).2.2.1, (P2.out d hd).2.2.2⟩, by omega, by omega, by omega, by omega, by omega, by omega, by omega, t2, t3⟩
            simp only [FM.names, List.mem_cons, List.mem_append, List.mem_map] at hs
            rcases hs with rfl | ⟨x, hx, rfl⟩ | hs | hs | ⟨x, hx, rfl⟩ | ⟨x, hx, rfl⟩ | ⟨x, hx, rfl⟩
            · show 0 ≤ 100; omega
            · exact P5.out x hx
            · exact P6.out f.pk (by simp) s hs
            · exact P6.out f.fi (by simp) s hs
            · exact (P2.out x hx).1
            · exact P3.out x hx
            · exact P4.out x hx)
          have e2 : ((f.h64.l.length : Int) == f.short.l.length) = true := by simp [t2]
          have e3 : ((f.hs.l.length : Int) == f.hashed.l.length) = true := by simp [t3]
          clear t2 t3
          go_wp2_with fail
          go_returns
          exact ⟨_, rfl, fun _ => SMALL.out, B7.out⟩
        · have e2 : ((f.h64.l.length : Int) == f.short.l.length) = true := by simp [t2]
          have e3 : ((f.hs.l.length : Int) == f.hashed.l.length) = false := by simp; omega
          clear t2 t3
          go_wp2_with fail
          go_returns
          exact ⟨false, rfl, fun h => (by simp at h), B7.out⟩
      · have e2 : ((f.h64.l.length : Int) == f.short.l.length) = false := by simp; omega
        clear t2
        go_wp2_with fail
        go_returns
        exact ⟨false, rfl, fun h => (by simp at h), B7.out⟩
    · have t1' : 60 < mm := by omega
      go_wp2_with fail
      go_returns
      exact ⟨false, rfl, fun h => (by simp at h), B7.out⟩
end Go.Proofs.YtajeinkkfggcbaaGreatDoor
