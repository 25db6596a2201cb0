/- Laws on an object file: symbols read again. (printed by gen_fl13.py) -/
import Derived.Test.YtajeinkkfggcbaaGreatDoorSmall
import Derived.Test.YtajeinkkfggcbaaGreatDoorBuild
import Derived.Test.YtajeinkkfggcbaaGreatDoorImplG
import Derived.Test.YtajeinkkfggcbaaGreatDoorImplN
namespace Go.Proofs.YtajeinkkfggcbaaGreatDoor
open Go.RowKit

abbrev dnCells (d : Df) : List Value := nsCells d.sym
theorem syms_cells (f : FM) : f.syms.flatMap nsCells = f.all.flatMap dnCells ++ f.refs.l.flatMap Rf.cells := by
  unfold FM.syms
  rw [List.flatMap_append, List.flatMap_map, List.flatMap_map]
theorem Tryz.infoRf : (Tryz.prog.info? 46).map (fun i => (i.zero, i.size, i.bytes)) = some (some (.agg #[.string ⟨#[]⟩, .int .u16 0, .int .u8 0, .int .u8 0, .int .u8 0, .int .u32 0, .int .u32 0]), 7, 32) := by kernel_rfl
theorem run_neq_rf (nm : ByteArray) (sy : Sy) (W : World) : (binOp .neq 46 (.agg #[.string nm, .int .u16 sy.abi, .int .u8 sy.kind, .int .u8 sy.flag, .int .u8 sy.flag2, .int .u32 sy.size, .int .u32 sy.align]) (.agg #[.string nm, .int .u16 sy.abi, .int .u8 sy.kind, .int .u8 sy.flag, .int .u8 sy.flag2, .int .u32 sy.size, .int .u32 sy.align])).run Tryz.prog W = .ok (.bool false) W := by
  have hs := run_equalIn_string (P := Tryz.prog) W 9998 9 nm nm Tryz.underlying9
  rw [run_neq_struct, run_equalIn_agg W 9999 _ _ _ (by kernel_rfl) (by kernel_rfl)]
  go_simp
theorem own_apart {w : World} {b1 b2 s1 s2 n1 n2 : Nat} {e1 e2 : TypeId} {v1 v2 : Value} {x1 x2 : List Value} (h1 : w.ownsRow b1 e1 s1 v1 n1 x1) (h2 : w.ownsRow b2 e2 s2 v2 n2 x2) (he : e1 ≠ e2) : ∀ k, v1.ownBlock = some k → v2.ownBlock ≠ some k := by
  intro k hk hk2
  rcases h1.2 with ⟨rfl, _⟩ | ⟨g, cap, cur, rfl, _, hg, _⟩
  · simp [Value.ownBlock] at hk
  · simp [Value.ownBlock] at hk
    subst hk
    exact own_ne_type h2 hg he hk2
set_option maxRecDepth 100000 in
set_option maxHeartbeats 4000000 in
theorem fnFileSymbols_walk (f : FM) (w : World) (hI : f.In w) : Calls Tryz.prog 3 #[f.val] w (LawEnd w) := by
  obtain ⟨p0, p1, p2, p3, p4, p5, p6, p7, a0, a1, a2, a3, a4, a5, a6, a7, a8, a9, a10, a11, efp, hA, e⟩ := FM.val_eq hI.fp.1
  have HE := Lib.hid e
  have EFP := Lib.hid efp
  rw [e]
  clear e efp
  have HI := Lib.hid hI
  have HA := Lib.hid hA
  obtain ⟨w0, hw0⟩ : ∃ w0, w0 = w.alloc (.cells (fileArr p0 p1 p2 p3 p4 p5 p6 p7 a0 a1 a2 a3 a4 a5 a6 a7 a8 a9 a10 a11 f) 33) := ⟨_, rfl⟩
  have BX0 := Lib.hid (show Blk w0 w.heap.size 33 (fileArr p0 p1 p2 p3 p4 p5 p6 p7 a0 a1 a2 a3 a4 a5 a6 a7 a8 a9 a10 a11 f) from by rw [hw0]; exact Blk.new _ _ _)
  have B0 := Lib.hid (show Below w.heap.size w w0 from by rw [hw0]; exact later_alloc _ _)
  have HW := Lib.hid hw0
  have Z6 := Lib.hid (show Calls Tryz.prog 5 #[.agg (fileArr p0 p1 p2 p3 p4 p5 p6 p7 a0 a1 a2 a3 a4 a5 a6 a7 a8 a9 a10 a11 f)] w0 (RetIf (∀ L ∈ f.lists, L.l.length ≤ 2147483647) w0) from by have h := zz6_any f w0 (HI.out.here B0.out); rw [HE.out] at h; exact h)
  have SMA := Lib.hid (fun (W : World) (hb : Below w.heap.size w W) (hL : ∀ L ∈ f.lists, L.l.length ≤ 2147483647) => show Calls Tryz.prog 6 #[.agg (fileArr p0 p1 p2 p3 p4 p5 p6 p7 a0 a1 a2 a3 a4 a5 a6 a7 a8 a9 a10 a11 f)] W (RetIf f.Small W) from by have h := small_any f W (HI.out.here hb) hL; rw [HE.out] at h; exact h)
  have BFA := Lib.hid (fun (W : World) (hb : Below w.heap.size w W) (S : f.Small) => show Calls Tryz.prog 7 #[.agg (fileArr p0 p1 p2 p3 p4 p5 p6 p7 a0 a1 a2 a3 a4 a5 a6 a7 a8 a9 a10 a11 f)] W (RetB f.bytes W) from by have h := buildFile_any f W (HI.out.here hb) S; rw [HE.out] at h; exact h)
  have ALL := Lib.hid (fun (W : World) (hb : Below w.heap.size w W) (hL : ∀ L ∈ f.lists, L.l.length ≤ 2147483647) => show Calls Tryz.prog 8 #[.agg (fileArr p0 p1 p2 p3 p4 p5 p6 p7 a0 a1 a2 a3 a4 a5 a6 a7 a8 a9 a10 a11 f)] W (AllOwn f W) from by have h := all_own f w W HI.out hb hL; rw [HE.out] at h; exact h)
  clear hI hA hw0
  go_enter Tryz.func3, Tryz.ntmps3
  go_upto_region 1 with fail
  rw [← HW.out]
  go_wp2_with (refine wpList_load_row rfl 33 (.tmp 1) rfl w.heap.size rfl 33 _ (0, 0) _ BX0.out Tryz.underlying33 rfl Tryz.fileInfo ?_)
  refine Z6.out.mono ?_
  rintro e w1 ⟨b1, rfl, hp1, hb1⟩
  have BX1 := Lib.hid (BX0.out.here hb1)
  have B1 := Lib.hid (below_from B0.out hb1)
  clear hb1
  rcases b1 with _ | _
  · go_wp2_with fail
    go_returns
    exact ⟨rfl, B1.out⟩
  have FL := Lib.hid (hp1 rfl)
  clear hp1 BX0 B0 Z6 HW
  go_wp2_with (refine wpList_load_row rfl 33 (.tmp 1) rfl w.heap.size rfl 33 _ (0, 0) _ BX1.out Tryz.underlying33 rfl Tryz.fileInfo ?_)
  refine (SMA.out w1 B1.out FL.out).mono ?_
  rintro e w2 ⟨b2, rfl, hp2, hb2⟩
  have BX2 := Lib.hid (BX1.out.here hb2)
  have B2 := Lib.hid (below_from B1.out hb2)
  clear hb2
  rcases b2 with _ | _
  · go_wp2_with fail
    go_returns
    exact ⟨rfl, B2.out⟩
  have SM := Lib.hid (hp2 rfl)
  clear hp2 BX1 B1 SMA
  go_wp2_with (refine wpList_load_row rfl 33 (.tmp 1) rfl w.heap.size rfl 33 _ (0, 0) _ BX2.out Tryz.underlying33 rfl Tryz.fileInfo ?_)
  refine (BFA.out w2 B2.out SM.out).mono ?_
  rintro e w3 ⟨A3, c3, rfl, s3, k3, hb3⟩
  have len0 := FM.bytes_len SM.out
  have len1 := f.at_mono 0 18 (by omega)
  obtain ⟨d, o, rfl, at3⟩ := s3.at_ (by omega)
  have BX3 := Lib.hid (BX2.out.here hb3)
  have B3 := Lib.hid (below_from B2.out hb3)
  obtain ⟨n, hn⟩ : ∃ n, n = f.bytes.length := ⟨_, rfl⟩
  rw [← hn] at k3 len0 ⊢
  have D3 := Lib.hid (show Dat f d o n c3 w3 from ⟨hn, SM.out, HI.out.flags, k3, at3, at3.lt (by rw [← hn]; omega)⟩)
  have n0 : (96 : Int) ≤ n := by omega
  have n1 : (n : Int) ≤ 110000 := by omega
  have n2 : (n : Int) ≤ c3 := by omega
  clear len0 len1 hn s3 k3 at3 hb3 BX2 B2
  obtain ⟨i0, hi0, hz0, hz1, hz2⟩ := info_parts Tryz.infoRf
  obtain ⟨w4, hw4⟩ : ∃ w4, w4 = w3.alloc (.cells #[] 46) := ⟨_, rfl⟩
  have HW4 := Lib.hid hw4
  have B34 := Lib.hid (show Below w3.heap.size w3 w4 from by rw [hw4]; exact later_alloc _ _)
  have OW4 := Lib.hid (show w4.ownsRow w3.heap.size 46 7 (.slice (some ⟨w3.heap.size, 0, none⟩) 0 0) 0 [] from by rw [hw4]; exact World.ownsRow_made (base := w3.heap.size) (e := 46) (size := 7) w3 #[] 0 (Nat.le_refl _) (by simp) (by simp))
  have BX4 := Lib.hid (BX3.out.here B34.out)
  have B4 := Lib.hid (below_from B3.out B34.out)
  clear hw4
  go_upto_region 7 with fail
  rw [← HW4.out]
  go_wp2_with (refine wpList_load_row rfl 33 (.tmp 1) rfl w.heap.size rfl 33 _ (0, 0) _ BX4.out Tryz.underlying33 rfl Tryz.fileInfo ?_)
  refine (ALL.out w4 B4.out FL.out).mono ?_
  rintro e w5 ⟨LA, LC, lbase, rfl, hown, hcap, hb5⟩
  have B5 := Lib.hid (below_from B34.out hb5)
  have OW5 := Lib.hid (own_here OW4.out hb5)
  have LO := Lib.hid hown
  have y60 := SM.out.all
  have y0 : (0 : Int) ≤ f.all.length := by omega
  have y1 : (f.all.length : Int) ≤ 60 := by omega
  have B5' := B5.out.size
  clear hown hcap hb5 BX4 B4
  go_wp2_with fail
  go_loopw [4, 6, 23] (fun v _ i wr => ∃ k : Nat, k ≤ f.all.length ∧ i = .int .i64 k ∧ wr.ownsRow w3.heap.size 46 7 v k ((f.all.take k).flatMap dnCells) ∧ wr.ownsRow lbase 44 10 (.slice LA f.all.length LC) f.all.length (f.all.flatMap Df.cells) ∧ Below w3.heap.size w3 wr) (fun _ _ i _ => f.all.length - (intOf i).toNat)
  case atStart => exact ⟨0, by omega, rfl, OW5.out, LO.out, B5.out⟩
  case round =>
    obtain ⟨k, hk, rfl, ho, hl, hb⟩ := hrel
    have HO := Lib.hid ho
    have HB := Lib.hid hb
    have HL := Lib.hid hl
    have zb := hb.size
    by_cases hlt : k < f.all.length
    · obtain ⟨bb, oo, rfl, hc⟩ := SlR.at_ (SlR.of_own hl (fun x _ => df_cells_len x) rfl) k hlt
      have HT := Lib.hid (show (f.all.take (k + 1)).flatMap dnCells = (f.all.take k).flatMap dnCells ++ dnCells f.all[k] from by rw [List.take_succ_eq_append_getElem hlt, List.flatMap_append]; simp)
      have q0 := hc 0 _ rfl
      have q1 := hc 1 _ rfl
      have q2 := hc 2 _ rfl
      have q3 := hc 3 _ rfl
      have q4 := hc 4 _ rfl
      have q5 := hc 5 _ rfl
      have q6 := hc 6 _ rfl
      have q7 := hc 7 _ rfl
      have q8 := hc 8 _ rfl
      have q9 := hc 9 _ rfl
      rw [Nat.add_zero] at q0
      generalize f.all[k] = x at *
      obtain ⟨nm, sy, ⟨RA, rc, rl⟩, ⟨XA, xc, xl⟩, dt⟩ := x
      dsimp only at q0 q1 q2 q3 q4 q5 q6 q7 q8 q9
      obtain ⟨w6, hw6⟩ : ∃ w6, w6 = wr.alloc (.cells #[.string nm, .int .u16 sy.abi, .int .u8 sy.kind, .int .u8 sy.flag, .int .u8 sy.flag2, .int .u32 sy.size, .int .u32 sy.align, .slice RA rl.length rc, .slice XA xl.length xc, .string dt] 44) := ⟨_, rfl⟩
      have HW6 := Lib.hid hw6
      have BK := Lib.hid (show Blk w6 wr.heap.size 44 #[.string nm, .int .u16 sy.abi, .int .u8 sy.kind, .int .u8 sy.flag, .int .u8 sy.flag2, .int .u32 sy.size, .int .u32 sy.align, .slice RA rl.length rc, .slice XA xl.length xc, .string dt] from by rw [hw6]; exact Blk.new _ _ _)
      have BW6 := Lib.hid (show Below wr.heap.size wr w6 from by rw [hw6]; exact later_alloc _ _)
      have B6 := Lib.hid (HB.out.trans (BW6.out.mono zb))
      have O6 := Lib.hid (own_here HO.out BW6.out)
      have L6 := Lib.hid (own_here HL.out BW6.out)
      have bkc := BK.out.cell
      have z6 := B6.out.size
      have i3 : (k : Int) < 60 := by omega
      have i4 : (0 : Int) ≤ (k : Int) := by omega
      clear ho hb hl hc hw6
      go_upto_region 10 with fail
      rw [← HW6.out]
      clear q0 q1 q2 q3 q4 q5 q6 q7 q8 q9
      go_wp2_with (at_builtin; refine wpList_append_sl rfl _ _ 27 rfl w3.heap.size 46 i0 _ 7 32 Tryz.underlying27 hi0 hz0 hz1 hz2 rfl (by decide) _ k _ rfl (O6.out.alloc _) (some ⟨w6.heap.size, 0, none⟩) 1 1 (dnCells ⟨nm, sy, ⟨RA, rc, rl⟩, ⟨XA, xc, xl⟩, dt⟩) rfl rfl (src_new w6 _ _ _ rfl 1 _ (Below.refl _ _)) (by simp [Value.oneCell']) (by unfold maxLen; omega) (by omega) (by simp; omega) ?_; intro A1 C1 w8 hown8 hgrow8)
      have B8 : Below w3.heap.size w3 w8 := (B6.out.alloc z6 _).grown hgrow8 (by simp; omega) (fun k hk => (O6.out.lt k hk).1)
      go_roundw
      case rel => exact ⟨k + 1, by omega, by go_num, by rw [HT.out]; exact hown8, own_grown (L6.out.alloc _) hgrow8 (own_apart (L6.out.alloc _) (O6.out.alloc (.cells (dnCells ⟨nm, sy, ⟨RA, rc, rl⟩, ⟨XA, xc, xl⟩, dt⟩).toArray 46)) (by decide)), B8⟩
      case measure => simp [intOf]; omega
    · obtain rfl : k = f.all.length := by omega
      rw [List.take_length] at ho
      obtain ⟨wa, hwa⟩ : ∃ wa : World, wa = wr := ⟨_, rfl⟩
      rw [← hwa] at ho hb ⊢
      have HOA := Lib.hid ho
      have BA := Lib.hid hb
      have BXA := Lib.hid (show Blk wa w.heap.size 33 (fileArr p0 p1 p2 p3 p4 p5 p6 p7 a0 a1 a2 a3 a4 a5 a6 a7 a8 a9 a10 a11 f) from BX3.out.below hb (by have := BX3.out.lt; omega))
      have DA := Lib.hid (D3.out.here hb)
      have SRF := Lib.hid (show SlR 7 wa a7 (f.refs.l.map Rf.cells) from by have h := HI.out.refs.here (B3.out.trans (hb.mono B3.out.size)); rwa [HA.out.refs] at h)
      have R60 := SM.out.refs
      have r0 : (0 : Int) ≤ f.refs.l.length := by omega
      have r1 : (f.refs.l.length : Int) ≤ 60 := by omega
      have bxc := BXA.out.cell 16
      have zba := hb.size
      clear ho hb hl HO HB HL hwa OW4 OW5
      go_wp2_with (at_builtin; refine wpList_append_sl rfl _ _ 27 rfl w3.heap.size 46 i0 _ 7 32 Tryz.underlying27 hi0 hz0 hz1 hz2 rfl (by decide) _ f.all.length _ rfl HOA.out a7 f.refs.l.length f.refs.c (f.refs.l.flatMap Rf.cells) rfl (flat_len _ (fun _ _ => rfl)) (SRF.out.src (fun _ _ => rfl)) (flat_one _ (fun _ _ => by simp [Rf.cells, Value.oneCell'])) (by unfold maxLen; omega) (by omega) zba ?_; intro A7 C7 w7 hown7 hgrow7)
      have B7 := Lib.hid (BA.out.grown hgrow7 zba (fun k hk => (HOA.out.lt k hk).1))
      have D7 := Lib.hid (D3.out.here B7.out)
      obtain ⟨sl, hsl⟩ : ∃ sl, sl = f.syms.length := ⟨_, rfl⟩
      have SLN := Lib.hid (hsl.trans f.syms_len)
      have HSL := Lib.hid hsl
      have SS := Lib.hid (show SlR 7 w7 A7 (f.syms.map nsCells) from SlR.of_own (n := 7) (f := nsCells) (l := f.syms) (by rw [syms_cells]; exact hown7) (fun _ _ => rfl) (by rw [f.syms_len]))
      have s0 : (0 : Int) ≤ (f.all.length : Int) + f.refs.l.length := by omega
      clear hown7 hgrow7 HOA hsl
      go_wp2_with fail
      have z7 := B7.out.size
      have sle : sl ≤ 120 := by have := SLN.out; omega
      have sle2 : ((f.all.length : Int) + f.refs.l.length) = sl := by have := SLN.out; omega
      have SLE := Lib.hid sle2
      rw [SLE.out]
      go_loopw [7, 8, 9, 10, 42] (fun _ _ _ _ i wr => ∃ k : Nat, k ≤ sl ∧ i = .int .i64 k ∧ Below w7.heap.size w7 wr) (fun _ _ _ _ i _ => sl - (intOf i).toNat)
      case atStart => exact ⟨0, by omega, rfl, Below.refl _ _⟩
      case round =>
        obtain ⟨k, hk, rfl, hb⟩ := hrel
        have HB := Lib.hid hb
        have zb := hb.size
        have y1' : (k : Int) ≤ sl := by omega
        by_cases hlt : k < sl
        · have hlt' : k < f.syms.length := by rw [← HSL.out]; exact hlt
          obtain ⟨bb, oo, hA, hc⟩ := SlR.at_ (SS.out.here hb) k hlt'
          obtain rfl : A7 = some ⟨bb, oo, none⟩ := hA
          have CON := Lib.hid (fun (W : World) (hD : Dat f d o n c3 W) => show Calls Tryz.prog 9 #[.slice (some ⟨d, o, none⟩) n c3, .int .u32 k] W (RetV (.tuple #[.agg (nsCells f.syms[k]).toArray, .int .i64 f.syms[k].1.size]) W) from fileSymbol_any hD k hlt' (FM.syms_ok HI.out k hlt'))
          have q0 := hc 0 _ rfl
          have q1 := hc 1 _ rfl
          have q2 := hc 2 _ rfl
          have q3 := hc 3 _ rfl
          have q4 := hc 4 _ rfl
          have q5 := hc 5 _ rfl
          have q6 := hc 6 _ rfl
          rw [Nat.add_zero] at q0
          generalize f.syms[k] = x at *
          obtain ⟨nm, sy⟩ := x
          dsimp only at q0 q1 q2 q3 q4 q5 q6 CON
          obtain ⟨w8, hw8⟩ : ∃ w8, w8 = wr.alloc (.cells #[.string nm, .int .u16 sy.abi, .int .u8 sy.kind, .int .u8 sy.flag, .int .u8 sy.flag2, .int .u32 sy.size, .int .u32 sy.align] 46) := ⟨_, rfl⟩
          have HW8 := Lib.hid hw8
          have BK := Lib.hid (show Blk w8 wr.heap.size 46 #[.string nm, .int .u16 sy.abi, .int .u8 sy.kind, .int .u8 sy.flag, .int .u8 sy.flag2, .int .u32 sy.size, .int .u32 sy.align] from by rw [hw8]; exact Blk.new _ _ _)
          have B8 := Lib.hid (show Below w7.heap.size w7 w8 from by rw [hw8]; exact HB.out.alloc zb _)
          have D8 := Lib.hid (D7.out.here B8.out)
          have i3 : (k : Int) < 120 := by omega
          have i4 : (0 : Int) ≤ (k : Int) := by omega
          have i5 : (k : Int) < sl := by omega
          have i6 : IntKind.u32.wrap (k : Int) = (k : Int) := by rw [IntKind.wrap_u32]; omega
          clear hb hc hw8
          go_upto_region 16 with fail
          rw [← HW8.out]
          clear q0 q1 q2 q3 q4 q5 q6
          go_wp2_with fail
          refine (CON.out w8 D8.out).mono ?_
          rintro e w9 ⟨rfl, hb9⟩
          obtain ⟨w10, hw10⟩ : ∃ w10, w10 = w9.alloc (.cells #[.string nm, .int .u16 sy.abi, .int .u8 sy.kind, .int .u8 sy.flag, .int .u8 sy.flag2, .int .u32 sy.size, .int .u32 sy.align] 46) := ⟨_, rfl⟩
          have HW10 := Lib.hid hw10
          have BN := Lib.hid (show Blk w10 w9.heap.size 46 #[.string nm, .int .u16 sy.abi, .int .u8 sy.kind, .int .u8 sy.flag, .int .u8 sy.flag2, .int .u32 sy.size, .int .u32 sy.align] from by rw [hw10]; exact Blk.new _ _ _)
          have BK10 := Lib.hid (show Blk w10 wr.heap.size 46 #[.string nm, .int .u16 sy.abi, .int .u8 sy.kind, .int .u8 sy.flag, .int .u8 sy.flag2, .int .u32 sy.size, .int .u32 sy.align] from by rw [hw10]; exact (BK.out.here hb9).alloc _)
          have B10 := Lib.hid (show Below w7.heap.size w7 w10 from by rw [hw10]; exact (below_from B8.out hb9).alloc (below_from B8.out hb9).size _)
          clear hb9 hw10
          go_upto_region 17 with fail
          rw [← HW10.out]
          have e0 := BN.out.cell 0
          have g0 := BK10.out.cell 0
          have e1 := BN.out.cell 1
          have g1 := BK10.out.cell 1
          have e2 := BN.out.cell 2
          have g2 := BK10.out.cell 2
          have e3 := BN.out.cell 3
          have g3 := BK10.out.cell 3
          have e4 := BN.out.cell 4
          have g4 := BK10.out.cell 4
          have e5 := BN.out.cell 5
          have g5 := BK10.out.cell 5
          have e6 := BN.out.cell 6
          have g6 := BK10.out.cell 6
          have nq : ∀ W : World, (binOp .neq 46 (.agg #[.string nm, .int .u16 sy.abi, .int .u8 sy.kind, .int .u8 sy.flag, .int .u8 sy.flag2, .int .u32 sy.size, .int .u32 sy.align]) (.agg #[.string nm, .int .u16 sy.abi, .int .u8 sy.kind, .int .u8 sy.flag, .int .u8 sy.flag2, .int .u32 sy.size, .int .u32 sy.align])).run Tryz.prog W = .ok (.bool false) W := fun W => run_neq_rf nm sy W
          go_wp2_with fail
          go_roundw
          case rel => exact ⟨k + 1, by omega, by go_num, B10.out⟩
          case measure => simp [intOf]; omega
        · obtain rfl : k = sl := by omega
          go_wp2_with fail
          go_returns
          exact ⟨by simp; omega, B3.out.trans ((B7.out.trans (HB.out.mono z7)).mono B3.out.size)⟩
theorem fnFileSymbols_any {H : Type} {enc : TypeId × Value → H} (x0 x1 x2 x3 x4 x5 x6 x7 x8 : Int) (x9 x10 x11 x12 x13 x14 x15 x16 x17 x18 x19 x20 : Value) (w : World) (b0 : 0 ≤ x0 ∧ x0 < 256) (b1 : 0 ≤ x1 ∧ x1 < 256) (b2 : 0 ≤ x2 ∧ x2 < 256) (b3 : 0 ≤ x3 ∧ x3 < 256) (b4 : 0 ≤ x4 ∧ x4 < 256) (b5 : 0 ≤ x5 ∧ x5 < 256) (b6 : 0 ≤ x6 ∧ x6 < 256) (b7 : 0 ≤ x7 ∧ x7 < 256) (b8 : 0 ≤ x8 ∧ x8 < 4294967296) (b9 : Rd enc Tryz.prog w 24 [x9]) (b10 : Rd enc Tryz.prog w 25 [x10]) (b11 : Rd enc Tryz.prog w 25 [x11]) (b12 : Rd enc Tryz.prog w 26 [x12]) (b13 : Rd enc Tryz.prog w 26 [x13]) (b14 : Rd enc Tryz.prog w 26 [x14]) (b15 : Rd enc Tryz.prog w 26 [x15]) (b16 : Rd enc Tryz.prog w 27 [x16]) (b17 : Rd enc Tryz.prog w 28 [x17]) (b18 : Rd enc Tryz.prog w 29 [x18]) (b19 : Rd enc Tryz.prog w 30 [x19]) (b20 : Rd enc Tryz.prog w 31 [x20]) : Calls Tryz.prog 3 #[.agg #[.int .u8 x0, .int .u8 x1, .int .u8 x2, .int .u8 x3, .int .u8 x4, .int .u8 x5, .int .u8 x6, .int .u8 x7, .int .u32 x8, x9, x10, x11, x12, x13, x14, x15, x16, x17, x18, x19, x20]] w (LawEnd w) := by
  obtain ⟨f, hI, e⟩ := Rd.file b0 b1 b2 b3 b4 b5 b6 b7 b8 b9 b10 b11 b12 b13 b14 b15 b16 b17 b18 b19 b20
  rw [← e]
  exact fnFileSymbols_walk f w hI
end Go.Proofs.YtajeinkkfggcbaaGreatDoor
