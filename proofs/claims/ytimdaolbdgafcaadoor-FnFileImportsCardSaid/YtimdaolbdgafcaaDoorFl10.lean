/- Laws on an object file: imports read again. (printed by gen_fl10.py) -/
import Derived.Test.YtimdaolbdgafcaaDoorSmall
import Derived.Test.YtimdaolbdgafcaaDoorBuild
import Derived.BigQuiet
import Derived.Test.YtimdaolbdgafcaaDoorImplK
namespace Go.Proofs.YtimdaolbdgafcaaDoor
open Go.RowKit

theorem run_eq_arr8 (d : Nat) (b0 b1 b2 b3 b4 b5 b6 b7 : Int) (W : World) : (Op.equalIn (d + 2) 22 (.agg #[.int .u8 b0, .int .u8 b1, .int .u8 b2, .int .u8 b3, .int .u8 b4, .int .u8 b5, .int .u8 b6, .int .u8 b7]) (.agg #[.int .u8 b0, .int .u8 b1, .int .u8 b2, .int .u8 b3, .int .u8 b4, .int .u8 b5, .int .u8 b6, .int .u8 b7])).run Tryd.prog W = .ok true W := by
  have hi : (Tryd.prog.info? 5).isSome = true := by kernel_rfl
  obtain ⟨i, hi⟩ := Option.isSome_iff_exists.1 hi
  have e : (#[.int .u8 b0, .int .u8 b1, .int .u8 b2, .int .u8 b3, .int .u8 b4, .int .u8 b5, .int .u8 b6, .int .u8 b7] : Array Value) = ([b0, b1, b2, b3, b4, b5, b6, b7].map (Value.int .u8)).toArray := rfl
  rw [e, run_equalIn_array W (d + 1) _ _ Tryd.underlying22 hi, eqItems_ints W d Tryd.underlying5 (by kernel_rfl) _ _ _ (fun j hj => by rw [List.mem_range] at hj; simpa using hj), all_range_eq _ _ 8 rfl rfl]
  simp
theorem run_neq_im (s : ByteArray) (b0 b1 b2 b3 b4 b5 b6 b7 : Int) (W : World) : (binOp .neq 75 (.agg #[.string s, .int .u8 b0, .int .u8 b1, .int .u8 b2, .int .u8 b3, .int .u8 b4, .int .u8 b5, .int .u8 b6, .int .u8 b7]) (.agg #[.string s, .int .u8 b0, .int .u8 b1, .int .u8 b2, .int .u8 b3, .int .u8 b4, .int .u8 b5, .int .u8 b6, .int .u8 b7])).run Tryd.prog W = .ok (.bool false) W := by
  have h8 := run_eq_arr8 9997 b0 b1 b2 b3 b4 b5 b6 b7
  have hs := run_equalIn_string (P := Tryd.prog) W 9998 9 s s Tryd.underlying9
  rw [run_neq_struct, run_equalIn_agg W 9999 _ _ _ (by kernel_rfl) (by kernel_rfl)]
  go_simp
set_option maxRecDepth 100000 in
set_option maxHeartbeats 1000000 in
theorem fnFileImports_walk (f : FM) (w : World) (hI : f.In w) : Calls Tryd.prog 12 #[f.val] w (LawEnd w) := by
  obtain ⟨p0, p1, p2, p3, p4, p5, p6, p7, a0, a1, a2, a3, a4, a5, a6, a7, a8, a9, a10, a11, efp, hA, e⟩ := FM.val_eq hI.fp.1
  have HE := Lib.hid e
  have EFP := Lib.hid efp
  rw [e]
  clear e efp
  have HI := Lib.hid hI
  have HA := Lib.hid hA
  obtain ⟨w0, hw0⟩ : ∃ w0, w0 = w.alloc (.cells (fileArr p0 p1 p2 p3 p4 p5 p6 p7 a0 a1 a2 a3 a4 a5 a6 a7 a8 a9 a10 a11 f) 33) := ⟨_, rfl⟩
  have BX0 := Lib.hid (show Blk w0 w.heap.size 33 (fileArr p0 p1 p2 p3 p4 p5 p6 p7 a0 a1 a2 a3 a4 a5 a6 a7 a8 a9 a10 a11 f) from by rw [hw0]; exact Blk.new _ _ _)
  have B0 := Lib.hid (show Below w.heap.size w w0 from by rw [hw0]; exact later_alloc _ _)
  have HW := Lib.hid hw0
  have Z6 := Lib.hid (show Calls Tryd.prog 17 #[.agg (fileArr p0 p1 p2 p3 p4 p5 p6 p7 a0 a1 a2 a3 a4 a5 a6 a7 a8 a9 a10 a11 f)] w0 (RetIf (∀ L ∈ f.lists, L.l.length ≤ 2147483647) w0) from by have h := zz6_any f w0 (HI.out.here B0.out); rw [HE.out] at h; exact h)
  have SMA := Lib.hid (fun (W : World) (hb : Below w.heap.size w W) (hL : ∀ L ∈ f.lists, L.l.length ≤ 2147483647) => show Calls Tryd.prog 18 #[.agg (fileArr p0 p1 p2 p3 p4 p5 p6 p7 a0 a1 a2 a3 a4 a5 a6 a7 a8 a9 a10 a11 f)] W (RetIf f.Small W) from by have h := small_any f W (HI.out.here hb) hL; rw [HE.out] at h; exact h)
  have BFA := Lib.hid (fun (W : World) (hb : Below w.heap.size w W) (S : f.Small) => show Calls Tryd.prog 19 #[.agg (fileArr p0 p1 p2 p3 p4 p5 p6 p7 a0 a1 a2 a3 a4 a5 a6 a7 a8 a9 a10 a11 f)] W (RetB f.bytes W) from by have h := buildFile_any f W (HI.out.here hb) S; rw [HE.out] at h; exact h)
  clear hI hA hw0
  go_enter Tryd.func12, Tryd.ntmps12
  go_upto_region 1 with fail
  rw [← HW.out]
  go_wp2_with (refine wpList_load_row rfl 33 (.tmp 1) rfl w.heap.size rfl 33 _ (0, 0) _ BX0.out Tryd.underlying33 rfl Tryd.fileInfo ?_)
  refine Z6.out.mono ?_
  rintro e w1 ⟨b1, rfl, hp1, hb1⟩
  have BX1 := Lib.hid (BX0.out.here hb1)
  have B1 := Lib.hid (below_from B0.out hb1)
  clear hb1
  rcases b1 with _ | _
  · go_wp2_with fail
    go_returns
    exact ⟨rfl, B1.out⟩
  have FL := Lib.hid (hp1 rfl)
  clear hp1 BX0 B0 Z6 HW
  go_wp2_with (refine wpList_load_row rfl 33 (.tmp 1) rfl w.heap.size rfl 33 _ (0, 0) _ BX1.out Tryd.underlying33 rfl Tryd.fileInfo ?_)
  refine (SMA.out w1 B1.out FL.out).mono ?_
  rintro e w2 ⟨b2, rfl, hp2, hb2⟩
  have BX2 := Lib.hid (BX1.out.here hb2)
  have B2 := Lib.hid (below_from B1.out hb2)
  clear hb2
  rcases b2 with _ | _
  · go_wp2_with fail
    go_returns
    exact ⟨rfl, B2.out⟩
  have SM := Lib.hid (hp2 rfl)
  clear hp2 BX1 B1 SMA
  go_wp2_with (refine wpList_load_row rfl 33 (.tmp 1) rfl w.heap.size rfl 33 _ (0, 0) _ BX2.out Tryd.underlying33 rfl Tryd.fileInfo ?_)
  refine (BFA.out w2 B2.out SM.out).mono ?_
  rintro e w3 ⟨A3, c3, rfl, s3, k3, hb3⟩
  have len0 := FM.bytes_len SM.out
  have len1 := f.at_mono 0 18 (by omega)
  obtain ⟨d, o, rfl, at3⟩ := s3.at_ (by omega)
  have BX3 := Lib.hid (BX2.out.here hb3)
  have B3 := Lib.hid (below_from B2.out hb3)
  obtain ⟨n, hn⟩ : ∃ n, n = f.bytes.length := ⟨_, rfl⟩
  rw [← hn] at k3 len0 ⊢
  have D3 := Lib.hid (show Dat f d o n c3 w3 from ⟨hn, SM.out, HI.out.flags, k3, at3, at3.lt (by rw [← hn]; omega)⟩)
  have n0 : (96 : Int) ≤ n := by omega
  have n1 : (n : Int) ≤ 110000 := by omega
  have n2 : (n : Int) ≤ c3 := by omega
  clear len0 len1 hn s3 k3 at3 hb3 BX2 B2
  go_wp2_with fail
  refine (fileImports_any D3.out (fun x hx => (HI.out.imk x hx).2.1)).mono ?_
  rintro e w4 ⟨A4, c4, rfl, hs4, hb4⟩
  have S4 := Lib.hid hs4
  have BX4 := Lib.hid (BX3.out.here hb4)
  have B4 := Lib.hid (below_from B3.out hb4)
  have SIM := Lib.hid (show SlR 9 w4 a0 (f.im.l.map Im.cells) from by have h := HI.out.im.here B4.out; rwa [HA.out.im] at h)
  have hn60 : f.im.l.length ≤ 60 := SM.out.im
  have n0 : (0 : Int) ≤ (f.im.l.length : Int) := by omega
  have n1 : (f.im.l.length : Int) ≤ 60 := by omega
  have bk := BX4.out.cell 9
  have F8 := Lib.hid (fun x hx => (HI.out.imk x hx).2.1)
  clear hs4 hb4 BX3 B3
  go_wp2_with fail
  have z4 := B4.out.size
  go_loopw [4, 5, 24] (fun _ _ i wr => ∃ k : Nat, k ≤ f.im.l.length ∧ i = .int .i64 k ∧ Below w4.heap.size w4 wr) (fun _ _ i _ => f.im.l.length - (intOf i).toNat)
  case atStart => exact ⟨0, by omega, rfl, Below.refl _ _⟩
  case round =>
    obtain ⟨k, hk, rfl, hb⟩ := hrel
    have HB := Lib.hid hb
    have zb := hb.size
    by_cases hlt : k < f.im.l.length
    · obtain ⟨b1, o1, hA1, hc1⟩ := SlR.at_ (SIM.out.here hb) k hlt
      obtain ⟨b2, o2, hA2, hc2⟩ := SlR.at_ (S4.out.here hb) k hlt
      have hf8 := F8.out _ (List.getElem_mem hlt)
      obtain rfl : a0 = some ⟨b1, o1, none⟩ := hA1
      obtain rfl : A4 = some ⟨b2, o2, none⟩ := hA2
      generalize f.im.l[k] = x at *
      obtain ⟨s, fp⟩ := x
      obtain ⟨b0', b1', b2', b3', b4', b5', b6', b7', rfl⟩ := list8 hf8
      have p0 := hc1 0 _ rfl
      have s0 := hc2 0 _ rfl
      have p1 := hc1 1 _ rfl
      have s1 := hc2 1 _ rfl
      have p2 := hc1 2 _ rfl
      have s2 := hc2 2 _ rfl
      have p3 := hc1 3 _ rfl
      have s3 := hc2 3 _ rfl
      have p4 := hc1 4 _ rfl
      have s4 := hc2 4 _ rfl
      have p5 := hc1 5 _ rfl
      have s5 := hc2 5 _ rfl
      have p6 := hc1 6 _ rfl
      have s6 := hc2 6 _ rfl
      have p7 := hc1 7 _ rfl
      have s7 := hc2 7 _ rfl
      have p8 := hc1 8 _ rfl
      have s8 := hc2 8 _ rfl
      rw [Nat.add_zero] at p0 s0
      obtain ⟨w5, hw5⟩ : ∃ w5, w5 = wr.alloc (.cells #[.string s, .int .u8 b0', .int .u8 b1', .int .u8 b2', .int .u8 b3', .int .u8 b4', .int .u8 b5', .int .u8 b6', .int .u8 b7'] 75) := ⟨_, rfl⟩
      have HW5 := Lib.hid hw5
      have BA5 : Below wr.heap.size wr w5 := by rw [hw5]; exact later_alloc _ _
      have BK := Lib.hid (show Blk w5 wr.heap.size 75 #[.string s, .int .u8 b0', .int .u8 b1', .int .u8 b2', .int .u8 b3', .int .u8 b4', .int .u8 b5', .int .u8 b6', .int .u8 b7'] from by rw [hw5]; exact Blk.new _ _ _)
      have B5 := Lib.hid (HB.out.trans (BA5.mono zb))
      have r0 := keep_cell BA5 s0
      have r1 := keep_cell BA5 s1
      have r2 := keep_cell BA5 s2
      have r3 := keep_cell BA5 s3
      have r4 := keep_cell BA5 s4
      have r5 := keep_cell BA5 s5
      have r6 := keep_cell BA5 s6
      have r7 := keep_cell BA5 s7
      have r8 := keep_cell BA5 s8
      have brc := BK.out.cell
      have k0 : (0 : Int) ≤ (k : Int) := by omega
      have k1 : (k : Int) < 60 := by omega
      have k2 : (k : Int) < (f.im.l.length : Int) := by omega
      clear hb hc1 hc2 hw5 BA5 s0 s1 s2 s3 s4 s5 s6 s7 s8
      go_wp2_with fail
      rw [← HW5.out]
      clear p0 p1 p2 p3 p4 p5 p6 p7 p8
      have hneq := run_neq_im s b0' b1' b2' b3' b4' b5' b6' b7'
      go_quiet (fail)
      clear hneq
      go_wp2_with fail
      go_roundw
      case rel => exact ⟨k + 1, by omega, by go_num, below_drewN B5.out _⟩
      case measure => simp [intOf]; omega
    · obtain rfl : k = f.im.l.length := by omega
      go_wp2_with fail
      go_returns
      exact ⟨rfl, B4.out.trans (HB.out.mono B4.out.size)⟩
theorem fnFileImports_any {H : Type} {enc : TypeId × Value → H} (x0 x1 x2 x3 x4 x5 x6 x7 x8 : Int) (x9 x10 x11 x12 x13 x14 x15 x16 x17 x18 x19 x20 : Value) (w : World) (b0 : 0 ≤ x0 ∧ x0 < 256) (b1 : 0 ≤ x1 ∧ x1 < 256) (b2 : 0 ≤ x2 ∧ x2 < 256) (b3 : 0 ≤ x3 ∧ x3 < 256) (b4 : 0 ≤ x4 ∧ x4 < 256) (b5 : 0 ≤ x5 ∧ x5 < 256) (b6 : 0 ≤ x6 ∧ x6 < 256) (b7 : 0 ≤ x7 ∧ x7 < 256) (b8 : 0 ≤ x8 ∧ x8 < 4294967296) (b9 : Rd enc Tryd.prog w 24 [x9]) (b10 : Rd enc Tryd.prog w 25 [x10]) (b11 : Rd enc Tryd.prog w 25 [x11]) (b12 : Rd enc Tryd.prog w 26 [x12]) (b13 : Rd enc Tryd.prog w 26 [x13]) (b14 : Rd enc Tryd.prog w 26 [x14]) (b15 : Rd enc Tryd.prog w 26 [x15]) (b16 : Rd enc Tryd.prog w 27 [x16]) (b17 : Rd enc Tryd.prog w 28 [x17]) (b18 : Rd enc Tryd.prog w 29 [x18]) (b19 : Rd enc Tryd.prog w 30 [x19]) (b20 : Rd enc Tryd.prog w 31 [x20]) : Calls Tryd.prog 12 #[.agg #[.int .u8 x0, .int .u8 x1, .int .u8 x2, .int .u8 x3, .int .u8 x4, .int .u8 x5, .int .u8 x6, .int .u8 x7, .int .u32 x8, x9, x10, x11, x12, x13, x14, x15, x16, x17, x18, x19, x20]] w (LawEnd w) := by
  obtain ⟨f, hI, e⟩ := Rd.file b0 b1 b2 b3 b4 b5 b6 b7 b8 b9 b10 b11 b12 b13 b14 b15 b16 b17 b18 b19 b20
  rw [← e]
  exact fnFileImports_walk f w hI
end Go.Proofs.YtimdaolbdgafcaaDoor
