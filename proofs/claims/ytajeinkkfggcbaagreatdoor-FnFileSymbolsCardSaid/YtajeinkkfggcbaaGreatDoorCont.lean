/- The relocations, the auxiliary symbols and the data of all symbols, written. -/
import Derived.Test.YtajeinkkfggcbaaGreatDoorIdx
namespace Go.Proofs.YtajeinkkfggcbaaGreatDoor
open Go.RowKit

theorem Df_rB_le {f : FM} (S : f.Small) (d : Df) (h : d ∈ f.all) : d.rB.length ≤ 460 := by
  have := S.data d h
  unfold Df.rB
  rw [flatMap_length (n := 23) _ (fun r _ => r.bytes_length)]
  omega
theorem Df_xB_le {f : FM} (S : f.Small) (d : Df) (h : d ∈ f.all) : d.xB.length ≤ 460 := by
  have := S.data d h
  unfold Df.xB
  rw [flatMap_length (n := 9) _ (fun r _ => r.bytes_length)]
  omega
theorem Df_dB_le {f : FM} (S : f.Small) (d : Df) (h : d ∈ f.all) : d.dB.length ≤ 460 := by
  have := S.data d h
  unfold Df.dB
  rw [sbs_length]
  omega

set_option maxRecDepth 100000 in
set_option maxHeartbeats 8000000 in
theorem contents_any (f : FM) (W0 w : World) (pre : List Int) (a wb b mb : Nat) (hI : f.In W0) (S : f.Small) (hp : pre.length = f.base) (h0 : Below W0.heap.size W0 w) (h : IsW W0.heap.size wb b mb f.names.length (f.pre pre 14) f.tab.2 w) (ha : Blk w a 65 (atK f 14)) (hap : a ∉ [wb, b, mb]) (haB : W0.heap.size ≤ a) :
    Calls Tryz.prog 48 #[f.val, .pointer (some ⟨wb, 0, none⟩), .pointer (some ⟨a, 0, none⟩)] w (Indexed f W0.heap.size w a wb b mb (atK f 17) (f.pre pre 17)) := by
  obtain ⟨p0, p1, p2, p3, p4, p5, p6, p7, a0, a1, a2, a3, a4, a5, a6, a7, a8, a9, a10, a11, _, hA, e⟩ := FM.val_eq S.fp
  have HE := Lib.hid e
  rw [e]
  clear e
  have hz := h.zs
  have ap : Apart w.heap.size a wb b mb W0.heap.size := by
    have h1 := h.wr.wlt
    have h2 := h.wr.buf.lt
    have h3 := h.map.lt
    have h4 := ha.lt
    exact ⟨by simp; omega, hap, haB⟩
  have st0 : BlkSt f W0.heap.size w w.heap.size a wb b mb (fileArr p0 p1 p2 p3 p4 p5 p6 p7 a0 a1 a2 a3 a4 a5 a6 a7 a8 a9 a10 a11 f) (atK f 14) (f.pre pre 14) (w.alloc (.cells (fileArr p0 p1 p2 p3 p4 p5 p6 p7 a0 a1 a2 a3 a4 a5 a6 a7 a8 a9 a10 a11 f) 33)) :=
    ⟨h.here (later_alloc _ _), Blk.new _ _ _, ha.alloc _, (WF.refl _ _ _ _).alloc hz _⟩
  have T0 := Lib.hid st0
  have AP := Lib.hid ap
  have HP := Lib.hid hp
  have HI := Lib.hid hI
  have SM := Lib.hid S
  have H0 := Lib.hid h0
  have HA0 := Lib.hid hA.im
  have HA1 := Lib.hid hA.pk
  have HA2 := Lib.hid hA.fi
  have HA3 := Lib.hid hA.own
  have HA4 := Lib.hid hA.short
  have HA5 := Lib.hid hA.hashed
  have HA6 := Lib.hid hA.other
  have HA7 := Lib.hid hA.refs
  have HA8 := Lib.hid hA.rf
  have HA9 := Lib.hid hA.h64
  have HA10 := Lib.hid hA.hs
  have HA11 := Lib.hid hA.rn
  have HL4 := Lib.hid (show f.own.A = a3 ∧ f.short.A = a4 ∧ f.hashed.A = a5 ∧ f.other.A = a6 from ⟨hA.own, hA.short, hA.hashed, hA.other⟩)
  have HL := Lib.hid (show listsArr f.own.A f.short.A f.hashed.A f.other.A f = listsArr a3 a4 a5 a6 f from by rw [hA.own, hA.short, hA.hashed, hA.other])
  clear st0 ap hp hI S h0 h ha hap haB hA
  go_enter Tryz.func48, Tryz.ntmps48
  obtain ⟨Y, hY⟩ : ∃ Y, Y = f.pre pre 14 := ⟨_, rfl⟩
  have hYl : Y.length = f.at_ 14 := by rw [hY]; exact f.pre_len pre _ HP.out
  have hYb : Y.length ≤ 110000 := by have := SM.out.at_le 14; omega
  have ST2 := Lib.hid (T0.out.cast rfl hY.symm)
  have HY := Lib.hid hY
  have HYl := Lib.hid hYl
  clear hY hYl T0
  obtain ⟨x0, c0⟩ := cell_in ST2.out.at_ (i := 14) (by rw [atK_size]; omega)
  have f0 := ST2.out.at_.frozen 14
  go_wp2_with fail
  go_region_held3 (fun _ => True) (first | trivial | go_keep)
    (first | (go_at_call 40; refine (writer_Offset (ST2.out.drewN 1).iw.wr).mono ?_; rintro e w2 ⟨rfl, n2, rfl⟩))
  obtain ⟨w3, hw3⟩ : ∃ w3, w3 = ((w.alloc (.cells (fileArr p0 p1 p2 p3 p4 p5 p6 p7 a0 a1 a2 a3 a4 a5 a6 a7 a8 a9 a10 a11 f) 33)).drewN (1 + n2)).setCell ⟨a, 14, none⟩ (.int .u32 (Y.length : Int)) := ⟨_, rfl⟩
  have S3 := Lib.hid (show BlkSt f W0.heap.size w w.heap.size a wb b mb (fileArr p0 p1 p2 p3 p4 p5 p6 p7 a0 a1 a2 a3 a4 a5 a6 a7 a8 a9 a10 a11 f) (atK f 15) (Y) w3 from by rw [hw3]; exact ((ST2.out.drewN _).store AP.out 14 _).cast (atK_set f 14 _ (by rw [HYl.out])) rfl)
  rw [← hw3]
  clear hw3 c0 f0 ST2
  go_wp2_with (first | (refine wpList_load_row rfl 33 (.tmp 3) rfl w.heap.size rfl 33 _ (0, 0) _ S3.out.box Tryz.underlying33 rfl Tryz.fileInfo ?_) | (go_at_call 39; refine (show Calls Tryz.prog 39 #[.agg (fileArr p0 p1 p2 p3 p4 p5 p6 p7 a0 a1 a2 a3 a4 a5 a6 a7 a8 a9 a10 a11 f)] w3 (RetV (.agg (listsArr a3 a4 a5 a6 f)) w3) from by have h := lists_any f SM.out.fp w3; rw [HE.out, HL.out] at h; exact h).mono ?_; rintro e wl ⟨rfl, hbl⟩))
  have S4 := Lib.hid (S3.out.here hbl)
  clear hbl S3
  go_loopw [7, 9, 11, 29] (fun _ _ _ i wr => ∃ p : Nat, p ≤ 4 ∧ i = .int .i64 p ∧ BlkSt f W0.heap.size w w.heap.size a wb b mb (fileArr p0 p1 p2 p3 p4 p5 p6 p7 a0 a1 a2 a3 a4 a5 a6 a7 a8 a9 a10 a11 f) (atK f 15) (Y ++ ((f.lists.take p).map Sl.l).flatten.flatMap Df.rB) wr) (fun _ _ _ i _ => 4 - (intOf i).toNat)
  case atStart => exact ⟨0, by omega, rfl, S4.out.cast rfl (by simp)⟩
  case round =>
    obtain ⟨p, hp4, rfl, hst⟩ := hrel
    obtain ⟨wo2, rfl⟩ : ∃ wo2 : World, wo2 = wr := ⟨_, rfl⟩
    have S5 := Lib.hid hst
    clear hst S4
    by_cases hlt4 : p < 4
    · obtain ⟨L, LA, hL, hLA, hix⟩ := listsArr_at f HL4.out p hlt4
      have hkb4 : decide ((p : Int) < 4) = true := by simp; omega
      have HLm := Lib.hid hL
      have HLA := Lib.hid hLA
      have hn60 := SM.out.len_le_of L (List.mem_of_getElem? hL)
      clear hL hLA
      go_wp2_with fail
      go_loopw [9, 11, 34] (fun _ _ i wr => ∃ m : Nat, m ≤ L.l.length ∧ i = .int .i64 m ∧ BlkSt f W0.heap.size w w.heap.size a wb b mb (fileArr p0 p1 p2 p3 p4 p5 p6 p7 a0 a1 a2 a3 a4 a5 a6 a7 a8 a9 a10 a11 f) (atK f 15) (Y ++ (((f.lists.take p).map Sl.l).flatten ++ L.l.take m).flatMap Df.rB) wr) (fun _ _ i _ => L.l.length - (intOf i).toNat)
      case atStart => exact ⟨0, by omega, rfl, S5.out.cast rfl (by simp)⟩
      case round =>
        obtain ⟨m, hm, rfl, hst⟩ := hrel
        obtain ⟨wo3, rfl⟩ : ∃ wo3 : World, wo3 = wr := ⟨_, rfl⟩
        have S6 := Lib.hid hst
        clear hst S5
        by_cases hltm : m < L.l.length
        · obtain ⟨bb, oo, hA, hc⟩ := SlR.at_ ((HI.out.dfs L (List.mem_of_getElem? HLm.out)).l.here (S6.out.low H0.out)) m hltm
          obtain rfl : LA = some ⟨bb, oo, none⟩ := HLA.out.trans hA
          have hmem : L.l[m] ∈ f.all := FM.data_mem _ L (List.mem_of_getElem? HLm.out) (List.getElem_mem hltm)
          have hdat := SM.out.data _ hmem
          have hokd := Lib.hid ((HI.out.dfs L (List.mem_of_getElem? HLm.out)).ok _ (List.getElem_mem hltm))
          have hind := Lib.hid ((HI.out.dfs L (List.mem_of_getElem? HLm.out)).sub _ (List.getElem_mem hltm))
          have hql : (((f.lists.take p).map Sl.l).flatten ++ L.l.take m).length ≤ 120 := by
            have h1 := SM.out.flat_le p
            have h2 : (L.l.take m).length ≤ 60 := by rw [List.length_take]; omega
            rw [List.length_append]
            omega
          have hqb : ((((f.lists.take p).map Sl.l).flatten ++ L.l.take m).flatMap Df.rB).length ≤ 460 * 120 := Nat.le_trans (flatMap_le (n := 460) _ (fun d hd => Df_rB_le SM.out d (by
            rcases List.mem_append.1 hd with hd | hd
            · obtain ⟨l, hl, hd⟩ := List.mem_flatten.1 hd
              obtain ⟨L', hL', rfl⟩ := List.mem_map.1 hl
              exact FM.data_mem _ L' (List.mem_of_mem_take hL') hd
            · exact FM.data_mem _ L (List.mem_of_getElem? HLm.out) (List.mem_of_mem_take hd)))) (Nat.mul_le_mul_left _ hql)
          have HQ := Lib.hid (show (((f.lists.take p).map Sl.l).flatten ++ L.l.take m) ++ [L.l[m]] = ((f.lists.take p).map Sl.l).flatten ++ L.l.take (m + 1) from by rw [List.take_succ_eq_append_getElem hltm, List.append_assoc])
          have q0 := hc 0 _ rfl
          have q1 := hc 1 _ rfl
          have q2 := hc 2 _ rfl
          have q3 := hc 3 _ rfl
          have q4 := hc 4 _ rfl
          have q5 := hc 5 _ rfl
          have q6 := hc 6 _ rfl
          have q7 := hc 7 _ rfl
          have q8 := hc 8 _ rfl
          have q9 := hc 9 _ rfl
          rw [Nat.add_zero] at q0
          clear hc hmem
          generalize L.l[m] = x at *
          obtain ⟨Q, hQ⟩ : ∃ Q, Q = (((f.lists.take p).map Sl.l).flatten ++ L.l.take m) := ⟨_, rfl⟩
          rw [← hQ] at S6 hqb HQ
          have HQQ := Lib.hid hQ
          clear hQ hql
          obtain ⟨Z, hZ⟩ : ∃ Z, Z = Y ++ Q.flatMap Df.rB := ⟨_, rfl⟩
          have hzl : Z.length ≤ 200000 := by rw [hZ, List.length_append]; omega
          rw [← hZ] at S6
          have HZ := Lib.hid hZ
          clear hZ hqb
          obtain ⟨RA, hRA⟩ : ∃ RA, RA = x.rs.A := ⟨_, rfl⟩
          unfold Sl.val at q7
          rw [← hRA] at q7
          have HRA := Lib.hid hRA
          clear hRA
          have hn20 : x.rs.l.length ≤ 20 := by have := hdat; omega
          go_wp2_with fail
          go_loopw [11, 41] (fun _ i wr => ∃ r : Nat, r ≤ x.rs.l.length ∧ i = .int .i64 r ∧ BlkSt f W0.heap.size w w.heap.size a wb b mb (fileArr p0 p1 p2 p3 p4 p5 p6 p7 a0 a1 a2 a3 a4 a5 a6 a7 a8 a9 a10 a11 f) (atK f 15) (Z ++ (x.rs.l.take r).flatMap Rl.bytes) wr) (fun _ i _ => x.rs.l.length - (intOf i).toNat)
          case atStart => exact ⟨0, by omega, rfl, (S6.out.alloc _).cast rfl (by simp)⟩
          case round =>
            obtain ⟨r, hr, rfl, hst⟩ := hrel
            have S7 := Lib.hid hst
            clear hst S6
            by_cases hltr : r < x.rs.l.length
            · obtain ⟨cb, co, hA, hc⟩ := SlR.at_ ((hind.out.rs).here (S7.out.low H0.out)) r hltr
              obtain rfl : RA = some ⟨cb, co, none⟩ := HRA.out.trans hA
              have okr := Lib.hid (hokd.out.rs _ (List.getElem_mem hltr))
              have hrb : ((x.rs.l.take r).flatMap Rl.bytes).length ≤ 23 * 20 := by
                rw [flatMap_length (n := 23) _ (fun r _ => r.bytes_length), List.length_take]
                have : min r x.rs.l.length ≤ 20 := by omega
                omega
              have HR := Lib.hid (show (x.rs.l.take (r + 1)).flatMap Rl.bytes = (x.rs.l.take r).flatMap Rl.bytes ++ Rl.bytes x.rs.l[r] from by rw [List.take_succ_eq_append_getElem hltr, List.flatMap_append]; simp)
              have r0 := hc 0 _ rfl
              have r1 := hc 1 _ rfl
              have r2 := hc 2 _ rfl
              have r3 := hc 3 _ rfl
              have r4 := hc 4 _ rfl
              have r5 := hc 5 _ rfl
              rw [Nat.add_zero] at r0
              clear hc
              generalize x.rs.l[r] = y at *
              obtain ⟨Z2, hZ2⟩ : ∃ Z2, Z2 = Z ++ (x.rs.l.take r).flatMap Rl.bytes := ⟨_, rfl⟩
              have hz2 : Z2.length ≤ 220000 := by rw [hZ2, List.length_append]; omega
              rw [← hZ2] at S7
              have HZ2 := Lib.hid hZ2
              clear hZ2 hrb
              go_wp2_with fail
              refine (reloc_any y.off y.size y.kind y.add y.pkg y.sym _ okr.out.k.1 okr.out.k.2 okr.out.p.1 okr.out.p.2 okr.out.y.1 okr.out.y.2).mono ?_
              rintro e w8 ⟨g8, rfl, hg8, hb8, hbw8⟩
              have S8 := Lib.hid ((S7.out.alloc _).here hbw8)
              have hgb : g8 ≠ b := by have := S7.out.own.2.2.2.1; simp at hg8; omega
              have B8 := Lib.hid hb8
              clear hb8 hbw8 hg8
              go_wp2_with fail
              refine (reloc_Write W0.heap.size wb b mb Z2 w8 S8.out.iw.wr S8.out.iw.zs g8 _ _ _ _ _ _ _ B8.out hgb (by omega)).mono ?_
              rintro e w9 k9
              have S9 := Lib.hid ((S8.out.step AP.out (WroteM.of_wrote S8.out.iw k9)).cast rfl (show _ = Z ++ (x.rs.l.take (r + 1)).flatMap Rl.bytes from by rw [HR.out, HZ2.out, List.append_assoc]; rfl))
              obtain ⟨rfl, _⟩ := k9
              clear r0 r1 r2 r3 r4 r5 S7 S8
              go_wp2_with fail
              go_roundw
              case rel => exact ⟨r + 1, by omega, by go_num, S9.out⟩
              case measure => simp [intOf]; omega
            · obtain rfl : r = x.rs.l.length := by omega
              have S9 := Lib.hid (S7.out.cast rfl (show _ = Y ++ (((f.lists.take p).map Sl.l).flatten ++ L.l.take (m + 1)).flatMap Df.rB from by rw [List.take_length, HZ.out, ← HQ.out, List.flatMap_append, List.append_assoc]; simp [Df.rB]))
              go_wp2_with fail
              go_roundw
              case rel => exact ⟨m + 1, by omega, by go_num, S9.out⟩
              case measure => simp [intOf]; omega
        · obtain rfl : m = L.l.length := by omega
          have hq : ((f.lists.take p).map Sl.l).flatten ++ L.l.take L.l.length = ((f.lists.take (p + 1)).map Sl.l).flatten := by rw [List.take_length, take_lists f p L HLm.out]
          rw [hq] at S6
          go_wp2_with fail
          go_roundw
          case rel => exact ⟨p + 1, by omega, by go_num, S6.out⟩
          case measure => simp [intOf]; omega
    · obtain rfl : p = 4 := by omega
      have T1 := Lib.hid (S5.out.cast rfl (show _ = f.pre pre 15 from by
        rw [show f.lists.take 4 = f.lists from rfl, ← FM.all_flat, HY.out]
        exact f.pre_succ pre 14 (by omega) _ rfl))
      clear S5 HY HYl hYb
      obtain ⟨Y, hY⟩ : ∃ Y, Y = f.pre pre 15 := ⟨_, rfl⟩
      have hYl : Y.length = f.at_ 15 := by rw [hY]; exact f.pre_len pre _ HP.out
      have hYb : Y.length ≤ 110000 := by have := SM.out.at_le 15; omega
      have ST2 := Lib.hid (T1.out.cast rfl hY.symm)
      have HY := Lib.hid hY
      have HYl := Lib.hid hYl
      clear hY hYl T1
      obtain ⟨x0, c0⟩ := cell_in ST2.out.at_ (i := 15) (by rw [atK_size]; omega)
      have f0 := ST2.out.at_.frozen 15
      go_wp2_with fail
      go_region_held3 (fun _ => True) (first | trivial | go_keep)
        (first | (go_at_call 40; refine (writer_Offset (ST2.out.drewN 1).iw.wr).mono ?_; rintro e w2 ⟨rfl, n2, rfl⟩))
      obtain ⟨w3, hw3⟩ : ∃ w3, w3 = (wo2.drewN (1 + n2)).setCell ⟨a, 15, none⟩ (.int .u32 (Y.length : Int)) := ⟨_, rfl⟩
      have S3 := Lib.hid (show BlkSt f W0.heap.size w w.heap.size a wb b mb (fileArr p0 p1 p2 p3 p4 p5 p6 p7 a0 a1 a2 a3 a4 a5 a6 a7 a8 a9 a10 a11 f) (atK f 16) (Y) w3 from by rw [hw3]; exact ((ST2.out.drewN _).store AP.out 15 _).cast (atK_set f 15 _ (by rw [HYl.out])) rfl)
      rw [← hw3]
      clear hw3 c0 f0 ST2
      go_wp2_with (first | (refine wpList_load_row rfl 33 (.tmp 3) rfl w.heap.size rfl 33 _ (0, 0) _ S3.out.box Tryz.underlying33 rfl Tryz.fileInfo ?_) | (go_at_call 39; refine (show Calls Tryz.prog 39 #[.agg (fileArr p0 p1 p2 p3 p4 p5 p6 p7 a0 a1 a2 a3 a4 a5 a6 a7 a8 a9 a10 a11 f)] w3 (RetV (.agg (listsArr a3 a4 a5 a6 f)) w3) from by have h := lists_any f SM.out.fp w3; rw [HE.out, HL.out] at h; exact h).mono ?_; rintro e wl ⟨rfl, hbl⟩))
      have S4 := Lib.hid (S3.out.here hbl)
      clear hbl S3
      go_loopw [13, 15, 17, 59] (fun _ _ _ i wr => ∃ p : Nat, p ≤ 4 ∧ i = .int .i64 p ∧ BlkSt f W0.heap.size w w.heap.size a wb b mb (fileArr p0 p1 p2 p3 p4 p5 p6 p7 a0 a1 a2 a3 a4 a5 a6 a7 a8 a9 a10 a11 f) (atK f 16) (Y ++ ((f.lists.take p).map Sl.l).flatten.flatMap Df.xB) wr) (fun _ _ _ i _ => 4 - (intOf i).toNat)
      case atStart => exact ⟨0, by omega, rfl, S4.out.cast rfl (by simp)⟩
      case round =>
        obtain ⟨p, hp4, rfl, hst⟩ := hrel
        obtain ⟨wo2, rfl⟩ : ∃ wo2 : World, wo2 = wr := ⟨_, rfl⟩
        have S5 := Lib.hid hst
        clear hst S4
        by_cases hlt4 : p < 4
        · obtain ⟨L, LA, hL, hLA, hix⟩ := listsArr_at f HL4.out p hlt4
          have hkb4 : decide ((p : Int) < 4) = true := by simp; omega
          have HLm := Lib.hid hL
          have HLA := Lib.hid hLA
          have hn60 := SM.out.len_le_of L (List.mem_of_getElem? hL)
          clear hL hLA
          go_wp2_with fail
          go_loopw [15, 17, 64] (fun _ _ i wr => ∃ m : Nat, m ≤ L.l.length ∧ i = .int .i64 m ∧ BlkSt f W0.heap.size w w.heap.size a wb b mb (fileArr p0 p1 p2 p3 p4 p5 p6 p7 a0 a1 a2 a3 a4 a5 a6 a7 a8 a9 a10 a11 f) (atK f 16) (Y ++ (((f.lists.take p).map Sl.l).flatten ++ L.l.take m).flatMap Df.xB) wr) (fun _ _ i _ => L.l.length - (intOf i).toNat)
          case atStart => exact ⟨0, by omega, rfl, S5.out.cast rfl (by simp)⟩
          case round =>
            obtain ⟨m, hm, rfl, hst⟩ := hrel
            obtain ⟨wo3, rfl⟩ : ∃ wo3 : World, wo3 = wr := ⟨_, rfl⟩
            have S6 := Lib.hid hst
            clear hst S5
            by_cases hltm : m < L.l.length
            · obtain ⟨bb, oo, hA, hc⟩ := SlR.at_ ((HI.out.dfs L (List.mem_of_getElem? HLm.out)).l.here (S6.out.low H0.out)) m hltm
              obtain rfl : LA = some ⟨bb, oo, none⟩ := HLA.out.trans hA
              have hmem : L.l[m] ∈ f.all := FM.data_mem _ L (List.mem_of_getElem? HLm.out) (List.getElem_mem hltm)
              have hdat := SM.out.data _ hmem
              have hokd := Lib.hid ((HI.out.dfs L (List.mem_of_getElem? HLm.out)).ok _ (List.getElem_mem hltm))
              have hind := Lib.hid ((HI.out.dfs L (List.mem_of_getElem? HLm.out)).sub _ (List.getElem_mem hltm))
              have hql : (((f.lists.take p).map Sl.l).flatten ++ L.l.take m).length ≤ 120 := by
                have h1 := SM.out.flat_le p
                have h2 : (L.l.take m).length ≤ 60 := by rw [List.length_take]; omega
                rw [List.length_append]
                omega
              have hqb : ((((f.lists.take p).map Sl.l).flatten ++ L.l.take m).flatMap Df.xB).length ≤ 460 * 120 := Nat.le_trans (flatMap_le (n := 460) _ (fun d hd => Df_xB_le SM.out d (by
                rcases List.mem_append.1 hd with hd | hd
                · obtain ⟨l, hl, hd⟩ := List.mem_flatten.1 hd
                  obtain ⟨L', hL', rfl⟩ := List.mem_map.1 hl
                  exact FM.data_mem _ L' (List.mem_of_mem_take hL') hd
                · exact FM.data_mem _ L (List.mem_of_getElem? HLm.out) (List.mem_of_mem_take hd)))) (Nat.mul_le_mul_left _ hql)
              have HQ := Lib.hid (show (((f.lists.take p).map Sl.l).flatten ++ L.l.take m) ++ [L.l[m]] = ((f.lists.take p).map Sl.l).flatten ++ L.l.take (m + 1) from by rw [List.take_succ_eq_append_getElem hltm, List.append_assoc])
              have q0 := hc 0 _ rfl
              have q1 := hc 1 _ rfl
              have q2 := hc 2 _ rfl
              have q3 := hc 3 _ rfl
              have q4 := hc 4 _ rfl
              have q5 := hc 5 _ rfl
              have q6 := hc 6 _ rfl
              have q7 := hc 7 _ rfl
              have q8 := hc 8 _ rfl
              have q9 := hc 9 _ rfl
              rw [Nat.add_zero] at q0
              clear hc hmem
              generalize L.l[m] = x at *
              obtain ⟨Q, hQ⟩ : ∃ Q, Q = (((f.lists.take p).map Sl.l).flatten ++ L.l.take m) := ⟨_, rfl⟩
              rw [← hQ] at S6 hqb HQ
              have HQQ := Lib.hid hQ
              clear hQ hql
              obtain ⟨Z, hZ⟩ : ∃ Z, Z = Y ++ Q.flatMap Df.xB := ⟨_, rfl⟩
              have hzl : Z.length ≤ 200000 := by rw [hZ, List.length_append]; omega
              rw [← hZ] at S6
              have HZ := Lib.hid hZ
              clear hZ hqb
              obtain ⟨RA, hRA⟩ : ∃ RA, RA = x.xs.A := ⟨_, rfl⟩
              unfold Sl.val at q8
              rw [← hRA] at q8
              have HRA := Lib.hid hRA
              clear hRA
              have hn20 : x.xs.l.length ≤ 20 := by have := hdat; omega
              go_wp2_with fail
              go_loopw [17, 71] (fun _ i wr => ∃ r : Nat, r ≤ x.xs.l.length ∧ i = .int .i64 r ∧ BlkSt f W0.heap.size w w.heap.size a wb b mb (fileArr p0 p1 p2 p3 p4 p5 p6 p7 a0 a1 a2 a3 a4 a5 a6 a7 a8 a9 a10 a11 f) (atK f 16) (Z ++ (x.xs.l.take r).flatMap Ax.bytes) wr) (fun _ i _ => x.xs.l.length - (intOf i).toNat)
              case atStart => exact ⟨0, by omega, rfl, (S6.out.alloc _).cast rfl (by simp)⟩
              case round =>
                obtain ⟨r, hr, rfl, hst⟩ := hrel
                have S7 := Lib.hid hst
                clear hst S6
                by_cases hltr : r < x.xs.l.length
                · obtain ⟨cb, co, hA, hc⟩ := SlR.at_ ((hind.out.xs).here (S7.out.low H0.out)) r hltr
                  obtain rfl : RA = some ⟨cb, co, none⟩ := HRA.out.trans hA
                  have okr := Lib.hid (hokd.out.xs _ (List.getElem_mem hltr))
                  have hrb : ((x.xs.l.take r).flatMap Ax.bytes).length ≤ 9 * 20 := by
                    rw [flatMap_length (n := 9) _ (fun r _ => r.bytes_length), List.length_take]
                    have : min r x.xs.l.length ≤ 20 := by omega
                    omega
                  have HR := Lib.hid (show (x.xs.l.take (r + 1)).flatMap Ax.bytes = (x.xs.l.take r).flatMap Ax.bytes ++ Ax.bytes x.xs.l[r] from by rw [List.take_succ_eq_append_getElem hltr, List.flatMap_append]; simp)
                  have r0 := hc 0 _ rfl
                  have r1 := hc 1 _ rfl
                  have r2 := hc 2 _ rfl
                  rw [Nat.add_zero] at r0
                  clear hc
                  generalize x.xs.l[r] = y at *
                  obtain ⟨Z2, hZ2⟩ : ∃ Z2, Z2 = Z ++ (x.xs.l.take r).flatMap Ax.bytes := ⟨_, rfl⟩
                  have hz2 : Z2.length ≤ 220000 := by rw [hZ2, List.length_append]; omega
                  rw [← hZ2] at S7
                  have HZ2 := Lib.hid hZ2
                  clear hZ2 hrb
                  go_wp2_with fail
                  refine (aux_any y.kind y.pkg y.sym _ okr.out.p.1 okr.out.p.2 okr.out.y.1 okr.out.y.2).mono ?_
                  rintro e w8 ⟨g8, rfl, hg8, hb8, hbw8⟩
                  have S8 := Lib.hid ((S7.out.alloc _).here hbw8)
                  have hgb : g8 ≠ b := by have := S7.out.own.2.2.2.1; simp at hg8; omega
                  have B8 := Lib.hid hb8
                  clear hb8 hbw8 hg8
                  go_wp2_with fail
                  refine (aux_Write W0.heap.size wb b mb Z2 w8 S8.out.iw.wr S8.out.iw.zs g8 _ _ _ _ B8.out hgb (by omega)).mono ?_
                  rintro e w9 k9
                  have S9 := Lib.hid ((S8.out.step AP.out (WroteM.of_wrote S8.out.iw k9)).cast rfl (show _ = Z ++ (x.xs.l.take (r + 1)).flatMap Ax.bytes from by rw [HR.out, HZ2.out, List.append_assoc]; rfl))
                  obtain ⟨rfl, _⟩ := k9
                  clear r0 r1 r2 S7 S8
                  go_wp2_with fail
                  go_roundw
                  case rel => exact ⟨r + 1, by omega, by go_num, S9.out⟩
                  case measure => simp [intOf]; omega
                · obtain rfl : r = x.xs.l.length := by omega
                  have S9 := Lib.hid (S7.out.cast rfl (show _ = Y ++ (((f.lists.take p).map Sl.l).flatten ++ L.l.take (m + 1)).flatMap Df.xB from by rw [List.take_length, HZ.out, ← HQ.out, List.flatMap_append, List.append_assoc]; simp [Df.xB]))
                  go_wp2_with fail
                  go_roundw
                  case rel => exact ⟨m + 1, by omega, by go_num, S9.out⟩
                  case measure => simp [intOf]; omega
            · obtain rfl : m = L.l.length := by omega
              have hq : ((f.lists.take p).map Sl.l).flatten ++ L.l.take L.l.length = ((f.lists.take (p + 1)).map Sl.l).flatten := by rw [List.take_length, take_lists f p L HLm.out]
              rw [hq] at S6
              go_wp2_with fail
              go_roundw
              case rel => exact ⟨p + 1, by omega, by go_num, S6.out⟩
              case measure => simp [intOf]; omega
        · obtain rfl : p = 4 := by omega
          have T2 := Lib.hid (S5.out.cast rfl (show _ = f.pre pre 16 from by
            rw [show f.lists.take 4 = f.lists from rfl, ← FM.all_flat, HY.out]
            exact f.pre_succ pre 15 (by omega) _ rfl))
          clear S5 HY HYl hYb
          obtain ⟨Y, hY⟩ : ∃ Y, Y = f.pre pre 16 := ⟨_, rfl⟩
          have hYl : Y.length = f.at_ 16 := by rw [hY]; exact f.pre_len pre _ HP.out
          have hYb : Y.length ≤ 110000 := by have := SM.out.at_le 16; omega
          have ST2 := Lib.hid (T2.out.cast rfl hY.symm)
          have HY := Lib.hid hY
          have HYl := Lib.hid hYl
          clear hY hYl T2
          obtain ⟨x0, c0⟩ := cell_in ST2.out.at_ (i := 16) (by rw [atK_size]; omega)
          have f0 := ST2.out.at_.frozen 16
          go_wp2_with fail
          go_region_held3 (fun _ => True) (first | trivial | go_keep)
            (first | (go_at_call 40; refine (writer_Offset (ST2.out.drewN 1).iw.wr).mono ?_; rintro e w2 ⟨rfl, n2, rfl⟩))
          obtain ⟨w3, hw3⟩ : ∃ w3, w3 = (wo2.drewN (1 + n2)).setCell ⟨a, 16, none⟩ (.int .u32 (Y.length : Int)) := ⟨_, rfl⟩
          have S3 := Lib.hid (show BlkSt f W0.heap.size w w.heap.size a wb b mb (fileArr p0 p1 p2 p3 p4 p5 p6 p7 a0 a1 a2 a3 a4 a5 a6 a7 a8 a9 a10 a11 f) (atK f 17) (Y) w3 from by rw [hw3]; exact ((ST2.out.drewN _).store AP.out 16 _).cast (atK_set f 16 _ (by rw [HYl.out])) rfl)
          rw [← hw3]
          clear hw3 c0 f0 ST2
          go_wp2_with (first | (refine wpList_load_row rfl 33 (.tmp 3) rfl w.heap.size rfl 33 _ (0, 0) _ S3.out.box Tryz.underlying33 rfl Tryz.fileInfo ?_) | (go_at_call 39; refine (show Calls Tryz.prog 39 #[.agg (fileArr p0 p1 p2 p3 p4 p5 p6 p7 a0 a1 a2 a3 a4 a5 a6 a7 a8 a9 a10 a11 f)] w3 (RetV (.agg (listsArr a3 a4 a5 a6 f)) w3) from by have h := lists_any f SM.out.fp w3; rw [HE.out, HL.out] at h; exact h).mono ?_; rintro e wl ⟨rfl, hbl⟩))
          have S4 := Lib.hid (S3.out.here hbl)
          clear hbl S3
          go_loopw [19, 21, 89] (fun _ _ i wr => ∃ p : Nat, p ≤ 4 ∧ i = .int .i64 p ∧ BlkSt f W0.heap.size w w.heap.size a wb b mb (fileArr p0 p1 p2 p3 p4 p5 p6 p7 a0 a1 a2 a3 a4 a5 a6 a7 a8 a9 a10 a11 f) (atK f 17) (Y ++ ((f.lists.take p).map Sl.l).flatten.flatMap Df.dB) wr) (fun _ _ i _ => 4 - (intOf i).toNat)
          case atStart => exact ⟨0, by omega, rfl, S4.out.cast rfl (by simp)⟩
          case round =>
            obtain ⟨p, hp4, rfl, hst⟩ := hrel
            obtain ⟨wo2, rfl⟩ : ∃ wo2 : World, wo2 = wr := ⟨_, rfl⟩
            have S5 := Lib.hid hst
            clear hst S4
            by_cases hlt4 : p < 4
            · obtain ⟨L, LA, hL, hLA, hix⟩ := listsArr_at f HL4.out p hlt4
              have hkb4 : decide ((p : Int) < 4) = true := by simp; omega
              have HLm := Lib.hid hL
              have HLA := Lib.hid hLA
              have hn60 := SM.out.len_le_of L (List.mem_of_getElem? hL)
              clear hL hLA
              go_wp2_with fail
              go_loopw [21, 94] (fun _ i wr => ∃ m : Nat, m ≤ L.l.length ∧ i = .int .i64 m ∧ BlkSt f W0.heap.size w w.heap.size a wb b mb (fileArr p0 p1 p2 p3 p4 p5 p6 p7 a0 a1 a2 a3 a4 a5 a6 a7 a8 a9 a10 a11 f) (atK f 17) (Y ++ (((f.lists.take p).map Sl.l).flatten ++ L.l.take m).flatMap Df.dB) wr) (fun _ i _ => L.l.length - (intOf i).toNat)
              case atStart => exact ⟨0, by omega, rfl, S5.out.cast rfl (by simp)⟩
              case round =>
                obtain ⟨m, hm, rfl, hst⟩ := hrel
                obtain ⟨wo3, rfl⟩ : ∃ wo3 : World, wo3 = wr := ⟨_, rfl⟩
                have S6 := Lib.hid hst
                clear hst S5
                by_cases hltm : m < L.l.length
                · obtain ⟨bb, oo, hA, hc⟩ := SlR.at_ ((HI.out.dfs L (List.mem_of_getElem? HLm.out)).l.here (S6.out.low H0.out)) m hltm
                  obtain rfl : LA = some ⟨bb, oo, none⟩ := HLA.out.trans hA
                  have hmem : L.l[m] ∈ f.all := FM.data_mem _ L (List.mem_of_getElem? HLm.out) (List.getElem_mem hltm)
                  have hdat := SM.out.data _ hmem
                  have hokd := Lib.hid ((HI.out.dfs L (List.mem_of_getElem? HLm.out)).ok _ (List.getElem_mem hltm))
                  have hind := Lib.hid ((HI.out.dfs L (List.mem_of_getElem? HLm.out)).sub _ (List.getElem_mem hltm))
                  have hql : (((f.lists.take p).map Sl.l).flatten ++ L.l.take m).length ≤ 120 := by
                    have h1 := SM.out.flat_le p
                    have h2 : (L.l.take m).length ≤ 60 := by rw [List.length_take]; omega
                    rw [List.length_append]
                    omega
                  have hqb : ((((f.lists.take p).map Sl.l).flatten ++ L.l.take m).flatMap Df.dB).length ≤ 460 * 120 := Nat.le_trans (flatMap_le (n := 460) _ (fun d hd => Df_dB_le SM.out d (by
                    rcases List.mem_append.1 hd with hd | hd
                    · obtain ⟨l, hl, hd⟩ := List.mem_flatten.1 hd
                      obtain ⟨L', hL', rfl⟩ := List.mem_map.1 hl
                      exact FM.data_mem _ L' (List.mem_of_mem_take hL') hd
                    · exact FM.data_mem _ L (List.mem_of_getElem? HLm.out) (List.mem_of_mem_take hd)))) (Nat.mul_le_mul_left _ hql)
                  have HQ := Lib.hid (show (((f.lists.take p).map Sl.l).flatten ++ L.l.take m) ++ [L.l[m]] = ((f.lists.take p).map Sl.l).flatten ++ L.l.take (m + 1) from by rw [List.take_succ_eq_append_getElem hltm, List.append_assoc])
                  have q0 := hc 0 _ rfl
                  have q1 := hc 1 _ rfl
                  have q2 := hc 2 _ rfl
                  have q3 := hc 3 _ rfl
                  have q4 := hc 4 _ rfl
                  have q5 := hc 5 _ rfl
                  have q6 := hc 6 _ rfl
                  have q7 := hc 7 _ rfl
                  have q8 := hc 8 _ rfl
                  have q9 := hc 9 _ rfl
                  rw [Nat.add_zero] at q0
                  clear hc hmem
                  generalize L.l[m] = x at *
                  obtain ⟨Q, hQ⟩ : ∃ Q, Q = (((f.lists.take p).map Sl.l).flatten ++ L.l.take m) := ⟨_, rfl⟩
                  rw [← hQ] at S6 hqb HQ
                  have HQQ := Lib.hid hQ
                  clear hQ hql
                  obtain ⟨Z, hZ⟩ : ∃ Z, Z = Y ++ Q.flatMap Df.dB := ⟨_, rfl⟩
                  have hzl : Z.length ≤ 200000 := by rw [hZ, List.length_append]; omega
                  rw [← hZ] at S6
                  have HZ := Lib.hid hZ
                  clear hZ hqb
                  have hd200 : (x.data.size : Int) ≤ 200 := by have := hdat; omega
                  have S7 := Lib.hid ((S6.out.alloc (.cells #[.string x.name, .int .u16 x.sy.abi, .int .u8 x.sy.kind, .int .u8 x.sy.flag, .int .u8 x.sy.flag2, .int .u32 x.sy.size, .int .u32 x.sy.align, x.rs.val, x.xs.val, .string x.data] 44)).here (below_bytes _ 5 x.data))
                  have SB := bytes_src (wo3.alloc (.cells #[.string x.name, .int .u16 x.sy.abi, .int .u8 x.sy.kind, .int .u8 x.sy.flag, .int .u8 x.sy.flag2, .int .u32 x.sy.size, .int .u32 x.sy.align, x.rs.val, x.xs.val, .string x.data] 44)) 5 x.data
                  have hnb : (wo3.alloc (.cells #[.string x.name, .int .u16 x.sy.abi, .int .u8 x.sy.kind, .int .u8 x.sy.flag, .int .u8 x.sy.flag2, .int .u32 x.sy.size, .int .u32 x.sy.align, x.rs.val, x.xs.val, .string x.data] 44)).heap.size ≠ b := by have := S6.out.own.2.2.2.1; simp; omega
                  have cv : ∃ wn, wn = Lib.bytesWorld (wo3.alloc (.cells #[.string x.name, .int .u16 x.sy.abi, .int .u8 x.sy.kind, .int .u8 x.sy.flag, .int .u8 x.sy.flag2, .int .u32 x.sy.size, .int .u32 x.sy.align, x.rs.val, x.xs.val, .string x.data] 44)) 5 x.data ∧ Sem.run Tryz.prog (Go.convert 9 35 (Value.string x.data)) (wo3.alloc (.cells #[.string x.name, .int .u16 x.sy.abi, .int .u8 x.sy.kind, .int .u8 x.sy.flag, .int .u8 x.sy.flag2, .int .u32 x.sy.size, .int .u32 x.sy.align, x.rs.val, x.xs.val, .string x.data] 44)) = Result.ok (.slice (some ⟨(wo3.alloc (.cells #[.string x.name, .int .u16 x.sy.abi, .int .u8 x.sy.kind, .int .u8 x.sy.flag, .int .u8 x.sy.flag2, .int .u32 x.sy.size, .int .u32 x.sy.align, x.rs.val, x.xs.val, .string x.data] 44)).heap.size, 0, none⟩) x.data.size (grownCap (wo3.alloc (.cells #[.string x.name, .int .u16 x.sy.abi, .int .u8 x.sy.kind, .int .u8 x.sy.flag, .int .u8 x.sy.flag2, .int .u32 x.sy.size, .int .u32 x.sy.align, x.rs.val, x.xs.val, .string x.data] 44)) x.data.size 0 5)) wn := ⟨_, rfl, Lib.run_convert_string_bytes (P := Tryz.prog) (wo3.alloc (.cells #[.string x.name, .int .u16 x.sy.abi, .int .u8 x.sy.kind, .int .u8 x.sy.flag, .int .u8 x.sy.flag2, .int .u32 x.sy.size, .int .u32 x.sy.align, x.rs.val, x.xs.val, .string x.data] 44)) 9 35 5 x.data Tryz.underlying9 Tryz.underlying35 Tryz.underlying5⟩
                  obtain ⟨wn, hwn, cv⟩ := cv
                  rw [← hwn] at S7 SB
                  rw [World.size_alloc] at SB hnb
                  have SBH := Lib.hid SB
                  have HNB := Lib.hid hnb
                  clear hwn SB hnb
                  go_wp2_with fail
                  refine (writer_Bytes W0.heap.size wb b mb Z wn S7.out.iw.wr S7.out.iw.zs _ x.data.size _ (sbs x.data) (sbs_length x.data) HNB.out SBH.out (by omega)).mono ?_
                  rintro e w9 k9
                  have S9 := Lib.hid ((S7.out.step AP.out (WroteM.of_wrote S7.out.iw k9)).cast rfl (show _ = Y ++ (((f.lists.take p).map Sl.l).flatten ++ L.l.take (m + 1)).flatMap Df.dB from by rw [HZ.out, ← HQ.out, List.flatMap_append, List.append_assoc]; simp [Df.dB]))
                  obtain ⟨rfl, _⟩ := k9
                  clear q0 q1 q2 q3 q4 q5 q6 q7 q8 q9 cv SBH HNB S6 S7
                  go_wp2_with fail
                  go_roundw
                  case rel => exact ⟨m + 1, by omega, by go_num, S9.out⟩
                  case measure => simp [intOf]; omega
                · obtain rfl : m = L.l.length := by omega
                  have hq : ((f.lists.take p).map Sl.l).flatten ++ L.l.take L.l.length = ((f.lists.take (p + 1)).map Sl.l).flatten := by rw [List.take_length, take_lists f p L HLm.out]
                  rw [hq] at S6
                  go_wp2_with fail
                  go_roundw
                  case rel => exact ⟨p + 1, by omega, by go_num, S6.out⟩
                  case measure => simp [intOf]; omega
            · obtain rfl : p = 4 := by omega
              have T3 := Lib.hid (S5.out.cast rfl (show _ = f.pre pre 17 from by
                rw [show f.lists.take 4 = f.lists from rfl, ← FM.all_flat, HY.out]
                exact f.pre_succ pre 16 (by omega) _ rfl))
              clear S5 HY HYl hYb
              go_wp2_with fail
              go_end0
              exact ⟨rfl, T3.out.iw, T3.out.at_, T3.out.wf⟩
end Go.Proofs.YtajeinkkfggcbaaGreatDoor
