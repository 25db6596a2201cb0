/- Where what belongs to each symbol begins, written. -/
import Derived.Test.YtajeinkkfggcbaaGreatDoorBlk
namespace Go.Proofs.YtajeinkkfggcbaaGreatDoor
open Go.RowKit

set_option maxRecDepth 100000 in
theorem idx3 (i : Nat) (h : i < 3) : ∀ W : World, (Instr.index 152 (.agg #[.int .i64 11, .int .i64 12, .int .i64 13]) (.int .i64 (i : Int))).run Tryz.prog W = .ok (.int .i64 ((11 + i : Nat) : Int)) W := by
  match i, h with
  | 0, _ => exact fun W => by kernel_rfl
  | 1, _ => exact fun W => by kernel_rfl
  | 2, _ => exact fun W => by kernel_rfl
set_option maxRecDepth 100000 in
theorem pick3 (i : Nat) (h : i < 3) (d : Df) : ∀ W : World, (Instr.index 152 (.agg #[.int .i64 d.rs.l.length, .int .i64 d.xs.l.length, .int .i64 d.data.size]) (.int .i64 (i : Int))).run Tryz.prog W = .ok (.int .i64 (gI i d : Nat)) W := by
  match i, h with
  | 0, _ => exact fun W => by kernel_rfl
  | 1, _ => exact fun W => by kernel_rfl
  | 2, _ => exact fun W => by kernel_rfl
/-- What indices leaves. -/
def Indexed (f : FM) (B : Nat) (w : World) (a wb b mb : Nat) (os : Array Value) (ys : List Int) (e : Ending) (w' : World) : Prop :=
  e = .returned (.tuple #[]) ∧ IsW B wb b mb f.names.length ys f.tab.2 w' ∧ Blk w' a 65 os ∧ WF 5 [a, wb, b, mb] B w w'

set_option maxRecDepth 100000 in
set_option maxHeartbeats 4000000 in
theorem indices_any (f : FM) (W0 w : World) (pre : List Int) (a wb b mb : Nat) (hI : f.In W0) (S : f.Small) (hp : pre.length = f.base) (h0 : Below W0.heap.size W0 w) (h : IsW W0.heap.size wb b mb f.names.length (f.pre pre 11) f.tab.2 w) (ha : Blk w a 65 (atK f 11)) (hap : a ∉ [wb, b, mb]) (haB : W0.heap.size ≤ a) :
    Calls Tryz.prog 47 #[f.val, .pointer (some ⟨wb, 0, none⟩), .pointer (some ⟨a, 0, none⟩)] w (Indexed f W0.heap.size w a wb b mb (atK f 14) (f.pre pre 14)) := by
  obtain ⟨p0, p1, p2, p3, p4, p5, p6, p7, a0, a1, a2, a3, a4, a5, a6, a7, a8, a9, a10, a11, _, hA, e⟩ := FM.val_eq S.fp
  have HE := Lib.hid e
  rw [e]
  clear e
  have hz := h.zs
  have ap : Apart w.heap.size a wb b mb W0.heap.size := by
    have h1 := h.wr.wlt
    have h2 := h.wr.buf.lt
    have h3 := h.map.lt
    have h4 := ha.lt
    exact ⟨by simp; omega, hap, haB⟩
  have st0 : BlkSt f W0.heap.size w w.heap.size a wb b mb (fileArr p0 p1 p2 p3 p4 p5 p6 p7 a0 a1 a2 a3 a4 a5 a6 a7 a8 a9 a10 a11 f) (atK f 11) (f.pre pre 11) (w.alloc (.cells (fileArr p0 p1 p2 p3 p4 p5 p6 p7 a0 a1 a2 a3 a4 a5 a6 a7 a8 a9 a10 a11 f) 33)) :=
    ⟨h.here (later_alloc _ _), Blk.new _ _ _, ha.alloc _, (WF.refl _ _ _ _).alloc hz _⟩
  have ST := Lib.hid st0
  have AP := Lib.hid ap
  have HP := Lib.hid hp
  have HI := Lib.hid hI
  have SM := Lib.hid S
  have H0 := Lib.hid h0
  have HA0 := Lib.hid hA.im
  have HA1 := Lib.hid hA.pk
  have HA2 := Lib.hid hA.fi
  have HA3 := Lib.hid hA.own
  have HA4 := Lib.hid hA.short
  have HA5 := Lib.hid hA.hashed
  have HA6 := Lib.hid hA.other
  have HA7 := Lib.hid hA.refs
  have HA8 := Lib.hid hA.rf
  have HA9 := Lib.hid hA.h64
  have HA10 := Lib.hid hA.hs
  have HA11 := Lib.hid hA.rn
  have HL4 := Lib.hid (show f.own.A = a3 ∧ f.short.A = a4 ∧ f.hashed.A = a5 ∧ f.other.A = a6 from ⟨hA.own, hA.short, hA.hashed, hA.other⟩)
  have HL := Lib.hid (show listsArr f.own.A f.short.A f.hashed.A f.other.A f = listsArr a3 a4 a5 a6 f from by rw [hA.own, hA.short, hA.hashed, hA.other])
  clear st0 ap hp hI S h0 h ha hap haB hA
  go_enter Tryz.func47, Tryz.ntmps47
  go_wp2_with fail
  go_loopw [6, 7, 8, 10, 12, 14] (fun _ _ _ _ _ i wr => ∃ k : Nat, k ≤ 3 ∧ i = .int .i64 k ∧ BlkSt f W0.heap.size w w.heap.size a wb b mb (fileArr p0 p1 p2 p3 p4 p5 p6 p7 a0 a1 a2 a3 a4 a5 a6 a7 a8 a9 a10 a11 f) (atK f (11 + k)) (f.pre pre (11 + k)) wr) (fun _ _ _ _ _ i _ => 3 - (intOf i).toNat)
  case atStart => exact ⟨0, by omega, rfl, ST.out⟩
  case round =>
    obtain ⟨k, hk, rfl, hst⟩ := hrel
    obtain ⟨wo, rfl⟩ : ∃ wo : World, wo = wr := ⟨_, rfl⟩
    have ST1 := Lib.hid hst
    have box := hst.box.lt
    clear hst ST
    by_cases hlt : k < 3
    · have hkb : decide ((k : Int) < 3) = true := by simp; omega
      have hidx := idx3 k hlt
      obtain ⟨Y, hY⟩ : ∃ Y, Y = f.pre pre (11 + k) := ⟨_, rfl⟩
      have hYl : Y.length = f.at_ (11 + k) := by rw [hY]; exact f.pre_len pre _ HP.out
      have hYb : Y.length ≤ 110000 := by have := SM.out.at_le (11 + k); omega
      have ST2 := Lib.hid (ST1.out.cast rfl hY.symm)
      have HY := Lib.hid hY
      have HYl := Lib.hid hYl
      clear hY hYl ST1
      have i0 : (0 : Int) ≤ ((11 + k : Nat) : Int) := by omega
      have i1 : ((11 + k : Nat) : Int) < 19 := by omega
      obtain ⟨j, hj⟩ : ∃ j, j = 11 + k := ⟨_, rfl⟩
      rw [← hj] at hidx i0 i1 ST2 HY HYl
      have HJ := Lib.hid hj
      clear hj
      obtain ⟨x0, c0⟩ := cell_in ST2.out.at_ (i := j) (by rw [atK_size]; omega)
      have f0 := ST2.out.at_.frozen j
      go_wp2_with fail
      go_region_held3 (fun _ => True) (first | trivial | go_keep)
        (first | (go_at_call 40; refine (writer_Offset (ST2.out.drewN 1).iw.wr).mono ?_; rintro e w2 ⟨rfl, n2, rfl⟩))
      obtain ⟨wc, hwc⟩ : ∃ wc, wc = (wo.drewN (1 + n2)).setCell ⟨a, j, none⟩ (.int .u32 (Y.length : Int)) := ⟨_, rfl⟩
      have SC := Lib.hid (show BlkSt f W0.heap.size w w.heap.size a wb b mb (fileArr p0 p1 p2 p3 p4 p5 p6 p7 a0 a1 a2 a3 a4 a5 a6 a7 a8 a9 a10 a11 f) (atK f (j + 1)) (Y) wc from by rw [hwc]; exact ((ST2.out.drewN _).store AP.out j _).cast (atK_set f j _ (by rw [HYl.out])) rfl)
      rw [← hwc]
      clear hwc c0 f0 ST2
      go_wp2_with fail
      refine (writer_Uint32 W0.heap.size wb b mb Y wc SC.out.iw.wr SC.out.iw.zs 0 (by omega) (by omega) (by omega)).mono ?_
      rintro e w3 k3
      have S3 := Lib.hid (SC.out.step AP.out (WroteM.of_wrote SC.out.iw k3))
      obtain ⟨rfl, _⟩ := k3
      go_wp2_with (first | (refine wpList_load_row rfl 33 (.tmp 3) rfl w.heap.size rfl 33 _ (0, 0) _ S3.out.box Tryz.underlying33 rfl Tryz.fileInfo ?_) | (go_at_call 39; refine (show Calls Tryz.prog 39 #[.agg (fileArr p0 p1 p2 p3 p4 p5 p6 p7 a0 a1 a2 a3 a4 a5 a6 a7 a8 a9 a10 a11 f)] w3 (RetV (.agg (listsArr a3 a4 a5 a6 f)) w3) from by have h := lists_any f SM.out.fp w3; rw [HE.out, HL.out] at h; exact h).mono ?_; rintro e wl ⟨rfl, hbl⟩))
      have S4 := Lib.hid (S3.out.here hbl)
      clear hbl S3
      go_loopw [8, 10, 12, 28] (fun n _ _ i wr => ∃ p : Nat, p ≤ 4 ∧ i = .int .i64 p ∧ n = .int .i64 ((((f.lists.take p).map Sl.l).flatten.map (gI k)).sum : Nat) ∧ BlkSt f W0.heap.size w w.heap.size a wb b mb (fileArr p0 p1 p2 p3 p4 p5 p6 p7 a0 a1 a2 a3 a4 a5 a6 a7 a8 a9 a10 a11 f) (atK f (j + 1)) (Y ++ idxQ (gI k) ((f.lists.take p).map Sl.l).flatten) wr) (fun _ _ _ i _ => 4 - (intOf i).toNat)
      case atStart => exact ⟨0, by omega, rfl, rfl, S4.out.cast rfl (by rw [← idxQ_nil (gI k)]; rfl)⟩
      case round =>
        obtain ⟨p, hp4, rfl, rfl, hst⟩ := hrel
        obtain ⟨wo2, rfl⟩ : ∃ wo2 : World, wo2 = wr := ⟨_, rfl⟩
        have S5 := Lib.hid hst
        clear hst S4
        by_cases hlt4 : p < 4
        · obtain ⟨L, LA, hL, hLA, hix⟩ := listsArr_at f HL4.out p hlt4
          have hkb4 : decide ((p : Int) < 4) = true := by simp; omega
          have HLm := Lib.hid hL
          have HLA := Lib.hid hLA
          have hn60 := SM.out.len_le_of L (List.mem_of_getElem? hL)
          clear hL hLA
          go_wp2_with fail
          go_loopw [8, 12, 33] (fun n _ i wr => ∃ m : Nat, m ≤ L.l.length ∧ i = .int .i64 m ∧ n = .int .i64 (((((f.lists.take p).map Sl.l).flatten ++ L.l.take m).map (gI k)).sum : Nat) ∧ BlkSt f W0.heap.size w w.heap.size a wb b mb (fileArr p0 p1 p2 p3 p4 p5 p6 p7 a0 a1 a2 a3 a4 a5 a6 a7 a8 a9 a10 a11 f) (atK f (j + 1)) (Y ++ idxQ (gI k) (((f.lists.take p).map Sl.l).flatten ++ L.l.take m)) wr) (fun _ _ i _ => L.l.length - (intOf i).toNat)
          case atStart => exact ⟨0, by omega, rfl, by simp, S5.out.cast rfl (by simp)⟩
          case round =>
            obtain ⟨m, hm, rfl, rfl, hst⟩ := hrel
            have S6 := Lib.hid hst
            clear hst S5
            by_cases hltm : m < L.l.length
            · obtain ⟨bb, oo, hA, hc⟩ := SlR.at_ ((HI.out.dfs L (List.mem_of_getElem? HLm.out)).l.here (S6.out.low H0.out)) m hltm
              obtain rfl : LA = some ⟨bb, oo, none⟩ := HLA.out.trans hA
              have hmem : L.l[m] ∈ f.all := FM.data_mem _ L (List.mem_of_getElem? HLm.out) (List.getElem_mem hltm)
              have hgl := SM.out.gI_le k _ hmem
              have hql : (((f.lists.take p).map Sl.l).flatten ++ L.l.take m).length ≤ 120 := by
                have h1 := SM.out.flat_le p
                have h2 : (L.l.take m).length ≤ 60 := by rw [List.length_take]; omega
                rw [List.length_append]
                omega
              have hqs : ((((f.lists.take p).map Sl.l).flatten ++ L.l.take m).map (gI k)).sum ≤ 200 * 120 := Nat.le_trans (sum_le (gI k) 200 _ (fun d hd => SM.out.gI_le k d (by
                rcases List.mem_append.1 hd with hd | hd
                · obtain ⟨l, hl, hd⟩ := List.mem_flatten.1 hd
                  obtain ⟨L', hL', rfl⟩ := List.mem_map.1 hl
                  exact FM.data_mem _ L' (List.mem_of_mem_take hL') hd
                · exact FM.data_mem _ L (List.mem_of_getElem? HLm.out) (List.mem_of_mem_take hd)))) (Nat.mul_le_mul_left _ hql)
              have HQ := Lib.hid (show (((f.lists.take p).map Sl.l).flatten ++ L.l.take m) ++ [L.l[m]] = ((f.lists.take p).map Sl.l).flatten ++ L.l.take (m + 1) from by rw [List.take_succ_eq_append_getElem hltm, List.append_assoc])
              have q0 := hc 0 _ rfl
              have q1 := hc 1 _ rfl
              have q2 := hc 2 _ rfl
              have q3 := hc 3 _ rfl
              have q4 := hc 4 _ rfl
              have q5 := hc 5 _ rfl
              have q6 := hc 6 _ rfl
              have q7 := hc 7 _ rfl
              have q8 := hc 8 _ rfl
              have q9 := hc 9 _ rfl
              rw [Nat.add_zero] at q0
              clear hc hmem
              generalize L.l[m] = x at *
              obtain ⟨Q, hQ⟩ : ∃ Q, Q = (((f.lists.take p).map Sl.l).flatten ++ L.l.take m) := ⟨_, rfl⟩
              rw [← hQ] at S6 hql hqs HQ ⊢
              have hpick := pick3 k hlt x
              have HQQ := Lib.hid hQ
              clear hQ
              obtain ⟨sm, hsm⟩ : ∃ sm, sm = (Q.map (gI k)).sum := ⟨_, rfl⟩
              rw [← hsm] at hqs ⊢
              obtain ⟨gx, hgx⟩ : ∃ gx, gx = gI k x := ⟨_, rfl⟩
              rw [← hgx] at hpick hgl
              have HSM := Lib.hid hsm
              have HGX := Lib.hid hgx
              have hyl : (Y ++ idxQ (gI k) Q).length ≤ 120000 := by rw [List.length_append, idxQ_len]; omega
              have e1 : (0 : Int) ≤ (sm : Int) + (gx : Int) := by omega
              have e2 : ((sm : Int) + (gx : Int)) < 100000 := by omega
              clear hsm hgx
              go_wp2_with fail
              refine (writer_Uint32 W0.heap.size wb b mb (Y ++ idxQ (gI k) Q) _ (S6.out.alloc _).iw.wr (S6.out.alloc _).iw.zs ((sm : Int) + (gx : Int)) (by omega) (by omega) (by omega)).mono ?_
              rintro e w7 k7
              have S7 := Lib.hid ((S6.out.alloc _).step AP.out (WroteM.of_wrote (S6.out.alloc _).iw k7))
              obtain ⟨rfl, _⟩ := k7
              have S8 := Lib.hid (S7.out.cast rfl (show _ = Y ++ idxQ (gI k) (Q ++ [x]) from by rw [idxQ_snoc, ← HSM.out, ← HGX.out, Int.natCast_add, List.append_assoc]))
              clear q0 q1 q2 q3 q4 q5 q6 q7 q8 q9 S7 S6
              go_wp2_with fail
              go_roundw
              case rel => exact ⟨m + 1, by omega, by go_num, by rw [← HQ.out, List.map_append, List.sum_append, ← HSM.out, HGX.out]; simp, S8.out.cast rfl (by rw [HQ.out])⟩
              case measure => simp [intOf]; omega
            · obtain rfl : m = L.l.length := by omega
              have hq : ((f.lists.take p).map Sl.l).flatten ++ L.l.take L.l.length = ((f.lists.take (p + 1)).map Sl.l).flatten := by rw [List.take_length, take_lists f p L HLm.out]
              rw [hq] at S6 ⊢
              go_wp2_with fail
              go_roundw
              case rel => exact ⟨p + 1, by omega, by go_num, rfl, S6.out⟩
              case measure => simp [intOf]; omega
        · obtain rfl : p = 4 := by omega
          have S9 := Lib.hid (S5.out.cast (show _ = atK f (11 + (k + 1)) from by rw [HJ.out]; rfl) (show _ = f.pre pre (11 + (k + 1)) from by
            rw [show f.lists.take 4 = f.lists from rfl, ← FM.all_flat, HY.out, HJ.out]
            exact f.pre_succ pre (11 + k) (by omega) _ (blks_idx f k hlt)))
          go_wp2_with fail
          go_roundw
          case rel => exact ⟨k + 1, by omega, by go_num, S9.out⟩
          case measure => simp [intOf]; omega
    · obtain rfl : k = 3 := by omega
      go_wp2_with fail
      go_end0
      exact ⟨rfl, ST1.out.iw, ST1.out.at_, ST1.out.wf⟩
end Go.Proofs.YtajeinkkfggcbaaGreatDoor
