/- The blocks of a file, written. -/
import Derived.Great.Walk
import Derived.Great.BuildSlice
import Derived.Test.YtajeinkkfggcbaaGreatDoorCont
namespace Go.Proofs.YtajeinkkfggcbaaGreatDoor
open Go.RowKit

theorem Tryz.info19 : (Tryz.prog.info? 65).map (·.size) = some 19 := by kernel_rfl
/-- What blocks leaves. -/
def Blocked (f : FM) (B : Nat) (w : World) (wb b mb : Nat) (ys : List Int) (e : Ending) (w' : World) : Prop :=
  e = .returned (.agg (atK f 19)) ∧ IsW B wb b mb f.names.length ys f.tab.2 w' ∧ WF 5 [wb, b, mb] B w w'
theorem FM.off_some {f : FM} (S : f.Small) (s : ByteArray) (h : s ∈ f.names) : f.tab.2 s = some (f.off s) ∧ s.size ≤ 1000 ∧ f.off s < 4294967296 := by
  have h1 := addAll_has (n := 96) (t := tab0) h
  have h2 := (FM.has_str S s h).2.2
  have h3 := S.names s h
  refine ⟨?_, by omega, by omega⟩
  obtain ⟨v, hv⟩ := Option.isSome_iff_exists.1 h1
  have hv' : f.tab.2 s = some v := hv
  unfold FM.off
  rw [hv']
  rfl
theorem blks_df (f : FM) (p : Nat) (h : p < 4) (L : Sl Df) (hL : f.lists[p]? = some L) : f.blks[3 + p]'(show 3 + p < 18 by omega) = L.l.flatMap f.dfB := by
  match p, h with
  | 0, _ => obtain rfl : f.own = L := Option.some.inj hL; rfl
  | 1, _ => obtain rfl : f.short = L := Option.some.inj hL; rfl
  | 2, _ => obtain rfl : f.hashed = L := Option.some.inj hL; rfl
  | 3, _ => obtain rfl : f.other = L := Option.some.inj hL; rfl
/-- A block of a round's own written. -/
theorem BlkSt.fresh {f : FM} {B g a wb b mb : Nat} {w wr w' : World} {cs os ds : Array Value} {ys : List Int} {g' : Nat} {ty : TypeId} (h : BlkSt f B w g a wb b mb cs os ys wr) (hf : Fr [g'] wr w') (hb : Blk wr g' ty ds) (ht : ty ≠ 5) (h1 : g' ∉ [g, a, wb, b]) (h2 : w.heap.size ≤ g') (hB : B ≤ w.heap.size) : BlkSt f B w g a wb b mb cs os ys w' := by
  simp at h1
  exact ⟨h.iw.fr hb ht (by omega) (by omega) hf, h.box.fr hf (by simp; omega), h.at_.fr hf (by simp; omega), h.wf.andFr hf (by simp; omega) hB⟩
theorem atK_one (f : FM) (i : Nat) : (atK f i).all (·.oneCell') = true := by
  rw [Array.all_eq_true_iff_forall_mem]
  intro v hv
  simp only [atK, List.mem_toArray, List.mem_map] at hv
  obtain ⟨j, _, rfl⟩ := hv
  rfl
theorem Fr.setRow {gs : List Nat} {a w : World} (h : Fr gs a w) {g : Nat} (hg : g ∈ gs) (cs : Array Value) : Fr gs a (w.setRow g cs) :=
  ⟨h.os, h.tape, h.output, by simpa using h.size, fun k hk hn => (setRow_other w g k cs (by rintro rfl; exact hn hg)).trans (h.block k hk hn)⟩
theorem Blk.setRow {w : World} {g : Nat} {t : TypeId} {cs : Array Value} (h : Blk w g t cs) (ds : Array Value) : Blk (w.setRow g ds) g t ds := setRow_heap w g cs ds t (0, 0) h
theorem WF.shrink {e : TypeId} {s : Nat} {own : List Nat} {B : Nat} {w w' : World} (h : WF e (s :: own) B w w') (hs : w.heap.size ≤ s) : WF e own B w w' :=
  ⟨h.os, h.tape, h.output, h.size, h.low, fun k o hk hn ho => h.keep k o hk (by
    intro hm
    rcases List.mem_cons.1 hm with rfl | hm
    · have := (Array.getElem?_eq_some_iff.1 hk).1
      omega
    · exact hn hm) ho⟩
theorem BlkSt.told {f : FM} {B g a wb b mb : Nat} {w wr w' : World} {cs os os' : Array Value} {ys ys' : List Int} {e : Ending} (h : BlkSt f B w g a wb b mb cs os ys wr) (ap : Apart g a wb b mb B) (k : Indexed f B wr a wb b mb os' ys' e w') : BlkSt f B w g a wb b mb cs os' ys' w' :=
  ⟨k.2.1, k.2.2.2.blk h.box ap.pg (by decide), k.2.2.1, h.wf.trans k.2.2.2⟩

section
variable (g : Nat) (t : TypeId) (cs : Array Value) (w : World) (hb : Blk w g t cs) (hs : cs.size = 16)
include hb hs
theorem refName_SetSym (p y : Int) (p0 : 0 ≤ p) (p1 : p < 4294967296) (y0 : 0 ≤ y) (y1 : y < 4294967296) : Calls Tryz.prog 49 #[.pointer (some ⟨g, 0, none⟩), .agg #[.int .u32 p, .int .u32 y]] w (Wr g t (set4 (set4 cs 0 p) 4 y) w) := by
  have hlt := hb.lt
  have H := Lib.hid hb
  clear hb
  go_enter Tryz.func49, Tryz.ntmps49
  go_wp2_with fail
  go_region_held3 (fun w' => w'.cell? ⟨w.heap.size, 0, none⟩ = some (.int .u32 p) ∧ w'.cell? ⟨w.heap.size, 1, none⟩ = some (.int .u32 y))
    (first | go_keep | (go_split_ands; refine ⟨?_, ?_⟩ <;> (refine hf1.cell ?_ (by simp; omega); first | assumption | (simp [go_sem]; done))))
    (first | (go_at_call 73; refine (putLe32_blk g 0 _ _ t cs _ _ (H.out.alloc _).drew (by omega) (by omega) (by omega) (by omega)).mono ?_; rintro e w1 ⟨rfl, hb1, hf1⟩; have H1 := Lib.hid hb1; clear hb1))
  go_wp2_with fail
  go_region_held3 (fun w' => w'.cell? ⟨w.heap.size, 0, none⟩ = some (.int .u32 p) ∧ w'.cell? ⟨w.heap.size, 1, none⟩ = some (.int .u32 y))
    (first | go_keep | (go_split_ands; refine ⟨?_, ?_⟩ <;> (refine hf2.cell ?_ (by simp; omega); first | assumption | (simp [go_sem]; done))))
    (first | (go_at_call 73; refine (putLe32_blk g 4 _ _ t _ _ _ H1.out.drew (by omega) (by simp; omega) (by omega) (by omega)).mono ?_; rintro e w2 ⟨rfl, hb2, hf2⟩))
  go_wp2_with fail
  go_end0
  exact ⟨rfl, hb2, (Fr.trans1 (Fr.trans1 (by (repeat' (first | (with_reducible exact Fr.refl _ _) | (with_reducible assumption) | (with_reducible refine Fr.drewN ?_ _) | (with_reducible refine Fr.alloc ?_ _) | (with_reducible refine Fr.drew ?_) | (with_reducible refine Fr.setCell ?_ (.inl (by simp)) _) | (with_reducible refine Fr.setCell ?_ (.inr ?_) _) | go_size))) hf1).drew hf2)⟩
end
abbrev zero16 : Array Value := #[.int .u8 0, .int .u8 0, .int .u8 0, .int .u8 0, .int .u8 0, .int .u8 0, .int .u8 0, .int .u8 0, .int .u8 0, .int .u8 0, .int .u8 0, .int .u8 0, .int .u8 0, .int .u8 0, .int .u8 0, .int .u8 0]
theorem take_flatMap_succ {α : Type} (l : List α) (f : α → List Int) (k : Nat) (h : k < l.length) : (l.take (k + 1)).flatMap f = (l.take k).flatMap f ++ f l[k] := by
  rw [List.take_succ_eq_append_getElem h, List.flatMap_append]
  simp
theorem refName_cells (p y n o : Int) : set4 (set4 (set4 (set4 zero16 0 p) 4 y) 8 n) 12 o = (bcs ((le4 p ++ le4 y) ++ (le4 n ++ le4 o))).toArray := by
  simp [set4, bcs, le4, u8, zero16]

set_option maxRecDepth 100000 in
set_option maxHeartbeats 3000000 in
theorem blocks_any (f : FM) (W0 w : World) (pre : List Int) (wb b mb : Nat) (hI : f.In W0) (S : f.Small) (hp : pre.length = f.base) (h0 : Below W0.heap.size W0 w) (h : IsW W0.heap.size wb b mb f.names.length pre f.tab.2 w) :
    Calls Tryz.prog 20 #[f.val, .pointer (some ⟨wb, 0, none⟩)] w (Blocked f W0.heap.size w wb b mb (f.pre pre 18)) := by
  obtain ⟨p0, p1, p2, p3, p4, p5, p6, p7, a0, a1, a2, a3, a4, a5, a6, a7, a8, a9, a10, a11, _, hA, e⟩ := FM.val_eq S.fp
  have HE := Lib.hid e
  rw [e]
  clear e
  have hz := h.zs
  have h1 := h.wr.wlt
  have h2 := h.wr.buf.lt
  have h3 := h.map.lt
  obtain ⟨wq, hwq⟩ : ∃ wq, wq = (w.alloc (.cells (fileArr p0 p1 p2 p3 p4 p5 p6 p7 a0 a1 a2 a3 a4 a5 a6 a7 a8 a9 a10 a11 f) 33)).alloc (.cells #[.int .u32 0, .int .u32 0, .int .u32 0, .int .u32 0, .int .u32 0, .int .u32 0, .int .u32 0, .int .u32 0, .int .u32 0, .int .u32 0, .int .u32 0, .int .u32 0, .int .u32 0, .int .u32 0, .int .u32 0, .int .u32 0, .int .u32 0, .int .u32 0, .int .u32 0] 65) := ⟨_, rfl⟩
  obtain ⟨a, ha⟩ : ∃ a, a = wq.heap.size := ⟨_, rfl⟩
  have haw : a = w.heap.size + 1 + 1 := by rw [ha, hwq]; simp
  have ap : Apart w.heap.size a wb b mb W0.heap.size := ⟨by simp; omega, by simp; omega, by omega⟩
  obtain ⟨w1, hw1⟩ : ∃ w1, w1 = wq.alloc (.cells #[.int .u32 0, .int .u32 0, .int .u32 0, .int .u32 0, .int .u32 0, .int .u32 0, .int .u32 0, .int .u32 0, .int .u32 0, .int .u32 0, .int .u32 0, .int .u32 0, .int .u32 0, .int .u32 0, .int .u32 0, .int .u32 0, .int .u32 0, .int .u32 0, .int .u32 0] 65) := ⟨_, rfl⟩
  have hb1 : Below w.heap.size w w1 := by rw [hw1, hwq]; (repeat' (first | (with_reducible exact Below.refl _ _) | (with_reducible assumption) | (with_reducible refine below_drewN ?_ _) | (with_reducible refine Below.alloc ?_ ?_ _) | (with_reducible refine Below.drew ?_) | (with_reducible refine Below.setCell ?_ ?_ _) | go_size))
  have box1 : Blk w1 w.heap.size 33 (fileArr p0 p1 p2 p3 p4 p5 p6 p7 a0 a1 a2 a3 a4 a5 a6 a7 a8 a9 a10 a11 f) := by rw [hw1, hwq]; exact ((Blk.new w _ _).alloc _).alloc _
  have res1 : Blk w1 (w.heap.size + 1) 65 #[.int .u32 0, .int .u32 0, .int .u32 0, .int .u32 0, .int .u32 0, .int .u32 0, .int .u32 0, .int .u32 0, .int .u32 0, .int .u32 0, .int .u32 0, .int .u32 0, .int .u32 0, .int .u32 0, .int .u32 0, .int .u32 0, .int .u32 0, .int .u32 0, .int .u32 0] := by rw [hw1, hwq]; exact (Blk.new1 w _ _ _).alloc _
  have at1 : Blk w1 a 65 #[.int .u32 0, .int .u32 0, .int .u32 0, .int .u32 0, .int .u32 0, .int .u32 0, .int .u32 0, .int .u32 0, .int .u32 0, .int .u32 0, .int .u32 0, .int .u32 0, .int .u32 0, .int .u32 0, .int .u32 0, .int .u32 0, .int .u32 0, .int .u32 0, .int .u32 0] := by rw [hw1, ha]; exact Blk.new _ _ _
  have fr1 : Fr [a] w1 (w1.setRow a #[.int .u32 0, .int .u32 0, .int .u32 0, .int .u32 0, .int .u32 0, .int .u32 0, .int .u32 0, .int .u32 0, .int .u32 0, .int .u32 0, .int .u32 0, .int .u32 0, .int .u32 0, .int .u32 0, .int .u32 0, .int .u32 0, .int .u32 0, .int .u32 0, .int .u32 0]) := (Fr.refl _ _).setRow (by simp) _
  obtain ⟨wz, hwz⟩ : ∃ wz, wz = w1.setRow a #[.int .u32 0, .int .u32 0, .int .u32 0, .int .u32 0, .int .u32 0, .int .u32 0, .int .u32 0, .int .u32 0, .int .u32 0, .int .u32 0, .int .u32 0, .int .u32 0, .int .u32 0, .int .u32 0, .int .u32 0, .int .u32 0, .int .u32 0, .int .u32 0, .int .u32 0] := ⟨_, rfl⟩
  have iwz : IsW W0.heap.size wb b mb f.names.length pre f.tab.2 wz := by rw [hwz]; exact (h.here hb1).fr at1 (by decide) (by omega) (by omega) fr1
  have T0 := Lib.hid (show BlkSt f W0.heap.size wz w.heap.size a wb b mb (fileArr p0 p1 p2 p3 p4 p5 p6 p7 a0 a1 a2 a3 a4 a5 a6 a7 a8 a9 a10 a11 f) (atK f 0) (f.pre pre 0) wz from ⟨by simpa [FM.pre] using iwz, by rw [hwz]; exact box1.fr fr1 (by simp; omega), by rw [hwz]; exact at1.setRow _, WF.refl _ _ _ _⟩)
  have RZ := Lib.hid (show Blk wz (w.heap.size + 1) 65 #[.int .u32 0, .int .u32 0, .int .u32 0, .int .u32 0, .int .u32 0, .int .u32 0, .int .u32 0, .int .u32 0, .int .u32 0, .int .u32 0, .int .u32 0, .int .u32 0, .int .u32 0, .int .u32 0, .int .u32 0, .int .u32 0, .int .u32 0, .int .u32 0, .int .u32 0] from by rw [hwz]; exact res1.fr fr1 (by simp; omega))
  have FZ := Lib.hid (show Below w.heap.size w wz from hb1.trans (by rw [hwz]; exact ⟨fr1.os, fr1.tape, fr1.output, fr1.size, fun k hk => fr1.block k (by have := hb1.size; omega) (by simp; omega)⟩))
  have AT1 := Lib.hid at1
  have HA := Lib.hid ha
  have HWQ := Lib.hid hwq
  have HW1 := Lib.hid hw1
  have HWZ := Lib.hid hwz
  have HAW := Lib.hid haw
  have HLT := Lib.hid (show wb < w.heap.size ∧ b < w.heap.size ∧ mb < w.heap.size ∧ W0.heap.size ≤ w.heap.size from ⟨h1, h2, h3, hz⟩)
  have AP := Lib.hid ap
  have HP := Lib.hid hp
  have HI := Lib.hid hI
  have SM := Lib.hid S
  have H0 := Lib.hid (show Below W0.heap.size W0 wz from h0.trans ((FZ.out).mono hz))
  have HA0 := Lib.hid hA.im
  have HA1 := Lib.hid hA.pk
  have HA2 := Lib.hid hA.fi
  have HA3 := Lib.hid hA.own
  have HA4 := Lib.hid hA.short
  have HA5 := Lib.hid hA.hashed
  have HA6 := Lib.hid hA.other
  have HA7 := Lib.hid hA.refs
  have HA8 := Lib.hid hA.rf
  have HA9 := Lib.hid hA.h64
  have HA10 := Lib.hid hA.hs
  have HA11 := Lib.hid hA.rn
  have HL4 := Lib.hid (show f.own.A = a3 ∧ f.short.A = a4 ∧ f.hashed.A = a5 ∧ f.other.A = a6 from ⟨hA.own, hA.short, hA.hashed, hA.other⟩)
  have HL := Lib.hid (show listsArr f.own.A f.short.A f.hashed.A f.other.A f = listsArr a3 a4 a5 a6 f from by rw [hA.own, hA.short, hA.hashed, hA.other])
  clear hb1 box1 res1 at1 fr1 iwz hw1 hwz ap hp hI S h0 h hA h1 h2 h3 ha haw hwq
  go_enter Tryz.func20, Tryz.ntmps20
  go_upto_region 1 with fail
  rw [← HWQ.out]
  refine wp_region_list ?_
  refine Go.Great.wpList_readTo rfl (some 28) rfl (.agg #[.int .u32 0, .int .u32 0, .int .u32 0, .int .u32 0, .int .u32 0, .int .u32 0, .int .u32 0, .int .u32 0, .int .u32 0, .int .u32 0, .int .u32 0, .int .u32 0, .int .u32 0, .int .u32 0, .int .u32 0, .int .u32 0, .int .u32 0, .int .u32 0, .int .u32 0]) (by as_aux_lemma => kernel_rfl) ?_
  refine Go.Great.wpList_allocTo rfl (some 5) rfl (.pointer (some ⟨wq.heap.size, 0, none⟩)) (.cells #[.int .u32 0, .int .u32 0, .int .u32 0, .int .u32 0, .int .u32 0, .int .u32 0, .int .u32 0, .int .u32 0, .int .u32 0, .int .u32 0, .int .u32 0, .int .u32 0, .int .u32 0, .int .u32 0, .int .u32 0, .int .u32 0, .int .u32 0, .int .u32 0, .int .u32 0] 65) (by as_aux_lemma => kernel_rfl) ?_
  rw [← HA.out, ← HW1.out]
  refine wpList_store_rowTo rfl 65 _ _ rfl rfl a #[.int .u32 0, .int .u32 0, .int .u32 0, .int .u32 0, .int .u32 0, .int .u32 0, .int .u32 0, .int .u32 0, .int .u32 0, .int .u32 0, .int .u32 0, .int .u32 0, .int .u32 0, .int .u32 0, .int .u32 0, .int .u32 0, .int .u32 0, .int .u32 0, .int .u32 0] (by rfl) (by rfl) 65 #[.int .u32 0, .int .u32 0, .int .u32 0, .int .u32 0, .int .u32 0, .int .u32 0, .int .u32 0, .int .u32 0, .int .u32 0, .int .u32 0, .int .u32 0, .int .u32 0, .int .u32 0, .int .u32 0, .int .u32 0, .int .u32 0, .int .u32 0, .int .u32 0, .int .u32 0] AT1.out Tryz.info19 rfl (by simp [Value.oneCell']) ?_
  rw [← HWZ.out]
  refine wpList_nil ?_
  clear HW1 HWZ AT1 HWQ HA
  go_frame
  go_upto_region 2 with fail
  skip
  obtain ⟨wc, hwc⟩ : ∃ wc, wc = wz := ⟨_, rfl⟩
  have T0' := Lib.hid (show BlkSt f W0.heap.size wz w.heap.size a wb b mb (fileArr p0 p1 p2 p3 p4 p5 p6 p7 a0 a1 a2 a3 a4 a5 a6 a7 a8 a9 a10 a11 f) (atK f 0) (f.pre pre 0) wc from by rw [hwc]; exact T0.out)
  rw [← hwc]
  clear T0 hwc
  have T0 := T0'
  clear T0'
  obtain ⟨Y, hY⟩ : ∃ Y, Y = f.pre pre 0 := ⟨_, rfl⟩
  have hYl : Y.length = f.at_ 0 := by rw [hY]; exact f.pre_len pre _ HP.out
  have hYb : Y.length ≤ 110000 := by have := SM.out.at_le 0; omega
  have ST2 := Lib.hid (T0.out.cast rfl hY.symm)
  have HY := Lib.hid hY
  have HYl := Lib.hid hYl
  clear hY hYl T0
  obtain ⟨x0, c0⟩ := cell_in ST2.out.at_ (i := 0) (by rw [atK_size]; omega)
  have f0 := ST2.out.at_.frozen 0
  go_upto_region 3 with (go_at_call 40; refine (writer_Offset ST2.out.iw.wr).mono ?_; rintro e w2 ⟨rfl, n2, rfl⟩)
  obtain ⟨w3, hw3⟩ : ∃ w3, w3 = (wc.drewN n2).setCell ⟨a, 0, none⟩ (.int .u32 (Y.length : Int)) := ⟨_, rfl⟩
  have S3 := Lib.hid (show BlkSt f W0.heap.size wz w.heap.size a wb b mb (fileArr p0 p1 p2 p3 p4 p5 p6 p7 a0 a1 a2 a3 a4 a5 a6 a7 a8 a9 a10 a11 f) (atK f 1) (Y) w3 from by rw [hw3]; exact ((ST2.out.drewN _).store AP.out 0 _).cast (atK_set f 0 _ (by rw [HYl.out])) rfl)
  rw [← hw3]
  clear hw3 c0 f0 ST2
  have hbx := S3.out.box.cell 9
  go_upto_block 0 with fail
  go_cut [] from 6 to 195 (fun wc => BlkSt f W0.heap.size wz w.heap.size a wb b mb (fileArr p0 p1 p2 p3 p4 p5 p6 p7 a0 a1 a2 a3 a4 a5 a6 a7 a8 a9 a10 a11 f) (atK f 1) (f.pre pre 1) wc)
  case first =>
   as_aux_lemma =>
    go_wp2_with fail
    go_loopw [7, 8, 35] (fun _ _ i wr => ∃ k : Nat, k ≤ f.im.l.length ∧ i = .int .i64 k ∧ BlkSt f W0.heap.size wz w.heap.size a wb b mb (fileArr p0 p1 p2 p3 p4 p5 p6 p7 a0 a1 a2 a3 a4 a5 a6 a7 a8 a9 a10 a11 f) (atK f 1) (Y ++ (f.im.l.take k).flatMap f.imB) wr) (fun _ _ i _ => f.im.l.length - (intOf i).toNat)
    case atStart => exact ⟨0, by omega, rfl, S3.out.cast rfl (by simp)⟩
    case round =>
      obtain ⟨k, hk, rfl, hst⟩ := hrel
      have S6 := Lib.hid hst
      have hn60 : f.im.l.length ≤ 60 := by have := SM.out.im; omega
      clear hst hbx S3
      by_cases hlt : k < f.im.l.length
      · obtain ⟨bb, oo, hA, hc⟩ := SlR.at_ (HI.out.im.here (S6.out.low H0.out)) k hlt
        obtain rfl : a0 = some ⟨bb, oo, none⟩ := HA0.out.symm.trans hA
        have HK := Lib.hid (HI.out.imk _ (List.getElem_mem hlt))
        have hzb : ((f.im.l.take k).flatMap f.imB).length ≤ 21 * 60 := Nat.le_trans (flatMap_le (n := 21) _ (fun x hx => by rw [SM.out.imB_len x (List.mem_of_mem_take hx)]; omega)) (Nat.mul_le_mul_left _ (by rw [List.length_take]; omega))
        have HT := Lib.hid (take_flatMap_succ f.im.l f.imB k hlt)
        have ON := Lib.hid (FM.off_some SM.out _ (FM.im_name f k hlt))
        obtain ⟨z0, z1, z2, z3, z4, z5, z6, z7, he⟩ := list8 (SM.out.imf _ (List.getElem_mem hlt))
        have q0 := hc 0 _ rfl
        have q1 := hc 1 (.int .u8 z0) (by simp [Im.cells, he])
        have q2 := hc 2 (.int .u8 z1) (by simp [Im.cells, he])
        have q3 := hc 3 (.int .u8 z2) (by simp [Im.cells, he])
        have q4 := hc 4 (.int .u8 z3) (by simp [Im.cells, he])
        have q5 := hc 5 (.int .u8 z4) (by simp [Im.cells, he])
        have q6 := hc 6 (.int .u8 z5) (by simp [Im.cells, he])
        have q7 := hc 7 (.int .u8 z6) (by simp [Im.cells, he])
        have q8 := hc 8 (.int .u8 z7) (by simp [Im.cells, he])
        have HE8 := Lib.hid he
        clear he
        rw [Nat.add_zero] at q0
        clear hc
        generalize f.im.l[k] = x at *
        obtain ⟨Z, hZ⟩ : ∃ Z, Z = Y ++ (f.im.l.take k).flatMap f.imB := ⟨_, rfl⟩
        have hzl : Z.length ≤ 200000 := by rw [hZ, List.length_append]; omega
        rw [← hZ] at S6
        have HZ := Lib.hid hZ
        clear hZ hzb
        go_wp2_with (first | (refine Go.Great.wpList_readTo rfl (some 43) (by rfl) (.agg #[.string x.pkg, .int .u8 z0, .int .u8 z1, .int .u8 z2, .int .u8 z3, .int .u8 z4, .int .u8 z5, .int .u8 z6, .int .u8 z7]) (by as_aux_lemma => kernel_rfl) ?_) | (refine wpList_store_row rfl 108 (.tmp 8) (.tmp 43) (by rfl) (wr.heap.size + 1) #[.string x.pkg, .int .u8 z0, .int .u8 z1, .int .u8 z2, .int .u8 z3, .int .u8 z4, .int .u8 z5, .int .u8 z6, .int .u8 z7] (by rfl) (by rfl) 108 _ (Blk.new1 wr _ _ _) (by kernel_rfl) rfl (by simp [Value.oneCell']) ?_))
        have hz6 := S6.out.own
        obtain ⟨wv, hwv⟩ : ∃ wv, wv = ((wr.alloc (.cells #[.string x.pkg, .int .u8 z0, .int .u8 z1, .int .u8 z2, .int .u8 z3, .int .u8 z4, .int .u8 z5, .int .u8 z6, .int .u8 z7] 62)).alloc (.cells #[.string ⟨#[]⟩, .int .u8 0, .int .u8 0, .int .u8 0, .int .u8 0, .int .u8 0, .int .u8 0, .int .u8 0, .int .u8 0] 108)).setRow (wr.heap.size + 1) #[.string x.pkg, .int .u8 z0, .int .u8 z1, .int .u8 z2, .int .u8 z3, .int .u8 z4, .int .u8 z5, .int .u8 z6, .int .u8 z7] := ⟨_, rfl⟩
        have PB := Lib.hid (show Blk wv (wr.heap.size + 1) 108 #[.string x.pkg, .int .u8 z0, .int .u8 z1, .int .u8 z2, .int .u8 z3, .int .u8 z4, .int .u8 z5, .int .u8 z6, .int .u8 z7] from by rw [hwv]; exact (Blk.new1 wr _ _ _).setRow _)
        have S7 := Lib.hid (S6.out.here (show Below wr.heap.size wr wv from by rw [hwv]; exact ⟨rfl, rfl, rfl, by simp; omega, fun k hk => (setRow_other _ _ _ _ (by omega)).trans ((Below.heap_alloc _ _ k (by simp; omega)).trans (Below.heap_alloc _ _ k hk))⟩))
        rw [← hwv]
        clear hwv
        refine (imp_Write S7.out.iw (wr.heap.size + 1) x.pkg (f.off x.pkg) ON.out.1 ON.out.2.1 ON.out.2.2 [z0, z1, z2, z3, z4, z5, z6, z7] rfl PB.out (by omega) (by omega) (by omega)).mono ?_
        rintro e w9 k9
        have S9 := Lib.hid ((S7.out.step AP.out k9).cast rfl (show _ = Z ++ f.imB x from by unfold FM.imB FM.sref; rw [HE8.out]))
        clear S7 PB hz6
        obtain ⟨rfl, _⟩ := k9
        clear q0 q1 q2 q3 q4 q5 q6 q7 q8 S6
        have SE := Lib.hid (S9.out.cast rfl (show _ = Y ++ (f.im.l.take (k + 1)).flatMap f.imB from by rw [HT.out, HZ.out, List.append_assoc]))
        clear S9
        go_wp2_with fail
        go_roundw
        case rel => exact ⟨k + 1, by omega, by go_num, SE.out⟩
        case measure => simp [intOf]; omega
      · obtain rfl : k = f.im.l.length := by omega
        go_wp2_with fail
        go_meet
        case rel => exact S6.out.cast rfl (by rw [List.take_length, HY.out]; exact f.pre_succ pre 0 (by omega) _ rfl)
  case rest =>
  have T1 := Lib.hid hcut
  clear hcut S3 HY HYl hYb hbx Y
  obtain ⟨Y, hY⟩ : ∃ Y, Y = f.pre pre 1 := ⟨_, rfl⟩
  have hYl : Y.length = f.at_ 1 := by rw [hY]; exact f.pre_len pre _ HP.out
  have hYb : Y.length ≤ 110000 := by have := SM.out.at_le 1; omega
  have ST2 := Lib.hid (T1.out.cast rfl hY.symm)
  have HY := Lib.hid hY
  have HYl := Lib.hid hYl
  clear hY hYl T1
  obtain ⟨x0, c0⟩ := cell_in ST2.out.at_ (i := 1) (by rw [atK_size]; omega)
  have f0 := ST2.out.at_.frozen 1
  go_upto_region 10 with (go_at_call 40; refine (writer_Offset ST2.out.iw.wr).mono ?_; rintro e w2 ⟨rfl, n2, rfl⟩)
  obtain ⟨w3, hw3⟩ : ∃ w3, w3 = (wc.drewN n2).setCell ⟨a, 1, none⟩ (.int .u32 (Y.length : Int)) := ⟨_, rfl⟩
  have S3 := Lib.hid (show BlkSt f W0.heap.size wz w.heap.size a wb b mb (fileArr p0 p1 p2 p3 p4 p5 p6 p7 a0 a1 a2 a3 a4 a5 a6 a7 a8 a9 a10 a11 f) (atK f 2) (Y) w3 from by rw [hw3]; exact ((ST2.out.drewN _).store AP.out 1 _).cast (atK_set f 1 _ (by rw [HYl.out])) rfl)
  rw [← hw3]
  clear hw3 c0 f0 ST2
  have hbx := S3.out.box.cell 10
  go_upto_block 2 with fail
  go_cut [] from 6 to 195 (fun wc => BlkSt f W0.heap.size wz w.heap.size a wb b mb (fileArr p0 p1 p2 p3 p4 p5 p6 p7 a0 a1 a2 a3 a4 a5 a6 a7 a8 a9 a10 a11 f) (atK f 2) (f.pre pre 2) wc)
  case first =>
   as_aux_lemma =>
    go_wp2_with fail
    go_loopw [10, 53] (fun _ i wr => ∃ k : Nat, k ≤ f.pk.l.length ∧ i = .int .i64 k ∧ BlkSt f W0.heap.size wz w.heap.size a wb b mb (fileArr p0 p1 p2 p3 p4 p5 p6 p7 a0 a1 a2 a3 a4 a5 a6 a7 a8 a9 a10 a11 f) (atK f 2) (Y ++ (f.pk.l.take k).flatMap f.sref) wr) (fun _ i _ => f.pk.l.length - (intOf i).toNat)
    case atStart => exact ⟨0, by omega, rfl, S3.out.cast rfl (by simp)⟩
    case round =>
      obtain ⟨k, hk, rfl, hst⟩ := hrel
      have S6 := Lib.hid hst
      have hn60 : f.pk.l.length ≤ 60 := by have := SM.out.pk; omega
      clear hst hbx S3
      by_cases hlt : k < f.pk.l.length
      · obtain ⟨bb, oo, hA, hc⟩ := SlR.at_ (HI.out.pk.here (S6.out.low H0.out)) k hlt
        obtain rfl : a1 = some ⟨bb, oo, none⟩ := HA1.out.symm.trans hA
        have HK := Lib.hid (HI.out.pkk _ (List.getElem_mem hlt))
        have hzb : ((f.pk.l.take k).flatMap f.sref).length ≤ 21 * 60 := Nat.le_trans (flatMap_le (n := 21) _ (fun x hx => by rw [FM.sref_length]; omega)) (Nat.mul_le_mul_left _ (by rw [List.length_take]; omega))
        have HT := Lib.hid (take_flatMap_succ f.pk.l f.sref k hlt)
        have ON := Lib.hid (FM.off_some SM.out _ (FM.pk_name f k hlt))
        have q0 := hc 0 _ rfl
        rw [Nat.add_zero, Nat.mul_one] at q0
        clear hc
        generalize f.pk.l[k] = x at *
        obtain ⟨Z, hZ⟩ : ∃ Z, Z = Y ++ (f.pk.l.take k).flatMap f.sref := ⟨_, rfl⟩
        have hzl : Z.length ≤ 200000 := by rw [hZ, List.length_append]; omega
        rw [← hZ] at S6
        have HZ := Lib.hid hZ
        clear hZ hzb
        go_wp2_with fail
        refine (stringRef_any S6.out.iw x (f.off x) ON.out.1 ON.out.2.1 ON.out.2.2 (by omega)).mono ?_
        rintro e w9 k9
        have S9 := Lib.hid (S6.out.step AP.out k9)
        obtain ⟨rfl, _⟩ := k9
        clear q0 S6
        have SE := Lib.hid (S9.out.cast rfl (show _ = Y ++ (f.pk.l.take (k + 1)).flatMap f.sref from by rw [HT.out, HZ.out, List.append_assoc]; rfl))
        clear S9
        go_wp2_with fail
        go_roundw
        case rel => exact ⟨k + 1, by omega, by go_num, SE.out⟩
        case measure => simp [intOf]; omega
      · obtain rfl : k = f.pk.l.length := by omega
        go_wp2_with fail
        go_meet
        case rel => exact S6.out.cast rfl (by rw [List.take_length, HY.out]; exact f.pre_succ pre 1 (by omega) _ rfl)
  case rest =>
  have T2 := Lib.hid hcut
  clear hcut S3 HY HYl hYb hbx Y
  obtain ⟨Y, hY⟩ : ∃ Y, Y = f.pre pre 2 := ⟨_, rfl⟩
  have hYl : Y.length = f.at_ 2 := by rw [hY]; exact f.pre_len pre _ HP.out
  have hYb : Y.length ≤ 110000 := by have := SM.out.at_le 2; omega
  have ST2 := Lib.hid (T2.out.cast rfl hY.symm)
  have HY := Lib.hid hY
  have HYl := Lib.hid hYl
  clear hY hYl T2
  obtain ⟨x0, c0⟩ := cell_in ST2.out.at_ (i := 2) (by rw [atK_size]; omega)
  have f0 := ST2.out.at_.frozen 2
  go_upto_region 16 with (go_at_call 40; refine (writer_Offset ST2.out.iw.wr).mono ?_; rintro e w2 ⟨rfl, n2, rfl⟩)
  obtain ⟨w3, hw3⟩ : ∃ w3, w3 = (wc.drewN n2).setCell ⟨a, 2, none⟩ (.int .u32 (Y.length : Int)) := ⟨_, rfl⟩
  have S3 := Lib.hid (show BlkSt f W0.heap.size wz w.heap.size a wb b mb (fileArr p0 p1 p2 p3 p4 p5 p6 p7 a0 a1 a2 a3 a4 a5 a6 a7 a8 a9 a10 a11 f) (atK f 3) (Y) w3 from by rw [hw3]; exact ((ST2.out.drewN _).store AP.out 2 _).cast (atK_set f 2 _ (by rw [HYl.out])) rfl)
  rw [← hw3]
  clear hw3 c0 f0 ST2
  have hbx := S3.out.box.cell 11
  go_upto_block 4 with fail
  go_cut [] from 6 to 195 (fun wc => BlkSt f W0.heap.size wz w.heap.size a wb b mb (fileArr p0 p1 p2 p3 p4 p5 p6 p7 a0 a1 a2 a3 a4 a5 a6 a7 a8 a9 a10 a11 f) (atK f 3) (f.pre pre 3) wc)
  case first =>
   as_aux_lemma =>
    go_wp2_with fail
    go_loopw [12, 67] (fun _ i wr => ∃ k : Nat, k ≤ f.fi.l.length ∧ i = .int .i64 k ∧ BlkSt f W0.heap.size wz w.heap.size a wb b mb (fileArr p0 p1 p2 p3 p4 p5 p6 p7 a0 a1 a2 a3 a4 a5 a6 a7 a8 a9 a10 a11 f) (atK f 3) (Y ++ (f.fi.l.take k).flatMap f.sref) wr) (fun _ i _ => f.fi.l.length - (intOf i).toNat)
    case atStart => exact ⟨0, by omega, rfl, S3.out.cast rfl (by simp)⟩
    case round =>
      obtain ⟨k, hk, rfl, hst⟩ := hrel
      have S6 := Lib.hid hst
      have hn60 : f.fi.l.length ≤ 60 := by have := SM.out.fi; omega
      clear hst hbx S3
      by_cases hlt : k < f.fi.l.length
      · obtain ⟨bb, oo, hA, hc⟩ := SlR.at_ (HI.out.fi.here (S6.out.low H0.out)) k hlt
        obtain rfl : a2 = some ⟨bb, oo, none⟩ := HA2.out.symm.trans hA
        have HK := Lib.hid (HI.out.fik _ (List.getElem_mem hlt))
        have hzb : ((f.fi.l.take k).flatMap f.sref).length ≤ 21 * 60 := Nat.le_trans (flatMap_le (n := 21) _ (fun x hx => by rw [FM.sref_length]; omega)) (Nat.mul_le_mul_left _ (by rw [List.length_take]; omega))
        have HT := Lib.hid (take_flatMap_succ f.fi.l f.sref k hlt)
        have ON := Lib.hid (FM.off_some SM.out _ (FM.fi_name f k hlt))
        have q0 := hc 0 _ rfl
        rw [Nat.add_zero, Nat.mul_one] at q0
        clear hc
        generalize f.fi.l[k] = x at *
        obtain ⟨Z, hZ⟩ : ∃ Z, Z = Y ++ (f.fi.l.take k).flatMap f.sref := ⟨_, rfl⟩
        have hzl : Z.length ≤ 200000 := by rw [hZ, List.length_append]; omega
        rw [← hZ] at S6
        have HZ := Lib.hid hZ
        clear hZ hzb
        go_wp2_with fail
        refine (stringRef_any S6.out.iw x (f.off x) ON.out.1 ON.out.2.1 ON.out.2.2 (by omega)).mono ?_
        rintro e w9 k9
        have S9 := Lib.hid (S6.out.step AP.out k9)
        obtain ⟨rfl, _⟩ := k9
        clear q0 S6
        have SE := Lib.hid (S9.out.cast rfl (show _ = Y ++ (f.fi.l.take (k + 1)).flatMap f.sref from by rw [HT.out, HZ.out, List.append_assoc]; rfl))
        clear S9
        go_wp2_with fail
        go_roundw
        case rel => exact ⟨k + 1, by omega, by go_num, SE.out⟩
        case measure => simp [intOf]; omega
      · obtain rfl : k = f.fi.l.length := by omega
        go_wp2_with fail
        go_meet
        case rel => exact S6.out.cast rfl (by rw [List.take_length, HY.out]; exact f.pre_succ pre 2 (by omega) _ rfl)
  case rest =>
  have T3 := Lib.hid hcut
  clear hcut S3 HY HYl hYb hbx Y
  go_upto_block 6 with (first | (refine wpList_load_row rfl 33 (.tmp 2) rfl w.heap.size rfl 33 _ (0, 0) _ T3.out.box Tryz.underlying33 rfl Tryz.fileInfo ?_) | (go_at_call 39; refine (show Calls Tryz.prog 39 #[.agg (fileArr p0 p1 p2 p3 p4 p5 p6 p7 a0 a1 a2 a3 a4 a5 a6 a7 a8 a9 a10 a11 f)] wc (RetV (.agg (listsArr a3 a4 a5 a6 f)) wc) from by have h := lists_any f SM.out.fp wc; rw [HE.out, HL.out] at h; exact h).mono ?_; rintro e wl ⟨rfl, hbl⟩))
  have S3 := Lib.hid (T3.out.here hbl)
  clear hbl T3
  go_cut [] from 6 to 195 (fun wc => BlkSt f W0.heap.size wz w.heap.size a wb b mb (fileArr p0 p1 p2 p3 p4 p5 p6 p7 a0 a1 a2 a3 a4 a5 a6 a7 a8 a9 a10 a11 f) (atK f 7) (f.pre pre 7) wc)
  case first =>
   as_aux_lemma =>
    go_wp2_with fail
    go_loopw [13, 14, 16, 77] (fun _ _ _ i wr => ∃ p : Nat, p ≤ 4 ∧ i = .int .i64 p ∧ BlkSt f W0.heap.size wz w.heap.size a wb b mb (fileArr p0 p1 p2 p3 p4 p5 p6 p7 a0 a1 a2 a3 a4 a5 a6 a7 a8 a9 a10 a11 f) (atK f (3 + p)) (f.pre pre (3 + p)) wr) (fun _ _ _ i _ => 4 - (intOf i).toNat)
    case atStart => exact ⟨0, by omega, rfl, S3.out⟩
    case round =>
      obtain ⟨p, hp4, rfl, hst⟩ := hrel
      obtain ⟨wo, rfl⟩ : ∃ wo : World, wo = wr := ⟨_, rfl⟩
      have S4 := Lib.hid hst
      clear hst S3
      by_cases hlt4 : p < 4
      · obtain ⟨L, LA, hL, hLA, hix⟩ := listsArr_at f HL4.out p hlt4
        have hkb4 : decide ((p : Int) < 4) = true := by simp; omega
        have HLm := Lib.hid hL
        have HLA := Lib.hid hLA
        have hn60 := SM.out.len_le_of L (List.mem_of_getElem? hL)
        clear hL hLA
        obtain ⟨Y, hY⟩ : ∃ Y, Y = f.pre pre (3 + p) := ⟨_, rfl⟩
        have hYl : Y.length = f.at_ (3 + p) := by rw [hY]; exact f.pre_len pre _ HP.out
        have hYb : Y.length ≤ 110000 := by have := SM.out.at_le (3 + p); omega
        have ST2 := Lib.hid (S4.out.cast rfl hY.symm)
        have HY := Lib.hid hY
        have HYl := Lib.hid hYl
        clear hY hYl S4
        obtain ⟨x0, c0⟩ := cell_in ST2.out.at_ (i := 3 + p) (by rw [atK_size]; omega)
        have f0 := ST2.out.at_.frozen (3 + p)
        go_upto_region 25 with (go_at_call 40; refine (writer_Offset ST2.out.iw.wr).mono ?_; rintro e w2 ⟨rfl, n2, rfl⟩)
        obtain ⟨w3, hw3⟩ : ∃ w3, w3 = (wo.drewN n2).setCell ⟨a, 3 + p, none⟩ (.int .u32 (Y.length : Int)) := ⟨_, rfl⟩
        have S5 := Lib.hid (show BlkSt f W0.heap.size wz w.heap.size a wb b mb (fileArr p0 p1 p2 p3 p4 p5 p6 p7 a0 a1 a2 a3 a4 a5 a6 a7 a8 a9 a10 a11 f) (atK f (3 + p + 1)) (Y) w3 from by rw [hw3]; exact ((ST2.out.drewN _).store AP.out (3 + p) _).cast (atK_set f (3 + p) _ (by rw [HYl.out])) rfl)
        rw [← hw3]
        clear hw3 c0 f0 ST2
        go_wp2_with fail
        go_loopw [16, 88] (fun _ i wr => ∃ m : Nat, m ≤ L.l.length ∧ i = .int .i64 m ∧ BlkSt f W0.heap.size wz w.heap.size a wb b mb (fileArr p0 p1 p2 p3 p4 p5 p6 p7 a0 a1 a2 a3 a4 a5 a6 a7 a8 a9 a10 a11 f) (atK f (3 + p + 1)) (Y ++ (L.l.take m).flatMap f.dfB) wr) (fun _ i _ => L.l.length - (intOf i).toNat)
        case atStart => exact ⟨0, by omega, rfl, S5.out.cast rfl (by simp)⟩
        case round =>
          obtain ⟨m, hm, rfl, hst⟩ := hrel
          have S6 := Lib.hid hst
          clear hst S5
          by_cases hltm : m < L.l.length
          · obtain ⟨bb, oo, hA, hc⟩ := SlR.at_ ((HI.out.dfs L (List.mem_of_getElem? HLm.out)).l.here (S6.out.low H0.out)) m hltm
            obtain rfl : LA = some ⟨bb, oo, none⟩ := HLA.out.trans hA
            have HK := Lib.hid ((HI.out.dfs L (List.mem_of_getElem? HLm.out)).ok _ (List.getElem_mem hltm))
            have ON := Lib.hid (FM.off_some SM.out _ (df_name L (List.mem_of_getElem? HLm.out) m hltm))
            have hzb : ((L.l.take m).flatMap f.dfB).length ≤ 21 * 60 := Nat.le_trans (flatMap_le (n := 21) _ (fun x hx => by rw [FM.dfB, FM.syB_length]; omega)) (Nat.mul_le_mul_left _ (by rw [List.length_take]; omega))
            have HT := Lib.hid (take_flatMap_succ L.l f.dfB m hltm)
            have q0 := hc 0 _ rfl
            have q1 := hc 1 _ rfl
            have q2 := hc 2 _ rfl
            have q3 := hc 3 _ rfl
            have q4 := hc 4 _ rfl
            have q5 := hc 5 _ rfl
            have q6 := hc 6 _ rfl
            have q7 := hc 7 _ rfl
            have q8 := hc 8 _ rfl
            have q9 := hc 9 _ rfl
            rw [Nat.add_zero] at q0
            clear hc
            generalize L.l[m] = x at *
            obtain ⟨Z, hZ⟩ : ∃ Z, Z = Y ++ (L.l.take m).flatMap f.dfB := ⟨_, rfl⟩
            have hzl : Z.length ≤ 200000 := by rw [hZ, List.length_append]; omega
            rw [← hZ] at S6
            have HZ := Lib.hid hZ
            clear hZ hzb
            go_wp2_with fail
            refine (symbol_any (S6.out.alloc _).iw x.name (f.off x.name) ON.out.1 ON.out.2.1 ON.out.2.2 x.sy HK.out.sy (by omega)).mono ?_
            rintro e w9 k9
            have S9 := Lib.hid ((S6.out.alloc _).step AP.out k9)
            obtain ⟨rfl, _⟩ := k9
            clear q0 q1 q2 q3 q4 q5 q6 q7 q8 q9 S6
            have SE := Lib.hid (S9.out.cast rfl (show _ = Y ++ (L.l.take (m + 1)).flatMap f.dfB from by rw [HT.out, HZ.out, List.append_assoc]; rfl))
            clear S9
            go_wp2_with fail
            go_roundw
            case rel => exact ⟨m + 1, by omega, by go_num, SE.out⟩
            case measure => simp [intOf]; omega
          · obtain rfl : m = L.l.length := by omega
            have S7 := Lib.hid (S6.out.cast (show _ = atK f (3 + (p + 1)) from rfl) (show _ = f.pre pre (3 + (p + 1)) from by rw [List.take_length, HY.out]; exact f.pre_succ pre (3 + p) (by omega) _ (blks_df f p hlt4 L HLm.out)))
            go_wp2_with fail
            go_roundw
            case rel => exact ⟨p + 1, by omega, by go_num, S7.out⟩
            case measure => simp [intOf]; omega
      · obtain rfl : p = 4 := by omega
        go_wp2_with fail
        go_meet
        case rel => exact S4.out
  case rest =>
  have T7 := Lib.hid hcut
  clear hcut S3
  obtain ⟨Y, hY⟩ : ∃ Y, Y = f.pre pre 7 := ⟨_, rfl⟩
  have hYl : Y.length = f.at_ 7 := by rw [hY]; exact f.pre_len pre _ HP.out
  have hYb : Y.length ≤ 110000 := by have := SM.out.at_le 7; omega
  have ST2 := Lib.hid (T7.out.cast rfl hY.symm)
  have HY := Lib.hid hY
  have HYl := Lib.hid hYl
  clear hY hYl T7
  obtain ⟨x0, c0⟩ := cell_in ST2.out.at_ (i := 7) (by rw [atK_size]; omega)
  have f0 := ST2.out.at_.frozen 7
  go_upto_region 32 with (go_at_call 40; refine (writer_Offset ST2.out.iw.wr).mono ?_; rintro e w2 ⟨rfl, n2, rfl⟩)
  obtain ⟨w3, hw3⟩ : ∃ w3, w3 = (wc.drewN n2).setCell ⟨a, 7, none⟩ (.int .u32 (Y.length : Int)) := ⟨_, rfl⟩
  have S3 := Lib.hid (show BlkSt f W0.heap.size wz w.heap.size a wb b mb (fileArr p0 p1 p2 p3 p4 p5 p6 p7 a0 a1 a2 a3 a4 a5 a6 a7 a8 a9 a10 a11 f) (atK f 8) (Y) w3 from by rw [hw3]; exact ((ST2.out.drewN _).store AP.out 7 _).cast (atK_set f 7 _ (by rw [HYl.out])) rfl)
  rw [← hw3]
  clear hw3 c0 f0 ST2
  have hbx := S3.out.box.cell 16
  go_upto_block 10 with fail
  go_cut [] from 6 to 195 (fun wc => BlkSt f W0.heap.size wz w.heap.size a wb b mb (fileArr p0 p1 p2 p3 p4 p5 p6 p7 a0 a1 a2 a3 a4 a5 a6 a7 a8 a9 a10 a11 f) (atK f 8) (f.pre pre 8) wc)
  case first =>
   as_aux_lemma =>
    go_wp2_with fail
    go_loopw [18, 106] (fun _ i wr => ∃ k : Nat, k ≤ f.refs.l.length ∧ i = .int .i64 k ∧ BlkSt f W0.heap.size wz w.heap.size a wb b mb (fileArr p0 p1 p2 p3 p4 p5 p6 p7 a0 a1 a2 a3 a4 a5 a6 a7 a8 a9 a10 a11 f) (atK f 8) (Y ++ (f.refs.l.take k).flatMap f.rfB) wr) (fun _ i _ => f.refs.l.length - (intOf i).toNat)
    case atStart => exact ⟨0, by omega, rfl, S3.out.cast rfl (by simp)⟩
    case round =>
      obtain ⟨k, hk, rfl, hst⟩ := hrel
      have S6 := Lib.hid hst
      have hn60 : f.refs.l.length ≤ 60 := by have := SM.out.refs; omega
      clear hst hbx S3
      by_cases hlt : k < f.refs.l.length
      · obtain ⟨bb, oo, hA, hc⟩ := SlR.at_ (HI.out.refs.here (S6.out.low H0.out)) k hlt
        obtain rfl : a7 = some ⟨bb, oo, none⟩ := HA7.out.symm.trans hA
        have HK := Lib.hid (HI.out.refk _ (List.getElem_mem hlt))
        have hzb : ((f.refs.l.take k).flatMap f.rfB).length ≤ 21 * 60 := Nat.le_trans (flatMap_le (n := 21) _ (fun x hx => by rw [FM.rfB, FM.syB_length]; omega)) (Nat.mul_le_mul_left _ (by rw [List.length_take]; omega))
        have HT := Lib.hid (take_flatMap_succ f.refs.l f.rfB k hlt)
        have ON := Lib.hid (FM.off_some SM.out _ (FM.refs_name f k hlt))
        have q0 := hc 0 _ rfl
        have q1 := hc 1 _ rfl
        have q2 := hc 2 _ rfl
        have q3 := hc 3 _ rfl
        have q4 := hc 4 _ rfl
        have q5 := hc 5 _ rfl
        have q6 := hc 6 _ rfl
        rw [Nat.add_zero] at q0
        clear hc
        generalize f.refs.l[k] = x at *
        obtain ⟨Z, hZ⟩ : ∃ Z, Z = Y ++ (f.refs.l.take k).flatMap f.rfB := ⟨_, rfl⟩
        have hzl : Z.length ≤ 200000 := by rw [hZ, List.length_append]; omega
        rw [← hZ] at S6
        have HZ := Lib.hid hZ
        clear hZ hzb
        go_wp2_with fail
        refine (symbol_any (S6.out.alloc _).iw x.name (f.off x.name) ON.out.1 ON.out.2.1 ON.out.2.2 x.sy HK.out.2 (by omega)).mono ?_
        rintro e w9 k9
        have S9 := Lib.hid ((S6.out.alloc _).step AP.out k9)
        obtain ⟨rfl, _⟩ := k9
        clear q0 q1 q2 q3 q4 q5 q6 S6
        have SE := Lib.hid (S9.out.cast rfl (show _ = Y ++ (f.refs.l.take (k + 1)).flatMap f.rfB from by rw [HT.out, HZ.out, List.append_assoc]; rfl))
        clear S9
        go_wp2_with fail
        go_roundw
        case rel => exact ⟨k + 1, by omega, by go_num, SE.out⟩
        case measure => simp [intOf]; omega
      · obtain rfl : k = f.refs.l.length := by omega
        go_wp2_with fail
        go_meet
        case rel => exact S6.out.cast rfl (by rw [List.take_length, HY.out]; exact f.pre_succ pre 7 (by omega) _ rfl)
  case rest =>
  have T8 := Lib.hid hcut
  clear hcut S3 HY HYl hYb hbx Y
  obtain ⟨Y, hY⟩ : ∃ Y, Y = f.pre pre 8 := ⟨_, rfl⟩
  have hYl : Y.length = f.at_ 8 := by rw [hY]; exact f.pre_len pre _ HP.out
  have hYb : Y.length ≤ 110000 := by have := SM.out.at_le 8; omega
  have ST2 := Lib.hid (T8.out.cast rfl hY.symm)
  have HY := Lib.hid hY
  have HYl := Lib.hid hYl
  clear hY hYl T8
  obtain ⟨x0, c0⟩ := cell_in ST2.out.at_ (i := 8) (by rw [atK_size]; omega)
  have f0 := ST2.out.at_.frozen 8
  go_upto_region 38 with (go_at_call 40; refine (writer_Offset ST2.out.iw.wr).mono ?_; rintro e w2 ⟨rfl, n2, rfl⟩)
  obtain ⟨w3, hw3⟩ : ∃ w3, w3 = (wc.drewN n2).setCell ⟨a, 8, none⟩ (.int .u32 (Y.length : Int)) := ⟨_, rfl⟩
  have S3 := Lib.hid (show BlkSt f W0.heap.size wz w.heap.size a wb b mb (fileArr p0 p1 p2 p3 p4 p5 p6 p7 a0 a1 a2 a3 a4 a5 a6 a7 a8 a9 a10 a11 f) (atK f 9) (Y) w3 from by rw [hw3]; exact ((ST2.out.drewN _).store AP.out 8 _).cast (atK_set f 8 _ (by rw [HYl.out])) rfl)
  rw [← hw3]
  clear hw3 c0 f0 ST2
  have hbx := S3.out.box.cell 17
  go_upto_block 12 with fail
  go_cut [] from 6 to 195 (fun wc => BlkSt f W0.heap.size wz w.heap.size a wb b mb (fileArr p0 p1 p2 p3 p4 p5 p6 p7 a0 a1 a2 a3 a4 a5 a6 a7 a8 a9 a10 a11 f) (atK f 9) (f.pre pre 9) wc)
  case first =>
   as_aux_lemma =>
    go_wp2_with fail
    go_loopw [20, 123] (fun _ i wr => ∃ k : Nat, k ≤ f.rf.l.length ∧ i = .int .i64 k ∧ BlkSt f W0.heap.size wz w.heap.size a wb b mb (fileArr p0 p1 p2 p3 p4 p5 p6 p7 a0 a1 a2 a3 a4 a5 a6 a7 a8 a9 a10 a11 f) (atK f 9) (Y ++ (f.rf.l.take k).flatMap Fl.bytes) wr) (fun _ i _ => f.rf.l.length - (intOf i).toNat)
    case atStart => exact ⟨0, by omega, rfl, S3.out.cast rfl (by simp)⟩
    case round =>
      obtain ⟨k, hk, rfl, hst⟩ := hrel
      have S6 := Lib.hid hst
      have hn60 : f.rf.l.length ≤ 60 := by have := SM.out.rf; omega
      clear hst hbx S3
      by_cases hlt : k < f.rf.l.length
      · obtain ⟨bb, oo, hA, hc⟩ := SlR.at_ (HI.out.rf.here (S6.out.low H0.out)) k hlt
        obtain rfl : a8 = some ⟨bb, oo, none⟩ := HA8.out.symm.trans hA
        have HK := Lib.hid (HI.out.rfk _ (List.getElem_mem hlt))
        have hzb : ((f.rf.l.take k).flatMap Fl.bytes).length ≤ 21 * 60 := Nat.le_trans (flatMap_le (n := 21) _ (fun x hx => by rw [Fl.bytes_length]; omega)) (Nat.mul_le_mul_left _ (by rw [List.length_take]; omega))
        have HT := Lib.hid (take_flatMap_succ f.rf.l Fl.bytes k hlt)
        skip
        have q0 := hc 0 _ rfl
        have q1 := hc 1 _ rfl
        have q2 := hc 2 _ rfl
        have q3 := hc 3 _ rfl
        rw [Nat.add_zero] at q0
        clear hc
        generalize f.rf.l[k] = x at *
        obtain ⟨Z, hZ⟩ : ∃ Z, Z = Y ++ (f.rf.l.take k).flatMap Fl.bytes := ⟨_, rfl⟩
        have hzl : Z.length ≤ 200000 := by rw [hZ, List.length_append]; omega
        rw [← hZ] at S6
        have HZ := Lib.hid hZ
        clear hZ hzb
        go_wp2_with fail
        refine (flags_any x.pkg x.sym x.flag x.flag2 _ HK.out.p.1 HK.out.p.2 HK.out.y.1 HK.out.y.2).mono ?_
        rintro e w8 ⟨g8, rfl, hg8, hb8, hbw8⟩
        have S8 := Lib.hid ((S6.out.alloc _).here hbw8)
        have hgb : g8 ≠ b := by have := S6.out.own.2.2.2.1; simp at hg8; omega
        have B8 := Lib.hid hb8
        clear hb8 hbw8 hg8
        go_wp2_with fail
        refine (flags_Write W0.heap.size wb b mb Z w8 S8.out.iw.wr S8.out.iw.zs g8 _ _ _ _ _ B8.out hgb (by omega)).mono ?_
        rintro e w9 k9
        have S9 := Lib.hid (S8.out.step AP.out (WroteM.of_wrote S8.out.iw k9))
        clear S8
        obtain ⟨rfl, _⟩ := k9
        clear q0 q1 q2 q3 S6
        have SE := Lib.hid (S9.out.cast rfl (show _ = Y ++ (f.rf.l.take (k + 1)).flatMap Fl.bytes from by rw [HT.out, HZ.out, List.append_assoc]; rfl))
        clear S9
        go_wp2_with fail
        go_roundw
        case rel => exact ⟨k + 1, by omega, by go_num, SE.out⟩
        case measure => simp [intOf]; omega
      · obtain rfl : k = f.rf.l.length := by omega
        go_wp2_with fail
        go_meet
        case rel => exact S6.out.cast rfl (by rw [List.take_length, HY.out]; exact f.pre_succ pre 8 (by omega) _ rfl)
  case rest =>
  have T9 := Lib.hid hcut
  clear hcut S3 HY HYl hYb hbx Y
  obtain ⟨Y, hY⟩ : ∃ Y, Y = f.pre pre 9 := ⟨_, rfl⟩
  have hYl : Y.length = f.at_ 9 := by rw [hY]; exact f.pre_len pre _ HP.out
  have hYb : Y.length ≤ 110000 := by have := SM.out.at_le 9; omega
  have ST2 := Lib.hid (T9.out.cast rfl hY.symm)
  have HY := Lib.hid hY
  have HYl := Lib.hid hYl
  clear hY hYl T9
  obtain ⟨x0, c0⟩ := cell_in ST2.out.at_ (i := 9) (by rw [atK_size]; omega)
  have f0 := ST2.out.at_.frozen 9
  go_upto_region 44 with (go_at_call 40; refine (writer_Offset ST2.out.iw.wr).mono ?_; rintro e w2 ⟨rfl, n2, rfl⟩)
  obtain ⟨w3, hw3⟩ : ∃ w3, w3 = (wc.drewN n2).setCell ⟨a, 9, none⟩ (.int .u32 (Y.length : Int)) := ⟨_, rfl⟩
  have S3 := Lib.hid (show BlkSt f W0.heap.size wz w.heap.size a wb b mb (fileArr p0 p1 p2 p3 p4 p5 p6 p7 a0 a1 a2 a3 a4 a5 a6 a7 a8 a9 a10 a11 f) (atK f 10) (Y) w3 from by rw [hw3]; exact ((ST2.out.drewN _).store AP.out 9 _).cast (atK_set f 9 _ (by rw [HYl.out])) rfl)
  rw [← hw3]
  clear hw3 c0 f0 ST2
  have hbx := S3.out.box.cell 18
  go_upto_block 14 with fail
  go_cut [] from 6 to 195 (fun wc => BlkSt f W0.heap.size wz w.heap.size a wb b mb (fileArr p0 p1 p2 p3 p4 p5 p6 p7 a0 a1 a2 a3 a4 a5 a6 a7 a8 a9 a10 a11 f) (atK f 10) (f.pre pre 10) wc)
  case first =>
   as_aux_lemma =>
    go_wp2_with fail
    go_loopw [22, 138] (fun _ i wr => ∃ k : Nat, k ≤ f.h64.l.length ∧ i = .int .i64 k ∧ BlkSt f W0.heap.size wz w.heap.size a wb b mb (fileArr p0 p1 p2 p3 p4 p5 p6 p7 a0 a1 a2 a3 a4 a5 a6 a7 a8 a9 a10 a11 f) (atK f 10) (Y ++ (f.h64.l.take k).flatMap le8) wr) (fun _ i _ => f.h64.l.length - (intOf i).toNat)
    case atStart => exact ⟨0, by omega, rfl, S3.out.cast rfl (by simp)⟩
    case round =>
      obtain ⟨k, hk, rfl, hst⟩ := hrel
      have S6 := Lib.hid hst
      have hn60 : f.h64.l.length ≤ 60 := by have := SM.out.h64; have := SM.out.short_le; omega
      clear hst hbx S3
      by_cases hlt : k < f.h64.l.length
      · obtain ⟨bb, oo, hA, hc⟩ := SlR.at_ (HI.out.h64.here (S6.out.low H0.out)) k hlt
        obtain rfl : a9 = some ⟨bb, oo, none⟩ := HA9.out.symm.trans hA
        have HK := Lib.hid (HI.out.h64k _ (List.getElem_mem hlt))
        have hzb : ((f.h64.l.take k).flatMap le8).length ≤ 21 * 60 := Nat.le_trans (flatMap_le (n := 21) _ (fun x hx => by simp [le8, le4_len])) (Nat.mul_le_mul_left _ (by rw [List.length_take]; omega))
        have HT := Lib.hid (take_flatMap_succ f.h64.l le8 k hlt)
        skip
        have q0 := hc 0 _ rfl
        rw [Nat.add_zero, Nat.mul_one] at q0
        clear hc
        generalize f.h64.l[k] = x at *
        obtain ⟨Z, hZ⟩ : ∃ Z, Z = Y ++ (f.h64.l.take k).flatMap le8 := ⟨_, rfl⟩
        have hzl : Z.length ≤ 200000 := by rw [hZ, List.length_append]; omega
        rw [← hZ] at S6
        have HZ := Lib.hid hZ
        clear hZ hzb
        go_wp2_with fail
        refine (writer_Uint64 W0.heap.size wb b mb Z wr S6.out.iw.wr S6.out.iw.zs x HK.out.1 HK.out.2 (by omega)).mono ?_
        rintro e w9 k9
        have S9 := Lib.hid (S6.out.step AP.out (WroteM.of_wrote S6.out.iw k9))
        obtain ⟨rfl, _⟩ := k9
        clear q0 S6
        have SE := Lib.hid (S9.out.cast rfl (show _ = Y ++ (f.h64.l.take (k + 1)).flatMap le8 from by rw [HT.out, HZ.out, List.append_assoc]))
        clear S9
        go_wp2_with fail
        go_roundw
        case rel => exact ⟨k + 1, by omega, by go_num, SE.out⟩
        case measure => simp [intOf]; omega
      · obtain rfl : k = f.h64.l.length := by omega
        go_wp2_with fail
        go_meet
        case rel => exact S6.out.cast rfl (by rw [List.take_length, HY.out]; exact f.pre_succ pre 9 (by omega) _ rfl)
  case rest =>
  have T10 := Lib.hid hcut
  clear hcut S3 HY HYl hYb hbx Y
  obtain ⟨Y, hY⟩ : ∃ Y, Y = f.pre pre 10 := ⟨_, rfl⟩
  have hYl : Y.length = f.at_ 10 := by rw [hY]; exact f.pre_len pre _ HP.out
  have hYb : Y.length ≤ 110000 := by have := SM.out.at_le 10; omega
  have ST2 := Lib.hid (T10.out.cast rfl hY.symm)
  have HY := Lib.hid hY
  have HYl := Lib.hid hYl
  clear hY hYl T10
  obtain ⟨x0, c0⟩ := cell_in ST2.out.at_ (i := 10) (by rw [atK_size]; omega)
  have f0 := ST2.out.at_.frozen 10
  go_upto_region 50 with (go_at_call 40; refine (writer_Offset ST2.out.iw.wr).mono ?_; rintro e w2 ⟨rfl, n2, rfl⟩)
  obtain ⟨w3, hw3⟩ : ∃ w3, w3 = (wc.drewN n2).setCell ⟨a, 10, none⟩ (.int .u32 (Y.length : Int)) := ⟨_, rfl⟩
  have S3 := Lib.hid (show BlkSt f W0.heap.size wz w.heap.size a wb b mb (fileArr p0 p1 p2 p3 p4 p5 p6 p7 a0 a1 a2 a3 a4 a5 a6 a7 a8 a9 a10 a11 f) (atK f 11) (Y) w3 from by rw [hw3]; exact ((ST2.out.drewN _).store AP.out 10 _).cast (atK_set f 10 _ (by rw [HYl.out])) rfl)
  rw [← hw3]
  clear hw3 c0 f0 ST2
  have hbx := S3.out.box.cell 19
  go_upto_block 16 with fail
  go_cut [] from 6 to 195 (fun wc => BlkSt f W0.heap.size wz w.heap.size a wb b mb (fileArr p0 p1 p2 p3 p4 p5 p6 p7 a0 a1 a2 a3 a4 a5 a6 a7 a8 a9 a10 a11 f) (atK f 11) (f.pre pre 11) wc)
  case first =>
   as_aux_lemma =>
    go_wp2_with fail
    go_loopw [24, 152] (fun _ i wr => ∃ k : Nat, k ≤ f.hs.l.length ∧ i = .int .i64 k ∧ BlkSt f W0.heap.size wz w.heap.size a wb b mb (fileArr p0 p1 p2 p3 p4 p5 p6 p7 a0 a1 a2 a3 a4 a5 a6 a7 a8 a9 a10 a11 f) (atK f 11) (Y ++ (f.hs.l.take k).flatMap id) wr) (fun _ i _ => f.hs.l.length - (intOf i).toNat)
    case atStart => exact ⟨0, by omega, rfl, S3.out.cast rfl (by simp)⟩
    case round =>
      obtain ⟨k, hk, rfl, hst⟩ := hrel
      have S6 := Lib.hid hst
      have hn60 : f.hs.l.length ≤ 60 := by have := SM.out.hs; have := SM.out.hashed_le; omega
      clear hst hbx S3
      by_cases hlt : k < f.hs.l.length
      · obtain ⟨bb, oo, hA, hc⟩ := SlR.at_ (HI.out.hs.here (S6.out.low H0.out)) k hlt
        obtain rfl : a10 = some ⟨bb, oo, none⟩ := HA10.out.symm.trans hA
        have HK := Lib.hid (HI.out.hsk _ (List.getElem_mem hlt))
        have hzb : ((f.hs.l.take k).flatMap id).length ≤ 21 * 60 := Nat.le_trans (flatMap_le (n := 21) _ (fun x hx => by have := SM.out.hsf x (List.mem_of_mem_take hx); simp only [id]; omega)) (Nat.mul_le_mul_left _ (by rw [List.length_take]; omega))
        have HT := Lib.hid (take_flatMap_succ f.hs.l id k hlt)
        skip
        obtain ⟨z0, z1, z2, z3, z4, z5, z6, z7, z8, z9, z10, z11, z12, z13, z14, z15, he⟩ := list16 (SM.out.hsf _ (List.getElem_mem hlt))
        have q0 := hc 0 (.int .u8 z0) (by simp [hashCells, he])
        have q1 := hc 1 (.int .u8 z1) (by simp [hashCells, he])
        have q2 := hc 2 (.int .u8 z2) (by simp [hashCells, he])
        have q3 := hc 3 (.int .u8 z3) (by simp [hashCells, he])
        have q4 := hc 4 (.int .u8 z4) (by simp [hashCells, he])
        have q5 := hc 5 (.int .u8 z5) (by simp [hashCells, he])
        have q6 := hc 6 (.int .u8 z6) (by simp [hashCells, he])
        have q7 := hc 7 (.int .u8 z7) (by simp [hashCells, he])
        have q8 := hc 8 (.int .u8 z8) (by simp [hashCells, he])
        have q9 := hc 9 (.int .u8 z9) (by simp [hashCells, he])
        have q10 := hc 10 (.int .u8 z10) (by simp [hashCells, he])
        have q11 := hc 11 (.int .u8 z11) (by simp [hashCells, he])
        have q12 := hc 12 (.int .u8 z12) (by simp [hashCells, he])
        have q13 := hc 13 (.int .u8 z13) (by simp [hashCells, he])
        have q14 := hc 14 (.int .u8 z14) (by simp [hashCells, he])
        have q15 := hc 15 (.int .u8 z15) (by simp [hashCells, he])
        have HE8 := Lib.hid he
        clear he
        rw [Nat.add_zero] at q0
        clear hc
        generalize f.hs.l[k] = x at *
        obtain ⟨Z, hZ⟩ : ∃ Z, Z = Y ++ (f.hs.l.take k).flatMap id := ⟨_, rfl⟩
        have hzl : Z.length ≤ 200000 := by rw [hZ, List.length_append]; omega
        rw [← hZ] at S6
        have HZ := Lib.hid hZ
        clear hZ hzb
        go_wp2_with fail
        have S7 := Lib.hid (S6.out.alloc (.cells #[.int .u8 z0, .int .u8 z1, .int .u8 z2, .int .u8 z3, .int .u8 z4, .int .u8 z5, .int .u8 z6, .int .u8 z7, .int .u8 z8, .int .u8 z9, .int .u8 z10, .int .u8 z11, .int .u8 z12, .int .u8 z13, .int .u8 z14, .int .u8 z15] 116))
        have PB := Lib.hid (Blk.new wr 116 #[.int .u8 z0, .int .u8 z1, .int .u8 z2, .int .u8 z3, .int .u8 z4, .int .u8 z5, .int .u8 z6, .int .u8 z7, .int .u8 z8, .int .u8 z9, .int .u8 z10, .int .u8 z11, .int .u8 z12, .int .u8 z13, .int .u8 z14, .int .u8 z15])
        have hz6 := S6.out.own
        refine (writer_Bytes W0.heap.size wb b mb Z _ S7.out.iw.wr S7.out.iw.zs ⟨wr.heap.size, 0, none⟩ 16 16 [z0, z1, z2, z3, z4, z5, z6, z7, z8, z9, z10, z11, z12, z13, z14, z15] rfl (by show wr.heap.size ≠ b; omega) (fun j u hu => by rw [Lib.addr_add, Nat.zero_add, PB.out.cell]; simpa [bcs] using hu) (by omega)).mono ?_
        rintro e w9 k9
        have S9 := Lib.hid ((S7.out.step AP.out (WroteM.of_wrote S7.out.iw k9)).cast rfl (show _ = Z ++ x from by rw [HE8.out]))
        clear S7 PB hz6
        obtain ⟨rfl, _⟩ := k9
        clear q0 q1 q2 q3 q4 q5 q6 q7 q8 q9 q10 q11 q12 q13 q14 q15 S6
        have SE := Lib.hid (S9.out.cast rfl (show _ = Y ++ (f.hs.l.take (k + 1)).flatMap id from by rw [HT.out, HZ.out, List.append_assoc]; rfl))
        clear S9
        go_wp2_with fail
        go_roundw
        case rel => exact ⟨k + 1, by omega, by go_num, SE.out⟩
        case measure => simp [intOf]; omega
      · obtain rfl : k = f.hs.l.length := by omega
        go_wp2_with fail
        go_meet
        case rel => exact S6.out.cast rfl (by rw [List.take_length, HY.out]; exact f.pre_succ pre 10 (by omega) _ rfl)
  case rest =>
  have T11 := Lib.hid hcut
  clear hcut S3 HY HYl hYb hbx Y
  go_upto_region 56 with (first | (refine wpList_load_row rfl 33 (.tmp 2) rfl w.heap.size rfl 33 _ (0, 0) _ T11.out.box Tryz.underlying33 rfl Tryz.fileInfo ?_) | (go_at_call 47; refine (show Calls Tryz.prog 47 #[.agg (fileArr p0 p1 p2 p3 p4 p5 p6 p7 a0 a1 a2 a3 a4 a5 a6 a7 a8 a9 a10 a11 f), .pointer (some ⟨wb, 0, none⟩), .pointer (some ⟨a, 0, none⟩)] wc (Indexed f W0.heap.size wc a wb b mb (atK f 14) (f.pre pre 14)) from by have h := indices_any f W0 wc pre a wb b mb HI.out SM.out HP.out (T11.out.low H0.out) T11.out.iw T11.out.at_ AP.out.pa AP.out.pB; rw [HE.out] at h; exact h).mono ?_; rintro e wi14 k11; have T14 := Lib.hid (T11.out.told AP.out k11); obtain ⟨rfl, _⟩ := k11))
  clear T11
  obtain ⟨wc, hwc⟩ : ∃ wc, wc = wi14 := ⟨_, rfl⟩
  rw [← hwc] at T14 ⊢
  clear hwc
  go_upto_region 57 with (first | (refine wpList_load_row rfl 33 (.tmp 2) rfl w.heap.size rfl 33 _ (0, 0) _ T14.out.box Tryz.underlying33 rfl Tryz.fileInfo ?_) | (go_at_call 48; refine (show Calls Tryz.prog 48 #[.agg (fileArr p0 p1 p2 p3 p4 p5 p6 p7 a0 a1 a2 a3 a4 a5 a6 a7 a8 a9 a10 a11 f), .pointer (some ⟨wb, 0, none⟩), .pointer (some ⟨a, 0, none⟩)] wc (Indexed f W0.heap.size wc a wb b mb (atK f 17) (f.pre pre 17)) from by have h := contents_any f W0 wc pre a wb b mb HI.out SM.out HP.out (T14.out.low H0.out) T14.out.iw T14.out.at_ AP.out.pa AP.out.pB; rw [HE.out] at h; exact h).mono ?_; rintro e wi17 k14; have T17 := Lib.hid (T14.out.told AP.out k14); obtain ⟨rfl, _⟩ := k14))
  clear T14
  obtain ⟨wc, hwc⟩ : ∃ wc, wc = wi17 := ⟨_, rfl⟩
  rw [← hwc] at T17 ⊢
  clear hwc
  obtain ⟨Y, hY⟩ : ∃ Y, Y = f.pre pre 17 := ⟨_, rfl⟩
  have hYl : Y.length = f.at_ 17 := by rw [hY]; exact f.pre_len pre _ HP.out
  have hYb : Y.length ≤ 110000 := by have := SM.out.at_le 17; omega
  have ST2 := Lib.hid (T17.out.cast rfl hY.symm)
  have HY := Lib.hid hY
  have HYl := Lib.hid hYl
  clear hY hYl T17
  obtain ⟨x0, c0⟩ := cell_in ST2.out.at_ (i := 17) (by rw [atK_size]; omega)
  have f0 := ST2.out.at_.frozen 17
  go_upto_region 58 with (go_at_call 40; refine (writer_Offset ST2.out.iw.wr).mono ?_; rintro e w2 ⟨rfl, n2, rfl⟩)
  obtain ⟨w3, hw3⟩ : ∃ w3, w3 = (wc.drewN n2).setCell ⟨a, 17, none⟩ (.int .u32 (Y.length : Int)) := ⟨_, rfl⟩
  have S3 := Lib.hid (show BlkSt f W0.heap.size wz w.heap.size a wb b mb (fileArr p0 p1 p2 p3 p4 p5 p6 p7 a0 a1 a2 a3 a4 a5 a6 a7 a8 a9 a10 a11 f) (atK f 18) (Y) w3 from by rw [hw3]; exact ((ST2.out.drewN _).store AP.out 17 _).cast (atK_set f 17 _ (by rw [HYl.out])) rfl)
  rw [← hw3]
  clear hw3 c0 f0 ST2
  have hbx := S3.out.box.cell 20
  go_upto_block 18 with fail
  go_cut [] from 6 to 195 (fun wc => BlkSt f W0.heap.size wz w.heap.size a wb b mb (fileArr p0 p1 p2 p3 p4 p5 p6 p7 a0 a1 a2 a3 a4 a5 a6 a7 a8 a9 a10 a11 f) (atK f 18) (f.pre pre 18) wc)
  case first =>
   as_aux_lemma =>
    go_wp2_with fail
    go_loopw [26, 27, 172] (fun _ _ i wr => ∃ k : Nat, k ≤ f.rn.l.length ∧ i = .int .i64 k ∧ BlkSt f W0.heap.size wz w.heap.size a wb b mb (fileArr p0 p1 p2 p3 p4 p5 p6 p7 a0 a1 a2 a3 a4 a5 a6 a7 a8 a9 a10 a11 f) (atK f 18) (Y ++ (f.rn.l.take k).flatMap f.nmB) wr) (fun _ _ i _ => f.rn.l.length - (intOf i).toNat)
    case atStart => exact ⟨0, by omega, rfl, S3.out.cast rfl (by simp)⟩
    case round =>
      obtain ⟨k, hk, rfl, hst⟩ := hrel
      have S6 := Lib.hid hst
      have hn60 : f.rn.l.length ≤ 60 := by have := SM.out.rn; omega
      clear hst hbx S3
      by_cases hlt : k < f.rn.l.length
      · obtain ⟨bb, oo, hA, hc⟩ := SlR.at_ (HI.out.rn.here (S6.out.low H0.out)) k hlt
        obtain rfl : a11 = some ⟨bb, oo, none⟩ := HA11.out.symm.trans hA
        have HK := Lib.hid (HI.out.rnk _ (List.getElem_mem hlt))
        have hzb : ((f.rn.l.take k).flatMap f.nmB).length ≤ 21 * 60 := Nat.le_trans (flatMap_le (n := 21) _ (fun x hx => by rw [FM.nmB_length]; omega)) (Nat.mul_le_mul_left _ (by rw [List.length_take]; omega))
        have HT := Lib.hid (take_flatMap_succ f.rn.l f.nmB k hlt)
        have ON := Lib.hid (FM.off_some SM.out _ (FM.rn_name f k hlt))
        have q0 := hc 0 _ rfl
        have q1 := hc 1 _ rfl
        have q2 := hc 2 _ rfl
        rw [Nat.add_zero] at q0
        clear hc
        generalize f.rn.l[k] = x at *
        obtain ⟨Z, hZ⟩ : ∃ Z, Z = Y ++ (f.rn.l.take k).flatMap f.nmB := ⟨_, rfl⟩
        have hzl : Z.length ≤ 200000 := by rw [hZ, List.length_append]; omega
        rw [← hZ] at S6
        have HZ := Lib.hid hZ
        clear hZ hzb
        go_wp2_with (refine Go.Great.wpList_readTo rfl (some 176) (by rfl) (.agg zero16) (by as_aux_lemma => kernel_rfl) ?_)
        have hz6 := S6.out.own
        have hzz := S6.out.wf.size
        have hBz := H0.out.size
        have S7 := Lib.hid ((S6.out.alloc (.cells #[.int .u32 x.pkg, .int .u32 x.sym, .string x.name] 60)).alloc (.cells zero16 120))
        have X7 := Lib.hid ((Blk.new wr 60 #[.int .u32 x.pkg, .int .u32 x.sym, .string x.name]).alloc (.cells zero16 120))
        have N7 := Lib.hid (Blk.new1 wr (.cells #[.int .u32 x.pkg, .int .u32 x.sym, .string x.name] 60) 120 zero16)
        refine (ref_any x.pkg x.sym _).mono ?_
        rintro e wa ⟨rfl, hba⟩
        have S8 := Lib.hid (S7.out.here hba)
        have X8 := Lib.hid (X7.out.here hba)
        have N8 := Lib.hid (N7.out.here hba)
        clear hba S7 X7 N7
        go_wp2_with fail
        refine (refName_SetSym (wr.heap.size + 1) _ _ _ N8.out rfl x.pkg x.sym HK.out.1.1 HK.out.1.2 HK.out.2.1.1 HK.out.2.1.2).mono ?_
        rintro e wb2 ⟨rfl, N9, f9⟩
        have SA := Lib.hid (S8.out.fresh f9 N8.out (by decide) (by simp; omega) (by omega) hBz)
        have XA := Lib.hid (X8.out.fr f9 (by simp))
        have NA := Lib.hid N9
        have xcA := XA.out.cell 2
        clear N9 f9 S8 X8 N8
        go_wp2_with fail
        refine (refName_SetName SA.out.iw (wr.heap.size + 1) _ _ NA.out (by decide) (by omega) (by omega) x.name (f.off x.name) ON.out.1 ON.out.2.1 ON.out.2.2 (by simp)).mono ?_
        rintro e wd ⟨rfl, NB, fB⟩
        have SB := Lib.hid (SA.out.fresh fB NA.out (by decide) (by simp; omega) (by omega) hBz)
        rw [refName_cells] at NB
        have NC := Lib.hid NB
        clear NB fB SA XA NA xcA
        go_wp2_with fail
        refine (refName_Write SB.out.iw (wr.heap.size + 1) _ _ NC.out rfl (by omega) (by omega)).mono ?_
        rintro e w9 k9
        have S9 := Lib.hid (SB.out.step AP.out k9)
        clear SB NC hz6 hzz hBz
        obtain ⟨rfl, _⟩ := k9
        clear q0 q1 q2 S6
        have SE := Lib.hid (S9.out.cast rfl (show _ = Y ++ (f.rn.l.take (k + 1)).flatMap f.nmB from by rw [HT.out, HZ.out, List.append_assoc]; rfl))
        clear S9
        go_wp2_with fail
        go_roundw
        case rel => exact ⟨k + 1, by omega, by go_num, SE.out⟩
        case measure => simp [intOf]; omega
      · obtain rfl : k = f.rn.l.length := by omega
        go_wp2_with fail
        go_meet
        case rel => exact S6.out.cast rfl (by rw [List.take_length, HY.out]; exact f.pre_succ pre 17 (by omega) _ rfl)
  case rest =>
  have T18 := Lib.hid hcut
  clear hcut S3 HY HYl hYb hbx Y
  obtain ⟨Y, hY⟩ : ∃ Y, Y = f.pre pre 18 := ⟨_, rfl⟩
  have hYl : Y.length = f.at_ 18 := by rw [hY]; exact f.pre_len pre _ HP.out
  have hYb : Y.length ≤ 110000 := by have := SM.out.at_le 18; omega
  have ST2 := Lib.hid (T18.out.cast rfl hY.symm)
  have HY := Lib.hid hY
  have HYl := Lib.hid hYl
  clear hY hYl T18
  obtain ⟨x0, c0⟩ := cell_in ST2.out.at_ (i := 18) (by rw [atK_size]; omega)
  have f0 := ST2.out.at_.frozen 18
  go_upto_region 67 with (go_at_call 40; refine (writer_Offset ST2.out.iw.wr).mono ?_; rintro e w2 ⟨rfl, n2, rfl⟩)
  obtain ⟨w3, hw3⟩ : ∃ w3, w3 = (wc.drewN n2).setCell ⟨a, 18, none⟩ (.int .u32 (Y.length : Int)) := ⟨_, rfl⟩
  have S3 := Lib.hid (show BlkSt f W0.heap.size wz w.heap.size a wb b mb (fileArr p0 p1 p2 p3 p4 p5 p6 p7 a0 a1 a2 a3 a4 a5 a6 a7 a8 a9 a10 a11 f) (atK f 19) (Y) w3 from by rw [hw3]; exact ((ST2.out.drewN _).store AP.out 18 _).cast (atK_set f 18 _ (by rw [HYl.out])) rfl)
  rw [← hw3]
  clear hw3 c0 f0 ST2
  have RB := Lib.hid (S3.out.wf.blk RZ.out (by have := HLT.out; have := HAW.out; simp; omega) (by decide))
  obtain ⟨O, hO⟩ : ∃ O, O = atK f 19 := ⟨_, rfl⟩
  have S8 := Lib.hid (show BlkSt f W0.heap.size wz w.heap.size a wb b mb (fileArr p0 p1 p2 p3 p4 p5 p6 p7 a0 a1 a2 a3 a4 a5 a6 a7 a8 a9 a10 a11 f) (O) (Y) w3 from by rw [hO]; exact S3.out)
  have HOO := Lib.hid hO
  have HI19 := Lib.hid (show (Tryz.prog.info? 65).map (·.size) = some O.size from by rw [hO, atK_size]; exact Tryz.info19)
  have HOLD := Lib.hid (show (#[.int .u32 0, .int .u32 0, .int .u32 0, .int .u32 0, .int .u32 0, .int .u32 0, .int .u32 0, .int .u32 0, .int .u32 0, .int .u32 0, .int .u32 0, .int .u32 0, .int .u32 0, .int .u32 0, .int .u32 0, .int .u32 0, .int .u32 0, .int .u32 0, .int .u32 0] : Array Value).size = O.size from by rw [hO, atK_size]; rfl)
  have HONE := Lib.hid (show O.all (·.oneCell') = true from by rw [hO]; exact atK_one f 19)
  clear hO S3
  refine wp_region_list ?_
  refine wpList_load_row rfl 65 (.tmp 5) rfl a rfl 65 _ (0, 0) _ S8.out.at_ Tryz.underlying65 rfl HI19.out ?_
  refine wpList_store_row rfl 65 (.tmp 4) (.tmp 195) rfl (w.heap.size + 1) O (by rfl) (by rfl) 65 #[.int .u32 0, .int .u32 0, .int .u32 0, .int .u32 0, .int .u32 0, .int .u32 0, .int .u32 0, .int .u32 0, .int .u32 0, .int .u32 0, .int .u32 0, .int .u32 0, .int .u32 0, .int .u32 0, .int .u32 0, .int .u32 0, .int .u32 0, .int .u32 0, .int .u32 0] RB.out HI19.out HOLD.out HONE.out ?_
  refine wpList_nil ?_
  obtain ⟨w4, hw4⟩ : ∃ w4, w4 = w3.setRow (w.heap.size + 1) O := ⟨_, rfl⟩
  rw [← hw4]
  have HW4 := Lib.hid hw4
  clear hw4
  have RE := Lib.hid (show Blk w4 (w.heap.size + 1) 65 O from by rw [HW4.out]; exact RB.out.setRow O)
  have FE := Lib.hid (show Fr [w.heap.size + 1] w3 w4 from by rw [HW4.out]; exact (Fr.refl _ _).setRow (by simp) _)
  have hlt4 := HLT.out
  have n1 : w.heap.size + 1 ≠ wb := by omega
  have n2' : w.heap.size + 1 ≠ b := by omega
  have IE := Lib.hid (show IsW W0.heap.size wb b mb f.names.length Y f.tab.2 w4 from S8.out.iw.fr RB.out (by decide) n1 n2' FE.out)
  have F1 := Lib.hid (show WF 5 [a, wb, b, mb] W0.heap.size w w3 from (WF.of_below FZ.out hlt4.2.2.2).trans S8.out.wf)
  have F2 := Lib.hid (F1.out.shrink (by have := HAW.out; omega))
  have WE := Lib.hid (F2.out.andFr FE.out (by simp) hlt4.2.2.2)
  clear n1 n2' F1 F2 FE S8 hlt4 HW4 RB
  go_frame
  rename_i hK
  refine hK _ _ (wp_ret ?_)
  exact bodyPost_ret (v := .agg O) (results_cell_row rfl _ _ (w.heap.size + 1) 65 O (0, 0) _ rfl RE.out Tryz.underlying65 rfl HI19.out) rfl ⟨by rw [HOO.out], by rw [← HY.out]; exact IE.out, WE.out⟩
end Go.Proofs.YtajeinkkfggcbaaGreatDoor
