/- The strings of a file, written. -/
import Derived.Deep.CutRange
import Derived.Laws.Rows
import Derived.Deep.CutBlock
import Derived.Test.YtajeinkkfggcbaaGreatDoorMapS
import Derived.Test.YtajeinkkfggcbaaGreatDoorFin
namespace Go.Proofs.YtajeinkkfggcbaaGreatDoor
open Go.RowKit

abbrev fileArr (p0 p1 p2 p3 p4 p5 p6 p7 : Int) (a0 a1 a2 a3 a4 a5 a6 a7 a8 a9 a10 a11 : Option Addr) (f : FM) : Array Value := #[.int .u8 p0, .int .u8 p1, .int .u8 p2, .int .u8 p3, .int .u8 p4, .int .u8 p5, .int .u8 p6, .int .u8 p7, .int .u32 f.flags, .slice a0 f.im.l.length f.im.c, .slice a1 f.pk.l.length f.pk.c, .slice a2 f.fi.l.length f.fi.c, .slice a3 f.own.l.length f.own.c, .slice a4 f.short.l.length f.short.c, .slice a5 f.hashed.l.length f.hashed.c, .slice a6 f.other.l.length f.other.c, .slice a7 f.refs.l.length f.refs.c, .slice a8 f.rf.l.length f.rf.c, .slice a9 f.h64.l.length f.h64.c, .slice a10 f.hs.l.length f.hs.c, .slice a11 f.rn.l.length f.rn.c]
/-- Where the lists of a file lie. -/
structure FM.At (f : FM) (a0 a1 a2 a3 a4 a5 a6 a7 a8 a9 a10 a11 : Option Addr) : Prop where
  im : f.im.A = a0
  pk : f.pk.A = a1
  fi : f.fi.A = a2
  own : f.own.A = a3
  short : f.short.A = a4
  hashed : f.hashed.A = a5
  other : f.other.A = a6
  refs : f.refs.A = a7
  rf : f.rf.A = a8
  h64 : f.h64.A = a9
  hs : f.hs.A = a10
  rn : f.rn.A = a11
theorem FM.val_eq {f : FM} (h : f.fp.length = 8) : ∃ (p0 p1 p2 p3 p4 p5 p6 p7 : Int) (a0 a1 a2 a3 a4 a5 a6 a7 a8 a9 a10 a11 : Option Addr), f.fp = [p0, p1, p2, p3, p4, p5, p6, p7] ∧ FM.At f a0 a1 a2 a3 a4 a5 a6 a7 a8 a9 a10 a11 ∧ f.val = .agg (fileArr p0 p1 p2 p3 p4 p5 p6 p7 a0 a1 a2 a3 a4 a5 a6 a7 a8 a9 a10 a11 f) := by
  obtain ⟨p0, p1, p2, p3, p4, p5, p6, p7, e⟩ := list8 h
  exact ⟨p0, p1, p2, p3, p4, p5, p6, p7, f.im.A, f.pk.A, f.fi.A, f.own.A, f.short.A, f.hashed.A, f.other.A, f.refs.A, f.rf.A, f.h64.A, f.hs.A, f.rn.A, e, ⟨rfl, rfl, rfl, rfl, rfl, rfl, rfl, rfl, rfl, rfl, rfl, rfl⟩, by simp [FM.val, FM.cells, e]⟩

abbrev listsArr (a3 a4 a5 a6 : Option Addr) (f : FM) : Array Value := #[.slice a3 f.own.l.length f.own.c, .slice a4 f.short.l.length f.short.c, .slice a5 f.hashed.l.length f.hashed.c, .slice a6 f.other.l.length f.other.c]
theorem lists_any (f : FM) (h8 : f.fp.length = 8) (w : World) : Calls Tryz.prog 39 #[f.val] w (RetV (.agg (listsArr f.own.A f.short.A f.hashed.A f.other.A f)) w) := by
  obtain ⟨p0, p1, p2, p3, p4, p5, p6, p7, a0, a1, a2, a3, a4, a5, a6, a7, a8, a9, a10, a11, _, ha, e⟩ := FM.val_eq h8
  rw [e, ha.own, ha.short, ha.hashed, ha.other]
  clear e h8 ha
  go_enter Tryz.func39, Tryz.ntmps39
  go_wp2_with fail
  exact bodyPost_ret (v := .agg (listsArr a3 a4 a5 a6 f)) (by simp [results, Tryz.results39, go_sem]) rfl ⟨rfl, by (repeat' (first | (with_reducible exact Below.refl _ _) | (with_reducible assumption) | (with_reducible refine below_drewN ?_ _) | (with_reducible refine Below.alloc ?_ ?_ _) | (with_reducible refine Below.drew ?_) | (with_reducible refine Below.setCell ?_ ?_ _) | go_size))⟩
/-- One of the four lists, by its number. -/
theorem listsArr_at (f : FM) {a3 a4 a5 a6 : Option Addr} (h : f.own.A = a3 ∧ f.short.A = a4 ∧ f.hashed.A = a5 ∧ f.other.A = a6) (k : Nat) (hk : k < 4) : ∃ (L : Sl Df) (LA : Option Addr), f.lists[k]? = some L ∧ LA = L.A ∧ ∀ W : World, (Instr.index 78 (.agg (listsArr a3 a4 a5 a6 f)) (.int .i64 (k : Int))).run Tryz.prog W = .ok (.slice LA L.l.length L.c) W := by
  obtain ⟨rfl, rfl, rfl, rfl⟩ := h
  match k, hk with
  | 0, _ => exact ⟨f.own, _, rfl, rfl, fun W => by kernel_rfl⟩
  | 1, _ => exact ⟨f.short, _, rfl, rfl, fun W => by kernel_rfl⟩
  | 2, _ => exact ⟨f.hashed, _, rfl, rfl, fun W => by kernel_rfl⟩
  | 3, _ => exact ⟨f.other, _, rfl, rfl, fun W => by kernel_rfl⟩
theorem take_lists (f : FM) (k : Nat) (L : Sl Df) (h : f.lists[k]? = some L) : ((f.lists.take k).map Sl.l).flatten ++ L.l = ((f.lists.take (k + 1)).map Sl.l).flatten := by
  obtain ⟨hk, rfl⟩ := List.getElem?_eq_some_iff.1 h
  rw [List.take_succ_eq_append_getElem hk, List.map_append, List.flatten_append]
  simp only [List.map_cons, List.map_nil, List.flatten_cons, List.flatten_nil, List.append_nil]
theorem FM.Small.flat_le {f : FM} (S : f.Small) (k : Nat) : ((f.lists.take k).map Sl.l).flatten.length ≤ 60 := by
  have h := S.all
  rw [FM.all_flat] at h
  have h2 : f.lists.map Sl.l = (f.lists.take k).map Sl.l ++ (f.lists.drop k).map Sl.l := by rw [← List.map_append, List.take_append_drop]
  rw [h2, List.flatten_append, List.length_append] at h
  omega
theorem FM.Small.len_le_of {f : FM} (S : f.Small) (L : Sl Df) (h : L ∈ f.lists) : L.l.length ≤ 60 := by
  simp only [FM.lists, List.mem_cons, List.not_mem_nil, or_false] at h
  rcases h with rfl | rfl | rfl | rfl
  · exact S.own_le
  · exact S.short_le
  · exact S.hashed_le
  · exact S.other_le
theorem df_name {f : FM} (L : Sl Df) (h : L ∈ f.lists) (m : Nat) (hm : m < L.l.length) : L.l[m].name ∈ f.names := by
  have h1 : L.l[m] ∈ f.all := FM.data_mem _ L h (List.getElem_mem hm)
  have h2 : L.l[m].name ∈ f.all.map Df.name := List.mem_map_of_mem h1
  simp only [FM.names, List.mem_cons, List.mem_append]
  exact .inr (.inr (.inr (.inr (.inl h2))))
theorem FM.im_name (f : FM) (k : Nat) (h : k < f.im.l.length) : f.im.l[k].pkg ∈ f.names := by
  have h2 : f.im.l[k].pkg ∈ f.im.l.map Im.pkg := List.mem_map_of_mem (List.getElem_mem h)
  simp only [FM.names, List.mem_cons, List.mem_append]
  exact .inr (.inl h2)
theorem FM.pk_name (f : FM) (k : Nat) (h : k < f.pk.l.length) : f.pk.l[k] ∈ f.names := by
  simp only [FM.names, List.mem_cons, List.mem_append]
  exact .inr (.inr (.inl (List.getElem_mem h)))
theorem FM.fi_name (f : FM) (k : Nat) (h : k < f.fi.l.length) : f.fi.l[k] ∈ f.names := by
  simp only [FM.names, List.mem_cons, List.mem_append]
  exact .inr (.inr (.inr (.inl (List.getElem_mem h))))
theorem FM.refs_name (f : FM) (k : Nat) (h : k < f.refs.l.length) : f.refs.l[k].name ∈ f.names := by
  have h2 : f.refs.l[k].name ∈ f.refs.l.map Rf.name := List.mem_map_of_mem (List.getElem_mem h)
  simp only [FM.names, List.mem_cons, List.mem_append]
  exact .inr (.inr (.inr (.inr (.inr (.inl h2)))))
theorem FM.rn_name (f : FM) (k : Nat) (h : k < f.rn.l.length) : f.rn.l[k].name ∈ f.names := by
  have h2 : f.rn.l[k].name ∈ f.rn.l.map Nm.name := List.mem_map_of_mem (List.getElem_mem h)
  simp only [FM.names, List.mem_cons, List.mem_append]
  exact .inr (.inr (.inr (.inr (.inr (.inr h2)))))

theorem Tryz.fileInfo : (Tryz.prog.info? 33).map (·.size) = some 21 := by kernel_rfl
/-- What has been written when the strings l have been added. -/
structure StrSt (f : FM) (B : Nat) (w : World) (hd : List Int) (g wb b mb : Nat) (cs : Array Value) (l : List ByteArray) (wr : World) : Prop where
  iw : IsW B wb b mb l.length (hd ++ (addAll 96 tab0 l).1) (addAll 96 tab0 l).2 wr
  box : Blk wr g 33 cs
  wf : WF 5 [wb, b, mb] B w wr
  len : (addAll 96 tab0 l).1.length ≤ 100 * l.length
section
variable {f : FM} {B : Nat} {w wr w' : World} {hd : List Int} {g wb b mb : Nat} {cs : Array Value} {l : List ByteArray}
theorem StrSt.low (h : StrSt f B w hd g wb b mb cs l wr) {W0 : World} (h0 : Below B W0 w) : Below B W0 wr := h0.trans ⟨h.wf.os, h.wf.tape, h.wf.output, h.wf.size, h.wf.low⟩
theorem StrSt.cast (h : StrSt f B w hd g wb b mb cs l wr) {l' : List ByteArray} (e : l = l') : StrSt f B w hd g wb b mb cs l' wr := e ▸ h
theorem StrSt.here (h : StrSt f B w hd g wb b mb cs l wr) (hb : Below wr.heap.size wr w') : StrSt f B w hd g wb b mb cs l w' := ⟨h.iw.here hb, h.box.here hb, h.wf.trans (WF.of_below hb h.iw.zs), h.len⟩
theorem StrSt.alloc (h : StrSt f B w hd g wb b mb cs l wr) (o : Obj) : StrSt f B w hd g wb b mb cs l (wr.alloc o) := ⟨h.iw.here (later_alloc _ _), h.box.alloc _, h.wf.alloc h.iw.zs _, h.len⟩
theorem StrSt.step (h : StrSt f B w hd g wb b mb cs l wr) {s : ByteArray} {e : Ending} (hs : s.size ≤ 100) (hg : g ∉ [wb, b, mb]) (k : WroteM B wb b mb (l.length + 1) (hd ++ (addS 96 (addAll 96 tab0 l) s).1) (addS 96 (addAll 96 tab0 l) s).2 wr e w') : StrSt f B w hd g wb b mb cs (l ++ [s]) w' := by
  refine ⟨?_, k.2.2.blk h.box hg (by decide), h.wf.trans k.2.2, ?_⟩
  · have := k.2.1
    rw [← addAll_snoc] at this
    simpa using this
  · have h1 := addS_len (n := 96) (t := addAll 96 tab0 l) hs
    have h2 := h.len
    rw [addAll_snoc, List.length_append, List.length_singleton]
    omega
theorem strSt_arg (h : StrSt f B w hd g wb b mb cs l wr) (s : ByteArray) (hs : s.size ≤ 100) (hl : l.length ≤ 900) (hh : hd.length = 96) :
    Calls Tryz.prog 38 #[.pointer (some ⟨wb, 0, none⟩), .string s] wr (WroteM B wb b mb (l.length + 1) (hd ++ (addS 96 (addAll 96 tab0 l) s).1) (addS 96 (addAll 96 tab0 l) s).2 wr) :=
  addString_any B wb b mb l.length hd (addAll 96 tab0 l) s wr h.iw hh (by have := h.len; omega) (by omega)
end

set_option maxRecDepth 100000 in
set_option maxHeartbeats 2000000 in
theorem strings_any (f : FM) (W0 w : World) (hd : List Int) (wb b mb : Nat) (hI : f.In W0) (S : f.Small) (hh : hd.length = 96) (h0 : Below W0.heap.size W0 w) (h : IsW W0.heap.size wb b mb 0 hd (fun _ => none) w) :
    Calls Tryz.prog 19 #[f.val, .pointer (some ⟨wb, 0, none⟩)] w (WroteM W0.heap.size wb b mb f.names.length (hd ++ f.tab.1) f.tab.2 w) := by
  obtain ⟨p0, p1, p2, p3, p4, p5, p6, p7, a0, a1, a2, a3, a4, a5, a6, a7, a8, a9, a10, a11, _, hA, e⟩ := FM.val_eq S.fp
  have HE := Lib.hid e
  rw [e]
  clear e
  have bx := Blk.new w 33 (fileArr p0 p1 p2 p3 p4 p5 p6 p7 a0 a1 a2 a3 a4 a5 a6 a7 a8 a9 a10 a11 f)
  have hz := h.zs
  have hg : w.heap.size ∉ [wb, b, mb] := by
    have h1 := h.wr.wlt
    have h2 := h.wr.buf.lt
    have h3 := h.map.lt
    simp
    omega
  have st0 : StrSt f W0.heap.size w hd w.heap.size wb b mb (fileArr p0 p1 p2 p3 p4 p5 p6 p7 a0 a1 a2 a3 a4 a5 a6 a7 a8 a9 a10 a11 f) [] (w.alloc (.cells (fileArr p0 p1 p2 p3 p4 p5 p6 p7 a0 a1 a2 a3 a4 a5 a6 a7 a8 a9 a10 a11 f) 33)) :=
    ⟨by have := h.here (later_alloc w (.cells (fileArr p0 p1 p2 p3 p4 p5 p6 p7 a0 a1 a2 a3 a4 a5 a6 a7 a8 a9 a10 a11 f) 33)); simpa [addAll, tab0] using this, bx, (WF.refl _ _ _ _).alloc hz _, by simp [addAll, tab0]⟩
  have ST := Lib.hid st0
  have HH := Lib.hid hh
  have HG := Lib.hid hg
  have HI := Lib.hid hI
  have SM := Lib.hid S
  have H0 := Lib.hid h0
  have HA0 := Lib.hid hA.im
  have HA1 := Lib.hid hA.pk
  have HA2 := Lib.hid hA.fi
  have HA3 := Lib.hid hA.own
  have HA4 := Lib.hid hA.short
  have HA5 := Lib.hid hA.hashed
  have HA6 := Lib.hid hA.other
  have HA7 := Lib.hid hA.refs
  have HA8 := Lib.hid hA.rf
  have HA9 := Lib.hid hA.h64
  have HA10 := Lib.hid hA.hs
  have HA11 := Lib.hid hA.rn
  have HL4 := Lib.hid (show f.own.A = a3 ∧ f.short.A = a4 ∧ f.hashed.A = a5 ∧ f.other.A = a6 from ⟨hA.own, hA.short, hA.hashed, hA.other⟩)
  have HL := Lib.hid (show listsArr f.own.A f.short.A f.hashed.A f.other.A f = listsArr a3 a4 a5 a6 f from by rw [hA.own, hA.short, hA.hashed, hA.other])
  clear st0 hh hg hI S h0 h bx hA
  go_enter Tryz.func19, Tryz.ntmps19
  go_wp2_with fail
  refine (strSt_arg ST.out ⟨#[]⟩ (by simp [ByteArray.size]) (by simp) HH.out).mono ?_
  rintro e w1 k1
  have s1 := ST.out.step (by simp [ByteArray.size]) HG.out k1
  obtain ⟨rfl, _⟩ := k1
  simp only [List.nil_append] at s1
  have S0 := Lib.hid s1
  have hb0 := s1.box.cell 9
  clear s1 ST
  --LOOPS
  go_upto_block 0 with fail
  go_cut [] from 3 to 94 (fun wc => StrSt f W0.heap.size w hd w.heap.size wb b mb (fileArr p0 p1 p2 p3 p4 p5 p6 p7 a0 a1 a2 a3 a4 a5 a6 a7 a8 a9 a10 a11 f) ([(⟨#[]⟩ : ByteArray)] ++ f.im.l.map Im.pkg) wc)
  case first =>
   as_aux_lemma =>
    go_wp2_with fail
    go_loopw [5, 23] (fun _ i wr => ∃ k : Nat, k ≤ f.im.l.length ∧ i = .int .i64 k ∧ StrSt f W0.heap.size w hd w.heap.size wb b mb (fileArr p0 p1 p2 p3 p4 p5 p6 p7 a0 a1 a2 a3 a4 a5 a6 a7 a8 a9 a10 a11 f) ([(⟨#[]⟩ : ByteArray)] ++ (f.im.l.take k).map Im.pkg) wr) (fun _ i _ => f.im.l.length - (intOf i).toNat)
    case atStart => exact ⟨0, by omega, rfl, S0.out.cast (by simp)⟩
    case round =>
      obtain ⟨k, hk, rfl, hst⟩ := hrel
      have ST2 := Lib.hid hst
      clear hst S0 hb0
      by_cases hlt : k < f.im.l.length
      · obtain ⟨bb, oo, hA, hc⟩ := SlR.at_ (HI.out.im.here (ST2.out.low H0.out)) k hlt
        obtain rfl : a0 = some ⟨bb, oo, none⟩ := HA0.out.symm.trans hA
        have hsz := SM.out.names _ (FM.im_name f k hlt)
        have hpl : (([(⟨#[]⟩ : ByteArray)] ++ (f.im.l.take k).map Im.pkg)).length ≤ 900 := by
          have := SM.out.im; have := SM.out.pk; have := SM.out.fi; have := SM.out.all; have := SM.out.refs; have := SM.out.rn
          simp only [List.length_append, List.length_map, List.length_cons, List.length_nil, List.length_take]
          omega
        have HT := Lib.hid (show ([(⟨#[]⟩ : ByteArray)] ++ (f.im.l.take k).map Im.pkg) ++ [f.im.l[k].pkg] = ([(⟨#[]⟩ : ByteArray)] ++ (f.im.l.take (k + 1)).map Im.pkg) from by rw [List.take_succ_eq_append_getElem hlt, List.map_append, List.append_assoc]; rfl)
        have hn60 := SM.out.im
        obtain ⟨f0, f1, f2, f3, f4, f5, f6, f7, he⟩ := list8 (SM.out.imf _ (List.getElem_mem hlt))
        have q0 := hc 0 _ rfl
        have q1 := hc 1 (.int .u8 f0) (by simp [Im.cells, he])
        have q2 := hc 2 (.int .u8 f1) (by simp [Im.cells, he])
        have q3 := hc 3 (.int .u8 f2) (by simp [Im.cells, he])
        have q4 := hc 4 (.int .u8 f3) (by simp [Im.cells, he])
        have q5 := hc 5 (.int .u8 f4) (by simp [Im.cells, he])
        have q6 := hc 6 (.int .u8 f5) (by simp [Im.cells, he])
        have q7 := hc 7 (.int .u8 f6) (by simp [Im.cells, he])
        have q8 := hc 8 (.int .u8 f7) (by simp [Im.cells, he])
        clear he
        rw [Nat.add_zero] at q0
        have HS := Lib.hid hsz
        clear hc hsz
        generalize f.im.l[k] = x at *
        go_wp2_with fail
        refine (strSt_arg (ST2.out.alloc _) x.pkg HS.out hpl HH.out).mono ?_
        rintro e w2 k2
        have s2 := Lib.hid (((ST2.out.alloc _).step HS.out HG.out k2).cast HT.out)
        obtain ⟨rfl, _⟩ := k2
        clear q0 q1 q2 q3 q4 q5 q6 q7 q8
        go_wp2_with fail
        go_roundw
        case rel => exact ⟨k + 1, by omega, by go_num, s2.out⟩
        case measure => simp [intOf]; omega
      · obtain rfl : k = f.im.l.length := by omega
        go_wp2_with fail
        go_meet
        case rel => exact ST2.out.cast (by rw [List.take_length])
  case rest =>
  have S1 := Lib.hid hcut
  have hb1 := hcut.box.cell 10
  clear hcut S0 hb0
  go_upto_block 2 with fail
  go_cut [] from 3 to 94 (fun wc => StrSt f W0.heap.size w hd w.heap.size wb b mb (fileArr p0 p1 p2 p3 p4 p5 p6 p7 a0 a1 a2 a3 a4 a5 a6 a7 a8 a9 a10 a11 f) (([(⟨#[]⟩ : ByteArray)] ++ f.im.l.map Im.pkg) ++ f.pk.l) wc)
  case first =>
   as_aux_lemma =>
    go_wp2_with fail
    go_loopw [7, 35] (fun _ i wr => ∃ k : Nat, k ≤ f.pk.l.length ∧ i = .int .i64 k ∧ StrSt f W0.heap.size w hd w.heap.size wb b mb (fileArr p0 p1 p2 p3 p4 p5 p6 p7 a0 a1 a2 a3 a4 a5 a6 a7 a8 a9 a10 a11 f) (([(⟨#[]⟩ : ByteArray)] ++ f.im.l.map Im.pkg) ++ f.pk.l.take k) wr) (fun _ i _ => f.pk.l.length - (intOf i).toNat)
    case atStart => exact ⟨0, by omega, rfl, S1.out.cast (by simp)⟩
    case round =>
      obtain ⟨k, hk, rfl, hst⟩ := hrel
      have ST2 := Lib.hid hst
      clear hst S1 hb1
      by_cases hlt : k < f.pk.l.length
      · obtain ⟨bb, oo, hA, hc⟩ := SlR.at_ (HI.out.pk.here (ST2.out.low H0.out)) k hlt
        obtain rfl : a1 = some ⟨bb, oo, none⟩ := HA1.out.symm.trans hA
        have hsz := SM.out.names _ (FM.pk_name f k hlt)
        have hpl : ((([(⟨#[]⟩ : ByteArray)] ++ f.im.l.map Im.pkg) ++ f.pk.l.take k)).length ≤ 900 := by
          have := SM.out.im; have := SM.out.pk; have := SM.out.fi; have := SM.out.all; have := SM.out.refs; have := SM.out.rn
          simp only [List.length_append, List.length_map, List.length_cons, List.length_nil, List.length_take]
          omega
        have HT := Lib.hid (show (([(⟨#[]⟩ : ByteArray)] ++ f.im.l.map Im.pkg) ++ f.pk.l.take k) ++ [f.pk.l[k]] = (([(⟨#[]⟩ : ByteArray)] ++ f.im.l.map Im.pkg) ++ f.pk.l.take (k + 1)) from by rw [List.take_succ_eq_append_getElem hlt, List.append_assoc])
        have hn60 := SM.out.pk
        have q0 := hc 0 _ rfl
        rw [Nat.add_zero, Nat.mul_one] at q0
        have HS := Lib.hid hsz
        clear hc hsz
        generalize f.pk.l[k] = x at *
        go_wp2_with fail
        refine (strSt_arg ST2.out x HS.out hpl HH.out).mono ?_
        rintro e w2 k2
        have s2 := Lib.hid ((ST2.out.step HS.out HG.out k2).cast HT.out)
        obtain ⟨rfl, _⟩ := k2
        clear q0
        go_wp2_with fail
        go_roundw
        case rel => exact ⟨k + 1, by omega, by go_num, s2.out⟩
        case measure => simp [intOf]; omega
      · obtain rfl : k = f.pk.l.length := by omega
        go_wp2_with fail
        go_meet
        case rel => exact ST2.out.cast (by rw [List.take_length])
  case rest =>
  have S2 := Lib.hid hcut
  have hb2 := hcut.box.cell 11
  clear hcut S1 hb1
  go_upto_block 4 with fail
  go_cut [] from 3 to 94 (fun wc => StrSt f W0.heap.size w hd w.heap.size wb b mb (fileArr p0 p1 p2 p3 p4 p5 p6 p7 a0 a1 a2 a3 a4 a5 a6 a7 a8 a9 a10 a11 f) ((([(⟨#[]⟩ : ByteArray)] ++ f.im.l.map Im.pkg) ++ f.pk.l) ++ f.fi.l) wc)
  case first =>
   as_aux_lemma =>
    go_wp2_with fail
    go_loopw [9, 46] (fun _ i wr => ∃ k : Nat, k ≤ f.fi.l.length ∧ i = .int .i64 k ∧ StrSt f W0.heap.size w hd w.heap.size wb b mb (fileArr p0 p1 p2 p3 p4 p5 p6 p7 a0 a1 a2 a3 a4 a5 a6 a7 a8 a9 a10 a11 f) ((([(⟨#[]⟩ : ByteArray)] ++ f.im.l.map Im.pkg) ++ f.pk.l) ++ f.fi.l.take k) wr) (fun _ i _ => f.fi.l.length - (intOf i).toNat)
    case atStart => exact ⟨0, by omega, rfl, S2.out.cast (by simp)⟩
    case round =>
      obtain ⟨k, hk, rfl, hst⟩ := hrel
      have ST2 := Lib.hid hst
      clear hst S2 hb2
      by_cases hlt : k < f.fi.l.length
      · obtain ⟨bb, oo, hA, hc⟩ := SlR.at_ (HI.out.fi.here (ST2.out.low H0.out)) k hlt
        obtain rfl : a2 = some ⟨bb, oo, none⟩ := HA2.out.symm.trans hA
        have hsz := SM.out.names _ (FM.fi_name f k hlt)
        have hpl : (((([(⟨#[]⟩ : ByteArray)] ++ f.im.l.map Im.pkg) ++ f.pk.l) ++ f.fi.l.take k)).length ≤ 900 := by
          have := SM.out.im; have := SM.out.pk; have := SM.out.fi; have := SM.out.all; have := SM.out.refs; have := SM.out.rn
          simp only [List.length_append, List.length_map, List.length_cons, List.length_nil, List.length_take]
          omega
        have HT := Lib.hid (show ((([(⟨#[]⟩ : ByteArray)] ++ f.im.l.map Im.pkg) ++ f.pk.l) ++ f.fi.l.take k) ++ [f.fi.l[k]] = ((([(⟨#[]⟩ : ByteArray)] ++ f.im.l.map Im.pkg) ++ f.pk.l) ++ f.fi.l.take (k + 1)) from by rw [List.take_succ_eq_append_getElem hlt, List.append_assoc])
        have hn60 := SM.out.fi
        have q0 := hc 0 _ rfl
        rw [Nat.add_zero, Nat.mul_one] at q0
        have HS := Lib.hid hsz
        clear hc hsz
        generalize f.fi.l[k] = x at *
        go_wp2_with fail
        refine (strSt_arg ST2.out x HS.out hpl HH.out).mono ?_
        rintro e w2 k2
        have s2 := Lib.hid ((ST2.out.step HS.out HG.out k2).cast HT.out)
        obtain ⟨rfl, _⟩ := k2
        clear q0
        go_wp2_with fail
        go_roundw
        case rel => exact ⟨k + 1, by omega, by go_num, s2.out⟩
        case measure => simp [intOf]; omega
      · obtain rfl : k = f.fi.l.length := by omega
        go_wp2_with fail
        go_meet
        case rel => exact ST2.out.cast (by rw [List.take_length])
  case rest =>
  have S3 := Lib.hid hcut
  clear hcut S2 hb2
  go_upto_block 6 with (refine wpList_load_row rfl 33 (.tmp 2) rfl w.heap.size rfl 33 _ (0, 0) _ S3.out.box Tryz.underlying33 rfl Tryz.fileInfo ?_)
  refine (show Calls Tryz.prog 39 #[.agg (fileArr p0 p1 p2 p3 p4 p5 p6 p7 a0 a1 a2 a3 a4 a5 a6 a7 a8 a9 a10 a11 f)] wc (RetV (.agg (listsArr a3 a4 a5 a6 f)) wc) from by have h := lists_any f SM.out.fp wc; rw [HE.out, HL.out] at h; exact h).mono ?_
  rintro e wl ⟨rfl, hbl⟩
  have SL := Lib.hid (S3.out.here hbl)
  go_upto_block 6 with fail
  go_cut [] from 3 to 94 (fun wc => StrSt f W0.heap.size w hd w.heap.size wb b mb (fileArr p0 p1 p2 p3 p4 p5 p6 p7 a0 a1 a2 a3 a4 a5 a6 a7 a8 a9 a10 a11 f) (((([(⟨#[]⟩ : ByteArray)] ++ f.im.l.map Im.pkg) ++ f.pk.l) ++ f.fi.l) ++ f.all.map Df.name) wc)
  case first =>
   as_aux_lemma =>
    go_wp2_with fail
    go_loopw [11, 13, 56] (fun _ _ i wr => ∃ k : Nat, k ≤ 4 ∧ i = .int .i64 k ∧ StrSt f W0.heap.size w hd w.heap.size wb b mb (fileArr p0 p1 p2 p3 p4 p5 p6 p7 a0 a1 a2 a3 a4 a5 a6 a7 a8 a9 a10 a11 f) (((([(⟨#[]⟩ : ByteArray)] ++ f.im.l.map Im.pkg) ++ f.pk.l) ++ f.fi.l) ++ ((f.lists.take k).map Sl.l).flatten.map Df.name) wr) (fun _ _ i _ => 4 - (intOf i).toNat)
    case atStart => exact ⟨0, by omega, rfl, SL.out.cast (by simp)⟩
    case round =>
      obtain ⟨k, hk, rfl, hst⟩ := hrel
      obtain ⟨wo, rfl⟩ : ∃ wo : World, wo = wr := ⟨_, rfl⟩
      have ST2 := Lib.hid hst
      clear hst
      by_cases hlt : k < 4
      · have hidx := listsArr_at f HL4.out k hlt
        obtain ⟨L, LA, hL, hLA, hix⟩ := hidx
        have hkb : decide ((k : Int) < 4) = true := by simp; omega
        have HLm := Lib.hid hL
        have HLA := Lib.hid hLA
        have hn60 := SM.out.len_le_of L (List.mem_of_getElem? hL)
        clear hL hLA
        go_wp2_with fail
        go_loopw [13, 61] (fun _ i wr => ∃ m : Nat, m ≤ L.l.length ∧ i = .int .i64 m ∧ StrSt f W0.heap.size w hd w.heap.size wb b mb (fileArr p0 p1 p2 p3 p4 p5 p6 p7 a0 a1 a2 a3 a4 a5 a6 a7 a8 a9 a10 a11 f) (((([(⟨#[]⟩ : ByteArray)] ++ f.im.l.map Im.pkg) ++ f.pk.l) ++ f.fi.l) ++ (((f.lists.take k).map Sl.l).flatten ++ L.l.take m).map Df.name) wr) (fun _ i _ => L.l.length - (intOf i).toNat)
        case atStart => exact ⟨0, by omega, rfl, ST2.out.cast (by simp)⟩
        case round =>
          obtain ⟨m, hm, rfl, hst⟩ := hrel
          have ST3 := Lib.hid hst
          clear hst ST2
          by_cases hlt2 : m < L.l.length
          · obtain ⟨bb, oo, hA, hc⟩ := SlR.at_ ((HI.out.dfs L (List.mem_of_getElem? HLm.out)).l.here (ST3.out.low H0.out)) m hlt2
            obtain rfl : LA = some ⟨bb, oo, none⟩ := HLA.out.trans hA
            have hsz := SM.out.names _ (df_name L (List.mem_of_getElem? HLm.out) m hlt2)
            have hpl : ((((([(⟨#[]⟩ : ByteArray)] ++ f.im.l.map Im.pkg) ++ f.pk.l) ++ f.fi.l) ++ (((f.lists.take k).map Sl.l).flatten ++ L.l.take m).map Df.name)).length ≤ 900 := by
              have h1 := SM.out.flat_le k
              have h2 : (L.l.take m).length ≤ 60 := by rw [List.length_take]; omega
              have := SM.out.im; have := SM.out.pk; have := SM.out.fi
              simp only [List.length_append, List.length_map, List.length_cons, List.length_nil]
              omega
            have HT := Lib.hid (show (((([(⟨#[]⟩ : ByteArray)] ++ f.im.l.map Im.pkg) ++ f.pk.l) ++ f.fi.l) ++ (((f.lists.take k).map Sl.l).flatten ++ L.l.take m).map Df.name) ++ [L.l[m].name] = (((([(⟨#[]⟩ : ByteArray)] ++ f.im.l.map Im.pkg) ++ f.pk.l) ++ f.fi.l) ++ (((f.lists.take k).map Sl.l).flatten ++ L.l.take (m + 1)).map Df.name) from by rw [List.take_succ_eq_append_getElem hlt2, List.append_assoc, ← List.append_assoc _ (L.l.take m), List.map_append (l₂ := [L.l[m]])]; rfl)
            have q0 := hc 0 _ rfl
            have q1 := hc 1 _ rfl
            have q2 := hc 2 _ rfl
            have q3 := hc 3 _ rfl
            have q4 := hc 4 _ rfl
            have q5 := hc 5 _ rfl
            have q6 := hc 6 _ rfl
            have q7 := hc 7 _ rfl
            have q8 := hc 8 _ rfl
            have q9 := hc 9 _ rfl
            rw [Nat.add_zero] at q0
            have HS := Lib.hid hsz
            clear hc hsz
            generalize L.l[m] = x at *
            go_wp2_with fail
            refine (strSt_arg (ST3.out.alloc _) x.name HS.out hpl HH.out).mono ?_
            rintro e w2 k2
            have s2 := Lib.hid (((ST3.out.alloc _).step HS.out HG.out k2).cast HT.out)
            obtain ⟨rfl, _⟩ := k2
            clear q0 q1 q2 q3 q4 q5 q6 q7 q8 q9
            go_wp2_with fail
            go_roundw
            case rel => exact ⟨m + 1, by omega, by go_num, s2.out⟩
            case measure => simp [intOf]; omega
          · obtain rfl : m = L.l.length := by omega
            have s3 := Lib.hid (ST3.out.cast (show _ = (((([(⟨#[]⟩ : ByteArray)] ++ f.im.l.map Im.pkg) ++ f.pk.l) ++ f.fi.l) ++ ((f.lists.take (k + 1)).map Sl.l).flatten.map Df.name) from by rw [List.take_length, take_lists f k L HLm.out]))
            go_wp2_with fail
            go_roundw
            case rel => exact ⟨k + 1, by omega, by go_num, s3.out⟩
            case measure => simp [intOf]; omega
      · obtain rfl : k = 4 := by omega
        go_wp2_with fail
        go_meet
        case rel => exact ST2.out.cast (by rw [show f.lists.take 4 = f.lists from rfl, ← FM.all_flat])
  case rest =>
  have S4 := Lib.hid hcut
  have hb4 := hcut.box.cell 16
  clear hcut SL S3
  go_upto_block 10 with fail
  go_cut [] from 3 to 94 (fun wc => StrSt f W0.heap.size w hd w.heap.size wb b mb (fileArr p0 p1 p2 p3 p4 p5 p6 p7 a0 a1 a2 a3 a4 a5 a6 a7 a8 a9 a10 a11 f) ((((([(⟨#[]⟩ : ByteArray)] ++ f.im.l.map Im.pkg) ++ f.pk.l) ++ f.fi.l) ++ f.all.map Df.name) ++ f.refs.l.map Rf.name) wc)
  case first =>
   as_aux_lemma =>
    go_wp2_with fail
    go_loopw [15, 74] (fun _ i wr => ∃ k : Nat, k ≤ f.refs.l.length ∧ i = .int .i64 k ∧ StrSt f W0.heap.size w hd w.heap.size wb b mb (fileArr p0 p1 p2 p3 p4 p5 p6 p7 a0 a1 a2 a3 a4 a5 a6 a7 a8 a9 a10 a11 f) ((((([(⟨#[]⟩ : ByteArray)] ++ f.im.l.map Im.pkg) ++ f.pk.l) ++ f.fi.l) ++ f.all.map Df.name) ++ (f.refs.l.take k).map Rf.name) wr) (fun _ i _ => f.refs.l.length - (intOf i).toNat)
    case atStart => exact ⟨0, by omega, rfl, S4.out.cast (by simp)⟩
    case round =>
      obtain ⟨k, hk, rfl, hst⟩ := hrel
      have ST2 := Lib.hid hst
      clear hst S4 hb4
      by_cases hlt : k < f.refs.l.length
      · obtain ⟨bb, oo, hA, hc⟩ := SlR.at_ (HI.out.refs.here (ST2.out.low H0.out)) k hlt
        obtain rfl : a7 = some ⟨bb, oo, none⟩ := HA7.out.symm.trans hA
        have hsz := SM.out.names _ (FM.refs_name f k hlt)
        have hpl : (((((([(⟨#[]⟩ : ByteArray)] ++ f.im.l.map Im.pkg) ++ f.pk.l) ++ f.fi.l) ++ f.all.map Df.name) ++ (f.refs.l.take k).map Rf.name)).length ≤ 900 := by
          have := SM.out.im; have := SM.out.pk; have := SM.out.fi; have := SM.out.all; have := SM.out.refs; have := SM.out.rn
          simp only [List.length_append, List.length_map, List.length_cons, List.length_nil, List.length_take]
          omega
        have HT := Lib.hid (show ((((([(⟨#[]⟩ : ByteArray)] ++ f.im.l.map Im.pkg) ++ f.pk.l) ++ f.fi.l) ++ f.all.map Df.name) ++ (f.refs.l.take k).map Rf.name) ++ [f.refs.l[k].name] = ((((([(⟨#[]⟩ : ByteArray)] ++ f.im.l.map Im.pkg) ++ f.pk.l) ++ f.fi.l) ++ f.all.map Df.name) ++ (f.refs.l.take (k + 1)).map Rf.name) from by rw [List.take_succ_eq_append_getElem hlt, List.map_append, List.append_assoc]; rfl)
        have hn60 := SM.out.refs
        have q0 := hc 0 _ rfl
        have q1 := hc 1 _ rfl
        have q2 := hc 2 _ rfl
        have q3 := hc 3 _ rfl
        have q4 := hc 4 _ rfl
        have q5 := hc 5 _ rfl
        have q6 := hc 6 _ rfl
        rw [Nat.add_zero] at q0
        have HS := Lib.hid hsz
        clear hc hsz
        generalize f.refs.l[k] = x at *
        go_wp2_with fail
        refine (strSt_arg (ST2.out.alloc _) x.name HS.out hpl HH.out).mono ?_
        rintro e w2 k2
        have s2 := Lib.hid (((ST2.out.alloc _).step HS.out HG.out k2).cast HT.out)
        obtain ⟨rfl, _⟩ := k2
        clear q0 q1 q2 q3 q4 q5 q6
        go_wp2_with fail
        go_roundw
        case rel => exact ⟨k + 1, by omega, by go_num, s2.out⟩
        case measure => simp [intOf]; omega
      · obtain rfl : k = f.refs.l.length := by omega
        go_wp2_with fail
        go_meet
        case rel => exact ST2.out.cast (by rw [List.take_length])
  case rest =>
  have S5 := Lib.hid hcut
  have hb5 := hcut.box.cell 20
  clear hcut S4 hb4
  go_wp2_with fail
  go_loopw [17, 86] (fun _ i wr => ∃ k : Nat, k ≤ f.rn.l.length ∧ i = .int .i64 k ∧ StrSt f W0.heap.size w hd w.heap.size wb b mb (fileArr p0 p1 p2 p3 p4 p5 p6 p7 a0 a1 a2 a3 a4 a5 a6 a7 a8 a9 a10 a11 f) (((((([(⟨#[]⟩ : ByteArray)] ++ f.im.l.map Im.pkg) ++ f.pk.l) ++ f.fi.l) ++ f.all.map Df.name) ++ f.refs.l.map Rf.name) ++ (f.rn.l.take k).map Nm.name) wr) (fun _ i _ => f.rn.l.length - (intOf i).toNat)
  case atStart => exact ⟨0, by omega, rfl, S5.out.cast (by simp)⟩
  case round =>
    obtain ⟨k, hk, rfl, hst⟩ := hrel
    have ST2 := Lib.hid hst
    clear hst S5 hb5
    by_cases hlt : k < f.rn.l.length
    · obtain ⟨bb, oo, hA, hc⟩ := SlR.at_ (HI.out.rn.here (ST2.out.low H0.out)) k hlt
      obtain rfl : a11 = some ⟨bb, oo, none⟩ := HA11.out.symm.trans hA
      have hsz := SM.out.names _ (FM.rn_name f k hlt)
      have hpl : ((((((([(⟨#[]⟩ : ByteArray)] ++ f.im.l.map Im.pkg) ++ f.pk.l) ++ f.fi.l) ++ f.all.map Df.name) ++ f.refs.l.map Rf.name) ++ (f.rn.l.take k).map Nm.name)).length ≤ 900 := by
        have := SM.out.im; have := SM.out.pk; have := SM.out.fi; have := SM.out.all; have := SM.out.refs; have := SM.out.rn
        simp only [List.length_append, List.length_map, List.length_cons, List.length_nil, List.length_take]
        omega
      have HT := Lib.hid (show (((((([(⟨#[]⟩ : ByteArray)] ++ f.im.l.map Im.pkg) ++ f.pk.l) ++ f.fi.l) ++ f.all.map Df.name) ++ f.refs.l.map Rf.name) ++ (f.rn.l.take k).map Nm.name) ++ [f.rn.l[k].name] = (((((([(⟨#[]⟩ : ByteArray)] ++ f.im.l.map Im.pkg) ++ f.pk.l) ++ f.fi.l) ++ f.all.map Df.name) ++ f.refs.l.map Rf.name) ++ (f.rn.l.take (k + 1)).map Nm.name) from by rw [List.take_succ_eq_append_getElem hlt, List.map_append, List.append_assoc]; rfl)
      have hn60 := SM.out.rn
      have q0 := hc 0 _ rfl
      have q1 := hc 1 _ rfl
      have q2 := hc 2 _ rfl
      rw [Nat.add_zero] at q0
      have HS := Lib.hid hsz
      clear hc hsz
      generalize f.rn.l[k] = x at *
      go_wp2_with fail
      refine (strSt_arg (ST2.out.alloc _) x.name HS.out hpl HH.out).mono ?_
      rintro e w2 k2
      have s2 := Lib.hid (((ST2.out.alloc _).step HS.out HG.out k2).cast HT.out)
      obtain ⟨rfl, _⟩ := k2
      clear q0 q1 q2
      go_wp2_with fail
      go_roundw
      case rel => exact ⟨k + 1, by omega, by go_num, s2.out⟩
      case measure => simp [intOf]; omega
    · obtain rfl : k = f.rn.l.length := by omega
      go_wp2_with fail
      go_end0
      have s9 := ST2.out.cast (show _ = f.names from by rw [List.take_length]; simp [FM.names])
      exact ⟨rfl, s9.iw, s9.wf⟩
end Go.Proofs.YtajeinkkfggcbaaGreatDoor
