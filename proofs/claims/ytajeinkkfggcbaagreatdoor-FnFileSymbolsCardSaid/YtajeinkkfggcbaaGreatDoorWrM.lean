/- What a writer with its map writes: names, symbols, imports, names of references. -/
import Derived.Test.YtajeinkkfggcbaaGreatDoorFileS
import Derived.Test.YtajeinkkfggcbaaGreatDoorSym
import Derived.Test.YtajeinkkfggcbaaGreatDoorRecs
namespace Go.Proofs.YtajeinkkfggcbaaGreatDoor
open Go.RowKit Go.Maps

section
variable {B wb b mb n : Nat} {xs : List Int} {t : ByteArray → Option Nat} {w : World} (h : IsW B wb b mb n xs t w)
include h
set_option maxRecDepth 100000 in
set_option maxHeartbeats 400000 in
theorem stringOff_any (s : ByteArray) (v : Nat) (hv : t s = some v) (hs : s.size ≤ 1000) : Calls Tryz.prog 74 #[.pointer (some ⟨wb, 0, none⟩), .string s] w (RetQ (.int .u32 v) w) := by
  obtain ⟨s0, s1, s2, s3, s4, s5, s6, s7, hb⟩ := h.wr.blk
  obtain ⟨D, hown, hM, hD⟩ := h.map.is
  have c1 := hb.cell 1
  have HO := Lib.hid hown
  have hkey := Lib.hid (WideMaps.keyOf_string_mk (P := Tryz.prog) Tryz.underlying9 (show s.size ≤ maxLen by unfold maxLen; omega))
  have hb1 : Maps.has D (sk s) = true := (hD s).1.trans (by rw [hv]; rfl)
  have HD := Lib.hid ((hD s).2 v hv)
  clear hb h hown hM hD hv
  go_enter Tryz.func74, Tryz.ntmps74
  go_wp2_with (at_lookup; refine wpList_lookup_own_ok_int _ rfl _ _ 98 rfl 9 23 .u32 Tryz.keyS Tryz.underlying98 Tryz.underlying23 (Tryz.zeroU32 _) mb n D rfl HO.out _ (sk s) rfl hkey.out ?_; intro c hat hwc; have HC := Lib.hid (show c = (v : Int) from by have h1 := hat.symm.trans HD.out; injection h1 with h1; injection h1 with _ h1); clear hat hwc)
  go_ret
  exact ⟨by rw [HC.out]; rfl, 0, rfl⟩

set_option maxHeartbeats 1000000 in
theorem stringRef_any (s : ByteArray) (v : Nat) (hv : t s = some v) (hs : s.size ≤ 1000) (hv2 : v < 4294967296) (hx : xs.length + 8 < 4294967296) :
    Calls Tryz.prog 42 #[.pointer (some ⟨wb, 0, none⟩), .string s] w (WroteM B wb b mb n (xs ++ (le4 s.size ++ le4 v)) t w) := by
  have H := Lib.hid h
  have hz := h.zs
  have HV := Lib.hid hv
  have e0 : (0 : Int) ≤ s.size := by omega
  have e1 : (s.size : Int) ≤ 1000 := by omega
  clear h hv
  go_enter Tryz.func42, Tryz.ntmps42
  go_wp2_with fail
  refine (writer_Uint32 B wb b mb _ _ H.out.wr hz s.size (by omega) (by omega) (by omega)).mono ?_
  rintro e w1 k1
  have m1 := WroteM.of_wrote H.out k1
  obtain ⟨rfl, H1, F1⟩ := m1
  have z1 := H1.zs
  clear k1
  go_wp2_with fail
  refine (stringOff_any H1 s v HV.out hs).mono ?_
  rintro e w2 ⟨rfl, n2, rfl⟩
  have H2 := Lib.hid (H1.here (below_drewN (Below.refl _ _) n2))
  go_wp2_with fail
  refine (writer_Uint32 B wb b mb _ _ H2.out.wr H2.out.zs v (by omega) (by omega) (by simp [le4_len]; omega)).mono ?_
  rintro e w3 k3
  have m3 := WroteM.of_wrote H2.out k3
  obtain ⟨rfl, H3, F3⟩ := m3
  clear k3
  go_wp2_with fail
  go_end0
  rw [List.append_assoc] at H3
  exact ⟨rfl, H3, (F1.drewN n2).trans F3⟩
end

theorem IsW.fr {B wb b mb n : Nat} {xs : List Int} {t : ByteArray → Option Nat} {w w' : World} {g : Nat} {ty : TypeId} {cs : Array Value} (h : IsW B wb b mb n xs t w) (hb : Blk w g ty cs) (ht : ty ≠ 5) (h1 : g ≠ wb) (h2 : g ≠ b) (hf : Fr [g] w w') : IsW B wb b mb n xs t w' := by
  refine ⟨h.wr.fr hf (by simpa using Ne.symm h1) (by simpa using Ne.symm h2) ?_, h.map.block (hf.block mb h.map.lt (by simpa using h.map.ne hb)), h.low⟩
  rintro k ⟨c, fz, hk⟩
  simp only [List.mem_singleton]
  rintro rfl
  have := Option.some.inj (hk.symm.trans hb)
  injection this with _ h3 _
  exact ht h3.symm
/-- .. and then only blocks that are new have turned. -/
theorem WF.andFr {e : TypeId} {own gs : List Nat} {B : Nat} {a w w' : World} (h : WF e own B a w) (f : Fr gs w w') (hg : ∀ g ∈ gs, a.heap.size ≤ g) (hB : B ≤ a.heap.size) : WF e own B a w' :=
  ⟨f.os.trans h.os, f.tape.trans h.tape, f.output.trans h.output, Nat.le_trans h.size f.size, fun k hk => (f.block k (by have := h.size; omega) (fun hm => by have := hg k hm; omega)).trans (h.low k hk),
    fun k o hk hn ho => (f.block k (by have := (Array.getElem?_eq_some_iff.1 hk).1; have := h.size; omega) (fun hm => by have := hg k hm; have := (Array.getElem?_eq_some_iff.1 hk).1; omega)).trans (h.keep k o hk hn ho)⟩
/-- What setting a name leaves: the name's length and place laid into the block. -/
def Named (g : Nat) (ty : TypeId) (cs : Array Value) (w : World) (e : Ending) (w' : World) : Prop := e = .returned (.tuple #[]) ∧ Blk w' g ty cs ∧ Fr [g] w w'

section
variable {B wb b mb n : Nat} {xs : List Int} {t : ByteArray → Option Nat} {w : World} (h : IsW B wb b mb n xs t w) (g : Nat) (ty : TypeId) (cs : Array Value) (hb : Blk w g ty cs) (ht : ty ≠ 5) (h1 : g ≠ wb) (h2 : g ≠ b) (s : ByteArray) (v : Nat) (hv : t s = some v) (hs : s.size ≤ 1000) (hv2 : v < 4294967296)
include h hb ht h1 h2 hv hs hv2
set_option maxRecDepth 100000 in
set_option maxHeartbeats 1000000 in
theorem sym_SetName (hc : cs.size = 21) : Calls Tryz.prog 76 #[.pointer (some ⟨g, 0, none⟩), .string s, .pointer (some ⟨wb, 0, none⟩)] w (Named g ty (set4 (set4 cs 0 s.size) 4 v) w) := by
  have H := Lib.hid h
  have HB := Lib.hid hb
  have HV := Lib.hid hv
  have HS := Lib.hid hs
  have HC := Lib.hid hc
  have e0 : (0 : Int) ≤ s.size := by omega
  have e1 : (s.size : Int) ≤ 1000 := by omega
  clear h hb hv hs hc
  go_enter Tryz.func76, Tryz.ntmps76
  go_wp2_with fail
  refine (putLe32_blk g 0 _ _ ty cs _ _ HB.out (by omega) (by rw [HC.out]; omega) (by omega) (by omega)).mono ?_
  rintro e w1 ⟨rfl, hb1, hf1⟩
  have H1 := Lib.hid (H.out.fr HB.out ht h1 h2 hf1)
  have HB1 := Lib.hid hb1
  have F1 := Lib.hid hf1
  clear hb1 hf1
  go_wp2_with fail
  go_region_held3 (fun _ => True) (first | trivial | go_keep)
    (first | (go_at_call 74; refine (stringOff_any (H1.out.here (below_drewN (Below.refl _ _) 1)) s v HV.out HS.out).mono ?_; rintro e w2 ⟨rfl, n2, rfl⟩) | (go_at_call 73; refine (putLe32_blk g 4 17 17 ty _ _ _ (HB1.out.drewN _) (by omega) (by simp; rw [HC.out]; omega) (by omega) (by omega)).mono ?_; rintro e w3 ⟨rfl, hb3, hf3⟩))
  go_wp2_with fail
  go_end0
  exact ⟨rfl, hb3, (F1.out.drewN _).trans1 hf3⟩
set_option maxRecDepth 100000 in
set_option maxHeartbeats 1000000 in
theorem refName_SetName (hc : cs.size = 16) : Calls Tryz.prog 51 #[.pointer (some ⟨g, 0, none⟩), .string s, .pointer (some ⟨wb, 0, none⟩)] w (Named g ty (set4 (set4 cs 8 s.size) 12 v) w) := by
  have H := Lib.hid h
  have HB := Lib.hid hb
  have HV := Lib.hid hv
  have HS := Lib.hid hs
  have HC := Lib.hid hc
  have e0 : (0 : Int) ≤ s.size := by omega
  have e1 : (s.size : Int) ≤ 1000 := by omega
  clear h hb hv hs hc
  go_enter Tryz.func51, Tryz.ntmps51
  go_wp2_with fail
  refine (putLe32_blk g 8 _ _ ty cs _ _ HB.out (by omega) (by rw [HC.out]; omega) (by omega) (by omega)).mono ?_
  rintro e w1 ⟨rfl, hb1, hf1⟩
  have H1 := Lib.hid (H.out.fr HB.out ht h1 h2 hf1)
  have HB1 := Lib.hid hb1
  have F1 := Lib.hid hf1
  clear hb1 hf1
  go_wp2_with fail
  go_region_held3 (fun _ => True) (first | trivial | go_keep)
    (first | (go_at_call 74; refine (stringOff_any (H1.out.here (below_drewN (Below.refl _ _) 1)) s v HV.out HS.out).mono ?_; rintro e w2 ⟨rfl, n2, rfl⟩) | (go_at_call 73; refine (putLe32_blk g 12 4 4 ty _ _ _ (HB1.out.drewN _) (by omega) (by simp; rw [HC.out]; omega) (by omega) (by omega)).mono ?_; rintro e w3 ⟨rfl, hb3, hf3⟩))
  go_wp2_with fail
  go_end0
  exact ⟨rfl, hb3, (F1.out.drewN _).trans1 hf3⟩
end

theorem sym_cells (y : Sy) (ok : y.Ok) (n o : Int) : set4 (set4 (symCells y.abi y.kind y.flag y.flag2 y.size y.align) 0 n) 4 o = (bcs ((le4 n ++ le4 o) ++ y.bytes)).toArray := by
  have e1 : y.abi / 256 = y.abi / 256 % 256 := by have := ok.a; omega
  have e2 : y.size / 16777216 = y.size / 16777216 % 256 := by have := ok.z; omega
  have e3 : y.align / 16777216 = y.align / 16777216 % 256 := by have := ok.l; omega
  unfold symCells
  rw [e1, e2, e3]
  simp [set4, bcs, le4, le2, Sy.bytes, u8]

section
variable {B wb b mb n : Nat} {xs : List Int} {t : ByteArray → Option Nat} {w : World} (h : IsW B wb b mb n xs t w)
include h
set_option maxHeartbeats 1000000 in
theorem sym_Write (g : Nat) (ty : TypeId) (ys : List Int) (hb : Blk w g ty (bcs ys).toArray) (hy : ys.length = 21) (hg : g ≠ b) (hx : xs.length + 21 < 4294967296) : Calls Tryz.prog 77 #[.pointer (some ⟨g, 0, none⟩), .pointer (some ⟨wb, 0, none⟩)] w (WroteM B wb b mb n (xs ++ ys) t w) := by
  have H := Lib.hid h
  have HB := Lib.hid hb
  have HY := Lib.hid hy
  have hz := h.zs
  clear h hb hy
  go_enter Tryz.func77, Tryz.ntmps77
  go_wp2_with fail
  refine (writer_Bytes B wb b mb xs w H.out.wr hz ⟨g, 0, none⟩ 21 21 ys HY.out hg (fun j u hu => by rw [Lib.addr_add, HB.out.cell, List.getElem?_toArray, Nat.zero_add]; exact hu) hx).mono ?_
  rintro e w1 k1
  have m1 := WroteM.of_wrote H.out k1
  obtain ⟨rfl, H1, F1⟩ := m1
  clear k1
  go_wp2_with fail
  go_end0
  exact ⟨rfl, H1, F1⟩
set_option maxHeartbeats 1000000 in
theorem refName_Write (g : Nat) (ty : TypeId) (ys : List Int) (hb : Blk w g ty (bcs ys).toArray) (hy : ys.length = 16) (hg : g ≠ b) (hx : xs.length + 16 < 4294967296) : Calls Tryz.prog 52 #[.pointer (some ⟨g, 0, none⟩), .pointer (some ⟨wb, 0, none⟩)] w (WroteM B wb b mb n (xs ++ ys) t w) := by
  have H := Lib.hid h
  have HB := Lib.hid hb
  have HY := Lib.hid hy
  have hz := h.zs
  clear h hb hy
  go_enter Tryz.func52, Tryz.ntmps52
  go_wp2_with fail
  refine (writer_Bytes B wb b mb xs w H.out.wr hz ⟨g, 0, none⟩ 16 16 ys HY.out hg (fun j u hu => by rw [Lib.addr_add, HB.out.cell, List.getElem?_toArray, Nat.zero_add]; exact hu) hx).mono ?_
  rintro e w1 k1
  have m1 := WroteM.of_wrote H.out k1
  obtain ⟨rfl, H1, F1⟩ := m1
  clear k1
  go_wp2_with fail
  go_end0
  exact ⟨rfl, H1, F1⟩
set_option maxHeartbeats 1000000 in
theorem imp_Write (g : Nat) (s : ByteArray) (v : Nat) (hv : t s = some v) (hs : s.size ≤ 1000) (hv2 : v < 4294967296) (ys : List Int) (hy : ys.length = 8) (hb : Blk w g 108 (.string s :: bcs ys).toArray) (hg : g ≠ b) (hg2 : g ≠ wb) (hx : xs.length + 16 < 4294967296) :
    Calls Tryz.prog 41 #[.pointer (some ⟨g, 0, none⟩), .pointer (some ⟨wb, 0, none⟩)] w (WroteM B wb b mb n (xs ++ ((le4 s.size ++ le4 v) ++ ys)) t w) := by
  have H := Lib.hid h
  have HB := Lib.hid hb
  have HY := Lib.hid hy
  have HV := Lib.hid hv
  have hgm := h.map.ne hb
  have c0 : w.cell? ⟨g, 0, none⟩ = some (.string s) := by rw [hb.cell]; rfl
  clear h hb hy hv
  go_enter Tryz.func41, Tryz.ntmps41
  go_wp2_with fail
  refine (stringRef_any H.out s v HV.out hs hv2 (by omega)).mono ?_
  rintro e w1 ⟨rfl, H1, F1⟩
  have HB1 := Lib.hid (F1.blk HB.out (by simp; omega) (by decide))
  go_wp2_with fail
  refine (writer_Bytes B wb b mb _ w1 H1.wr H1.zs ⟨g, 1, none⟩ 8 8 ys HY.out hg (fun j u hu => by rw [Lib.addr_add, HB1.out.cell, List.getElem?_toArray, Nat.add_comm, List.getElem?_cons_succ]; exact hu) (by simp [le4_len]; omega)).mono ?_
  rintro e w2 k2
  have m2 := WroteM.of_wrote H1 k2
  obtain ⟨rfl, H2, F2⟩ := m2
  clear k2
  go_wp2_with fail
  go_end0
  rw [List.append_assoc] at H2
  exact ⟨rfl, H2, F1.trans F2⟩
set_option maxHeartbeats 1000000 in
theorem symbol_any (s : ByteArray) (v : Nat) (hv : t s = some v) (hs : s.size ≤ 1000) (hv2 : v < 4294967296) (y : Sy) (ok : y.Ok) (hx : xs.length + 21 < 4294967296) :
    Calls Tryz.prog 43 #[.pointer (some ⟨wb, 0, none⟩), .string s, .agg #[.int .u16 y.abi, .int .u8 y.kind, .int .u8 y.flag, .int .u8 y.flag2, .int .u32 y.size, .int .u32 y.align]] w (WroteM B wb b mb n (xs ++ ((le4 s.size ++ le4 v) ++ y.bytes)) t w) := by
  have hz := h.zs
  have hwl := h.wr.wlt
  have hbl := h.wr.buf.lt
  have hml := h.map.lt
  have H0 := Lib.hid (h.here (later_alloc w (.cells #[.int .u16 y.abi, .int .u8 y.kind, .int .u8 y.flag, .int .u8 y.flag2, .int .u32 y.size, .int .u32 y.align] 40)))
  have HV := Lib.hid hv
  have OK := Lib.hid ok
  clear h hv ok
  go_enter Tryz.func43, Tryz.ntmps43
  go_wp2_with fail
  refine (sym_any y.abi y.kind y.flag y.flag2 y.size y.align _ OK.out.a.1 OK.out.a.2 OK.out.z.1 OK.out.z.2 OK.out.l.1 OK.out.l.2).mono ?_
  rintro e w1 ⟨g, rfl, hg, hblk, hb1⟩
  have H1 := Lib.hid (H0.out.here hb1)
  have HB := Lib.hid hblk
  have hg' : w.heap.size + 1 ≤ g := by simpa using hg
  have F1 := Lib.hid (WF.of_below (e := 5) (own := [wb, b, mb]) (below_from (later_alloc w _) hb1) hz)
  clear hb1 hblk hg H0
  go_wp2_with fail
  refine (sym_SetName H1.out g _ _ HB.out (by decide) (by omega) (by omega) s v HV.out hs hv2 rfl).mono ?_
  rintro e w2 ⟨rfl, hb2, hf2⟩
  rw [sym_cells y OK.out] at hb2
  have H2 := Lib.hid (H1.out.fr HB.out (by decide) (by omega) (by omega) hf2)
  have F2 := Lib.hid (F1.out.andFr hf2 (by simp; omega) hz)
  have HB2 := Lib.hid hb2
  clear hb2 hf2 H1 HB F1
  go_wp2_with fail
  refine (sym_Write H2.out g _ _ HB2.out rfl (by omega) hx).mono ?_
  rintro e w3 ⟨rfl, H3, F3⟩
  go_wp2_with fail
  go_end0
  exact ⟨rfl, H3, F2.out.trans F3⟩
end
end Go.Proofs.YtajeinkkfggcbaaGreatDoor
