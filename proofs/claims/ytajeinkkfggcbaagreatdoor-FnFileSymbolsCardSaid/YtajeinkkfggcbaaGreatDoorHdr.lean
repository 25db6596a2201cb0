/- A header written. -/
import Derived.Test.YtajeinkkfggcbaaGreatDoorPart
import Derived.Test.YtajeinkkfggcbaaGreatDoorWrM
import Derived.Test.YtajeinkkfggcbaaGreatDoorFmR
namespace Go.Proofs.YtajeinkkfggcbaaGreatDoor
open Go.RowKit Go.Maps

theorem run_index_ints {P : Program} (w : World) {t e : TypeId} {n : Nat} {k : IntKind} (ht : P.underlying t = some (.array n e)) (he : P.underlying e = some (.int k)) (hs : (P.info? e).map (·.size) = some 1) (xs : List Int) (hn : xs.length = n) (i : Nat) (hi : i < n) :
    (Instr.index t (.agg (xs.map (Value.int k)).toArray) (.int .i64 (i : Int))).run P w = .ok (.int k (xs.getD i 0)) w := by
  have hpl : P.plainKey e = true := by simp [Program.plainKey, he]
  cases hq : P.info? e with
  | none => simp [hq] at hs
  | some ie =>
    have h1 : ie.size = 1 := by simpa [hq] using hs
    have p1 : (part e (xs.map (Value.int k)).toArray i).run P w = .ok (.int k (xs.getD i 0)) w := run_part_plain w hpl (by simp [hn, hi])
    simp [Instr.index, asIntOf, run_underlying ht, sizeOf, typeInfo, hq, h1, p1, hi]

/-- A header's cells. -/
def hdL (fp : List Int) (fl : Int) (os : List Int) : List Value := .string magicS :: (fp.map (Value.int .u8) ++ (.int .u32 fl :: os.map (Value.int .u32)))
theorem Tryz.info19h : (Tryz.prog.info? 65).map (·.size) = some 19 := by kernel_rfl
theorem hdL_off {fp : List Int} {fl : Int} {os : List Int} (h : fp.length = 8) (j : Nat) : (hdL fp fl os)[10 + j]? = (os.map (Value.int .u32))[j]? := by
  obtain ⟨a0, a1, a2, a3, a4, a5, a6, a7, rfl⟩ := list8 h
  simp only [hdL, List.map_cons, List.map_nil, List.cons_append, List.nil_append]
  rw [show 10 + j = j + 10 from by omega]
  rfl
theorem hdL_fp {fp : List Int} {fl : Int} {os : List Int} (j : Nat) (u : Value) (hu : (bcs fp)[j]? = some u) : (hdL fp fl os)[1 + j]? = some u := by
  have hj := (List.getElem?_eq_some_iff.1 hu).1
  unfold hdL
  rw [show 1 + j = j + 1 from by omega, List.getElem?_cons_succ, List.getElem?_append_left (by simpa [bcs] using hj)]
  exact hu

set_option maxRecDepth 100000 in
set_option maxHeartbeats 1000000 in
theorem hdrWrite_any (f : FM) (S : f.Small) (hfl : 0 ≤ f.flags ∧ f.flags < 4294967296) (os : List Nat) (hos : os.length = 19) (hob : ∀ x ∈ os, x ≤ 200000) (B wb b mb n g : Nat) (t : ByteArray → Option Nat) (w : World) (h : IsW B wb b mb n [] t w)
    (hb : Blk w g 67 (hdL f.fp f.flags (os.map Int.ofNat)).toArray) (hg : g ∉ [wb, b, mb]) :
    Calls Tryz.prog 18 #[.pointer (some ⟨g, 0, none⟩), .pointer (some ⟨wb, 0, none⟩)] w (WroteM B wb b mb n (f.hdr os) t w) := by
  have h8 := S.fp
  have H := Lib.hid h
  have HB := Lib.hid hb
  have HG := Lib.hid hg
  have HF := Lib.hid h8
  have HO := Lib.hid hos
  have HOB := Lib.hid hob
  have hgb : g ≠ b := by simp at hg; omega
  have c0 : w.cell? ⟨g, 0, none⟩ = some (.string magicS) := hb.cell 0
  clear h hb hg h8 S hos hob
  go_enter Tryz.func18, Tryz.ntmps18
  go_wp2_with fail
  refine (writer_RawString B wb b mb [] w H.out.wr H.out.zs magicS (by show 0 + 8 < _; omega)).mono ?_
  rintro e w1 k1
  have m1 := WroteM.of_wrote H.out k1
  obtain ⟨rfl, H1, F1⟩ := m1
  have B1 := Lib.hid (F1.blk HB.out HG.out (by decide))
  have I1 := Lib.hid H1
  have G1 := Lib.hid F1
  clear k1 H1 F1 c0
  go_wp2_with fail
  refine (writer_Bytes B wb b mb _ w1 I1.out.wr I1.out.zs ⟨g, 1, none⟩ 8 8 f.fp HF.out hgb (fun j u hu => by rw [Lib.addr_add, B1.out.cell, List.getElem?_toArray]; exact hdL_fp j u hu) (by show 8 + 8 < _; omega)).mono ?_
  rintro e w2 k2
  have m2 := WroteM.of_wrote I1.out k2
  obtain ⟨rfl, H2, F2⟩ := m2
  have B2 := Lib.hid (F2.blk B1.out HG.out (by decide))
  have I2 := Lib.hid H2
  have G2 := Lib.hid (G1.out.trans F2)
  clear k2 H2 F2 B1 G1 I1
  have c9 : w2.cell? ⟨g, 9, none⟩ = some (.int .u32 f.flags) := by
    rw [B2.out.cell, List.getElem?_toArray]
    obtain ⟨a0, a1, a2, a3, a4, a5, a6, a7, e⟩ := list8 HF.out
    rw [e]
    rfl
  go_wp2_with fail
  refine (writer_Uint32 B wb b mb _ w2 I2.out.wr I2.out.zs f.flags hfl.1 hfl.2 (by rw [List.length_append, HF.out]; show 8 + 8 + 4 < _; omega)).mono ?_
  rintro e w3 k3
  have m3 := WroteM.of_wrote I2.out k3
  obtain ⟨rfl, H3, F3⟩ := m3
  have B3 := Lib.hid (F3.blk B2.out HG.out (by decide))
  have G3 := Lib.hid (G2.out.trans F3)
  obtain ⟨Y, hY⟩ : ∃ Y, Y = ([] ++ sbs magicS ++ f.fp ++ le4 f.flags) := ⟨_, rfl⟩
  rw [← hY] at H3
  have I3 := Lib.hid H3
  have HYL := Lib.hid (show Y.length = 20 from by rw [hY]; simp [HF.out, sbs_magic, magicB, le4_len])
  have HY := Lib.hid hY
  clear k3 H3 F3 B2 G2 I2 c9 hY
  obtain ⟨zs, hzs⟩ : ∃ zs, zs = os.map Int.ofNat := ⟨_, rfl⟩
  have HZ := Lib.hid hzs
  have HZL := Lib.hid (show zs.length = 19 from by rw [hzs, List.length_map, HO.out])
  have hix := Lib.hid (fun (k : Nat) (hk : k < 19) (W : World) => run_index_ints (P := Tryz.prog) W Tryz.underlying65 Tryz.underlying23 (by kernel_rfl) zs (by rw [hzs, List.length_map, HO.out]) k hk)
  clear hzs
  go_wp2_with (refine wpList_load_part rfl 65 (.tmp 26) rfl g 10 rfl (zs.map (Value.int .u32)) _ (fun j v hv => by rw [B3.out.cell, List.getElem?_toArray, hdL_off HF.out, ← HZ.out]; exact hv) Tryz.underlying65 rfl (by rw [List.length_map, HZL.out]; exact Tryz.info19h) ?_)
  go_loopw [5, 28] (fun _ i wr => ∃ k : Nat, k ≤ 19 ∧ i = .int .i64 k ∧ IsW B wb b mb n (Y ++ (os.take k).flatMap fun (n : Nat) => le4 n) t wr ∧ WF 5 [wb, b, mb] B w wr) (fun _ i _ => 19 - (intOf i).toNat)
  case atStart => exact ⟨0, by omega, rfl, by simpa using I3.out, G3.out⟩
  case round =>
    obtain ⟨k, hk, rfl, hiw, hwf⟩ := hrel
    have IW := Lib.hid hiw
    have FW := Lib.hid hwf
    clear hiw hwf I3 G3 B3
    by_cases hlt : k < 19
    · have hkb : decide ((k : Int) < 19) = true := by simp; omega
      have hi : ∀ W : World, _ := hix.out k hlt
      have hlo : k < os.length := by rw [HO.out]; exact hlt
      have hv : zs.getD k 0 = ((os[k] : Nat) : Int) := by rw [HZ.out]; simp [hlo]
      rw [hv] at hi
      have HT := Lib.hid (show (os.take (k + 1)).flatMap (fun (n : Nat) => le4 n) = (os.take k).flatMap (fun (n : Nat) => le4 n) ++ le4 (os[k] : Nat) from by rw [List.take_succ_eq_append_getElem hlo, List.flatMap_append]; simp)
      have hbd := HOB.out os[k] (List.getElem_mem hlo)
      have HL := Lib.hid (show (Y ++ (os.take k).flatMap fun (n : Nat) => le4 n).length ≤ 200 from by rw [List.length_append, HYL.out, flatMap_length (n := 4) _ (fun _ _ => rfl), List.length_take]; omega)
      generalize os[k] = x at *
      clear hv
      go_wp2_with fail
      refine (writer_Uint32 B wb b mb _ wr IW.out.wr IW.out.zs x (by omega) (by omega) (by have := HL.out; omega)).mono ?_
      rintro e w5 k5
      have m5 := WroteM.of_wrote IW.out k5
      obtain ⟨rfl, H5, F5⟩ := m5
      have I5 := Lib.hid H5
      have G5 := Lib.hid (FW.out.trans F5)
      clear k5 H5 F5 IW FW hi
      go_wp2_with fail
      go_roundw
      case rel => exact ⟨k + 1, by omega, by go_num, by rw [HT.out, ← List.append_assoc]; exact I5.out, G5.out⟩
      case measure => simp [intOf]; omega
    · obtain rfl : k = 19 := by omega
      go_wp2_with fail
      go_end0
      refine ⟨rfl, ?_, FW.out⟩
      have h := IW.out
      rw [HY.out, List.take_of_length_le (by rw [HO.out]; omega), sbs_magic] at h
      simpa [FM.hdr, List.append_assoc] using h
end Go.Proofs.YtajeinkkfggcbaaGreatDoor
