/- What is read out of an object file: hashes, flags, names, the head, bytes. (printed by gen_implb.py) -/
import Derived.Great.Walk
import Derived.Test.YtimdaolbdgafcaaDoorPart
import Derived.Test.YtimdaolbdgafcaaDoorBlocks
import Derived.Test.YtimdaolbdgafcaaDoorTold
import Derived.Test.YtimdaolbdgafcaaDoorImplA
namespace Go.Proofs.YtimdaolbdgafcaaDoor
open Go.RowKit

section
variable {f : FM} {ro : Bool} {g d o c : Nat} {w : World} (R : Rdr f ro g d o c w) (S : f.Small)
include R S
theorem rdU64 (p : Nat) (v : Int) (k : Has f.bytes p (le8 v)) (v0 : 0 ≤ v) (v1 : v < 18446744073709551616) (m : Nat) : Calls Tryd.prog 122 #[.pointer (some ⟨g, 0, none⟩), .int .u32 p] (w.drewN m) (RetQ (.int .u64 v) (w.drewN m)) := by
  have hp := k.le (by show 0 < 8; omega)
  have hn := S.len_le.1
  have h8 : (le8 v).length = 8 := rfl
  rw [h8] at hp
  have B := Lib.hid (bytesAt_any (w := w.drewN m) R.b R.cap (by omega) p 8 (by omega) hp)
  have L := Lib.hid (fun j => show Calls Tryd.prog 146 #[.slice (some ⟨d, o + p, none⟩) 8 8] ((w.drewN m).drewN j) (RetQ (.int .u64 v) ((w.drewN m).drewN j)) from by
    have h := (R.at_.drewN m).has k
    have r := le64_at d (o + p) 8 8 v ((w.drewN m).drewN j) (by omega) (by omega) (h 0 _ rfl) (h 1 _ rfl) (h 2 _ rfl) (h 3 _ rfl) (h 4 _ rfl) (h 5 _ rfl) (h 6 _ rfl) (h 7 _ rfl)
    rwa [show v % 18446744073709551616 = v from by omega] at r)
  obtain ⟨w0, hw0⟩ : ∃ w0, w0 = w.drewN m := ⟨_, rfl⟩
  rw [← hw0] at B L ⊢
  clear R S k hp hn h8 hw0
  go_enter Tryd.func122, Tryd.ntmps122
  go_wp2_with fail
  refine B.out.mono ?_
  rintro e w1 ⟨rfl, n1, rfl⟩
  go_wp2_with fail
  refine (L.out n1).mono ?_
  rintro e w2 ⟨rfl, n2, rfl⟩
  go_wp2_with fail
  go_ret
  exact ⟨rfl, n1 + n2, rfl⟩
set_option maxRecDepth 100000 in
theorem rdHash64_any (hf : ∀ x ∈ f.h64.l, 0 ≤ x ∧ x < 18446744073709551616) (i : Nat) (hi : i < f.h64.l.length) : Calls Tryd.prog 64 #[.pointer (some ⟨g, 0, none⟩), .int .u32 i] w (RetQ (.int .u64 f.h64.l[i]) w) := by
  have c1 := R.offs 9 (by omega)
  have b1 := S.at_le 9
  have hl : f.h64.l.length ≤ 60 := by have := S.h64; have := S.short_le; omega
  have hv := hf _ (List.getElem_mem hi)
  have U := Lib.hid (fun m => rdU64 R S (f.at_ 9 + 8 * i) f.h64.l[i] (FM.has_h64 S i hi) hv.1 hv.2 m)
  generalize f.h64.l[i] = v at *
  generalize f.at_ 9 = x at *
  obtain ⟨p, hp⟩ : ∃ p, p = x + 8 * i := ⟨_, rfl⟩
  rw [← hp] at U
  have HP := Lib.hid (show (x : Int) + (i : Int) * 8 = (p : Int) from by omega)
  have j1 : (0 : Int) ≤ x := by omega
  have j2 : (x : Int) ≤ 110000 := by omega
  have j3 : (0 : Int) ≤ i := by omega
  have j4 : (i : Int) ≤ 60 := by omega
  clear R S b1 hi hl hp hv hf
  go_enter Tryd.func64, Tryd.ntmps64
  go_upto_region 2 with fail
  rw [HP.out]
  go_wp2_with fail
  refine (U.out 0).mono ?_
  rintro e w1 ⟨rfl, n1, rfl⟩
  go_wp2_with fail
  go_ret
  exact ⟨rfl, _, rfl⟩
set_option maxHeartbeats 400000 in
omit R S in
theorem atRefName_Sym (q d : Nat) (p y : Int) (rest : List Int) (w : World) (h : At w d q ((le4 p ++ le4 y) ++ rest)) (hd : d < w.heap.size) (p0 : 0 ≤ p) (p1 : p < 4294967296) (y0 : 0 ≤ y) (y1 : y < 4294967296) : Calls Tryd.prog 90 #[.pointer (some ⟨d, q, none⟩)] w (RetV (.agg #[.int .u32 p, .int .u32 y]) w) := by
  have L0 : ∀ (W : World), W.heap = (w.alloc (.cells #[.int .u32 0, .int .u32 0] 150)).heap → Calls Tryd.prog 129 #[.slice (some ⟨d, q, none⟩) 16 16] W (RetQ (.int .u32 p) W) := fun W hW => by
    have hx := h.heapEq _ hd hW
    exact le32_cells _ _ _ W (by omega) p0 p1 (fun j z hz => hx j z (by rw [List.append_assoc, List.getElem?_append_left (List.getElem?_eq_some_iff.1 hz).1]; exact hz))
  have L1 : ∀ (W : World), W.heap = (w.alloc (.cells #[.int .u32 0, .int .u32 0] 150)).heap → Calls Tryd.prog 129 #[.slice (some ⟨d, q + 4, none⟩) 12 12] W (RetQ (.int .u32 y) W) := fun W hW => by
    have hx := h.heapEq _ hd hW
    exact le32_cells _ _ _ W (by omega) y0 y1 (hx.has (((Has.refl (le4 p ++ le4 y ++ rest)).left).right rfl))
  have H0 := Lib.hid L0
  have H1 := Lib.hid L1
  clear h L0 L1
  go_enter Tryd.func90, Tryd.ntmps90
  go_wp2_with fail
  go_region_held3 (fun _ => True) (first | trivial | go_keep)
    (first | (go_at_call 129; (with_reducible refine (H0.out _ ?_).mono ?_); rfl; rintro e w1 ⟨rfl, n1, rfl⟩) | (go_at_call 129; (with_reducible refine (H1.out _ ?_).mono ?_); rfl; rintro e w1 ⟨rfl, n2, rfl⟩))
  go_wp2_with fail
  exact bodyPost_ret (v := .agg #[.int .u32 p, .int .u32 y]) (by simp [results, Tryd.results90, go_sem]) rfl ⟨rfl, by (repeat' (first | (with_reducible exact Below.refl _ _) | (with_reducible assumption) | (with_reducible refine below_drewN ?_ _) | (with_reducible refine Below.alloc ?_ ?_ _) | (with_reducible refine Below.drew ?_) | (with_reducible refine Below.setCell ?_ ?_ _) | go_size))⟩
set_option maxRecDepth 100000 in
theorem rdRefNameName (q d' : Nat) (s : ByteArray) (h : At w d' (q + 8) (f.sref s)) (hs : s ∈ f.names) : Calls Tryd.prog 91 #[.pointer (some ⟨d', q, none⟩), .pointer (some ⟨g, 0, none⟩)] w (RetQ (.string s) w) := by
  have h1 := FM.has_str S s hs
  have h2 := S.names s hs
  have L0 := Lib.hid (le32_cells (d := d') (q := q + 8) 8 8 s.size w (by omega) (by omega) (by omega) (h.has (Has.refl (f.sref s)).left))
  have L1 := Lib.hid (fun m => le32_cells (d := d') (q := q + 12) 4 4 (f.off s) (w.drewN m) (by omega) (by omega) (by omega) ((h.drewN m).has (p := 4) ((Has.refl (f.sref s)).right rfl)))
  have ST := Lib.hid (fun m => rdStr R S (f.off s) s h1.1 h1.2.1 m)
  clear R S h1 h2 h hs
  go_enter Tryd.func91, Tryd.ntmps91
  go_wp2_with fail
  refine L0.out.mono ?_
  rintro e w1 ⟨rfl, n1, rfl⟩
  go_wp2_with fail
  refine (L1.out n1).mono ?_
  rintro e w1 ⟨rfl, n2, rfl⟩
  go_wp2_with fail
  refine (ST.out _).mono ?_
  rintro e w1 ⟨rfl, n3, rfl⟩
  go_wp2_with fail
  go_ret
  exact ⟨rfl, n1 + n2 + n3, by simp [Nat.add_assoc]⟩
end

section
variable {f : FM} {d o n c : Nat} {w : World} (D : Dat f d o n c w)
include D
theorem fileHash64_any (hf : ∀ x ∈ f.h64.l, 0 ≤ x ∧ x < 18446744073709551616) (i : Nat) (hi : i < f.h64.l.length) : Calls Tryd.prog 26 #[.slice (some ⟨d, o, none⟩) n c, .int .u32 i] w (RetV (.int .u64 f.h64.l[i]) w) := by
  have HD := Lib.hid D
  have SM := Lib.hid D.S
  have H := Lib.hid (fun (W : World) (g : Nat) (R : Rdr f false g d o c W) => rdHash64_any R D.S hf i hi)
  generalize f.h64.l[i] = v at *
  clear D hf hi
  go_enter Tryd.func26, Tryd.ntmps26
  go_wp2_with fail
  refine (HD.out.reader false).mono ?_
  rintro e w1 ⟨g, rfl, _, R1, hb1⟩
  have R := Lib.hid R1
  have B1 := Lib.hid (hb1)
  clear R1 hb1
  go_wp2_with fail
  refine (H.out _ _ R.out).mono ?_
  rintro e w2 ⟨rfl, m, rfl⟩
  go_wp2_with fail
  go_ret
  exact ⟨rfl, below_drewN B1.out m⟩
set_option maxRecDepth 100000 in
set_option maxHeartbeats 1000000 in
theorem fileHash_any (i : Nat) (hi : i < f.hs.l.length) : Calls Tryd.prog 27 #[.slice (some ⟨d, o, none⟩) n c, .int .u32 i] w (RetV (.agg (hashCells f.hs.l[i]).toArray) w) := by
  have hb0 := later_alloc w (.cells #[.int .u8 0, .int .u8 0, .int .u8 0, .int .u8 0, .int .u8 0, .int .u8 0, .int .u8 0, .int .u8 0, .int .u8 0, .int .u8 0, .int .u8 0, .int .u8 0, .int .u8 0, .int .u8 0, .int .u8 0, .int .u8 0] 60)
  have HD := Lib.hid (D.here hb0)
  have RS := Lib.hid (Blk.new w 60 #[.int .u8 0, .int .u8 0, .int .u8 0, .int .u8 0, .int .u8 0, .int .u8 0, .int .u8 0, .int .u8 0, .int .u8 0, .int .u8 0, .int .u8 0, .int .u8 0, .int .u8 0, .int .u8 0, .int .u8 0, .int .u8 0])
  have B0 := Lib.hid hb0
  have hx16 := D.S.hsf _ (List.getElem_mem hi)
  have H := Lib.hid (fun (W : World) (g : Nat) (R : Rdr f false g d o c W) => rdHash_any R D.S i hi)
  have T := Lib.hid (fun (W : World) (hW : Dat f d o n c W) => show ∀ j v, (hashCells f.hs.l[i])[j]? = some v → W.cell? ⟨d, o + (f.at_ 10 + 16 * i) + j, none⟩ = some v from fun j v hv => by
    rw [List.getElem?_map, Option.map_eq_some_iff] at hv
    obtain ⟨z, hz, rfl⟩ := hv
    exact (hW.at_.has (FM.has_hs D.S i hi)) j z hz)
  generalize f.hs.l[i] = x at *
  generalize o + (f.at_ 10 + 16 * i) = q at *
  have HX := Lib.hid hx16
  have I16 := Lib.hid (show (Tryd.prog.info? 60).map (·.size) = some 16 from by kernel_rfl)
  have I16h := Lib.hid (show (Tryd.prog.info? 121).map (·.size) = some 16 from by kernel_rfl)
  have XS := Lib.hid (show (hashCells x).toArray.size = 16 from by rw [List.size_toArray, hashCells, List.length_map, HX.out])
  have I16x := Lib.hid (show (Tryd.prog.info? 60).map (·.size) = some (hashCells x).toArray.size from by rw [XS.out]; exact I16.out)
  have HOLD := Lib.hid (show (#[.int .u8 0, .int .u8 0, .int .u8 0, .int .u8 0, .int .u8 0, .int .u8 0, .int .u8 0, .int .u8 0, .int .u8 0, .int .u8 0, .int .u8 0, .int .u8 0, .int .u8 0, .int .u8 0, .int .u8 0, .int .u8 0] : Array Value).size = (hashCells x).toArray.size from by rw [XS.out]; rfl)
  have I16y := Lib.hid (show (Tryd.prog.info? 121).map (·.size) = some (hashCells x).length from by rw [hashCells, List.length_map, HX.out]; exact I16h.out)
  have ONE := Lib.hid (show (hashCells x).toArray.all (·.oneCell') = true from by
    rw [Array.all_eq_true_iff_forall_mem]
    intro v hv
    obtain ⟨z, _, rfl⟩ := List.mem_map.1 (List.mem_toArray.1 hv)
    rfl)
  obtain ⟨w0, hw0⟩ : ∃ w0, w0 = w.alloc (.cells #[.int .u8 0, .int .u8 0, .int .u8 0, .int .u8 0, .int .u8 0, .int .u8 0, .int .u8 0, .int .u8 0, .int .u8 0, .int .u8 0, .int .u8 0, .int .u8 0, .int .u8 0, .int .u8 0, .int .u8 0, .int .u8 0] 60) := ⟨_, rfl⟩
  rw [← hw0] at HD RS B0
  have HW0 := Lib.hid hw0
  clear D hb0 hi hx16 hw0
  go_enter Tryd.func27, Tryd.ntmps27
  go_wp2_with (refine Go.Great.wpList_allocTo rfl (some 4) (by rfl) (.pointer (some ⟨w.heap.size, 0, none⟩)) (.cells #[.int .u8 0, .int .u8 0, .int .u8 0, .int .u8 0, .int .u8 0, .int .u8 0, .int .u8 0, .int .u8 0, .int .u8 0, .int .u8 0, .int .u8 0, .int .u8 0, .int .u8 0, .int .u8 0, .int .u8 0, .int .u8 0] 60) (by as_aux_lemma => kernel_rfl) ?_; rw [← HW0.out])
  refine (HD.out.reader false).mono ?_
  rintro e w1 ⟨g, rfl, _, R1, hb1⟩
  have R := Lib.hid R1
  have B1 := Lib.hid (below_from B0.out hb1)
  have RS1 := Lib.hid (RS.out.here hb1)
  have D1 := Lib.hid (HD.out.here hb1)
  clear R1 hb1 HW0 B0 RS HD
  go_wp2_with fail
  refine (H.out _ _ R.out).mono ?_
  rintro e w2 ⟨rfl, m, rfl⟩
  go_wp2_with (first | (refine wpList_load_part rfl 121 (.tmp 9) rfl d q rfl (hashCells x) _ (T.out _ (D1.out.drewN m)) Tryd.underlying121 rfl I16y.out ?_) | (refine wpList_store_row rfl 60 (.tmp 4) (.tmp 10) rfl w.heap.size (hashCells x).toArray (by rfl) (by rfl) 60 #[.int .u8 0, .int .u8 0, .int .u8 0, .int .u8 0, .int .u8 0, .int .u8 0, .int .u8 0, .int .u8 0, .int .u8 0, .int .u8 0, .int .u8 0, .int .u8 0, .int .u8 0, .int .u8 0, .int .u8 0, .int .u8 0] (RS1.out.drewN m) I16x.out HOLD.out ONE.out ?_))
  have RE := Lib.hid ((RS1.out.drewN m).setRow (hashCells x).toArray)
  have FE := Lib.hid ((Fr.refl [w.heap.size] (w1.drewN m)).setRow (g := w.heap.size) (by simp) (hashCells x).toArray)
  exact bodyPost_ret (v := .agg (hashCells x).toArray) (results_cell_row rfl _ _ w.heap.size 60 (hashCells x).toArray (0, 0) _ rfl RE.out Tryd.underlying60 rfl I16x.out) rfl ⟨rfl, (below_drewN B1.out m).trans ⟨FE.out.os, FE.out.tape, FE.out.output, FE.out.size, fun k hk => FE.out.block k (by have := B1.out.size; show k < w1.heap.size; omega) (by simp; omega)⟩⟩
set_option maxHeartbeats 400000 in
theorem fileRefFlags_any (hf : ∀ x ∈ f.rf.l, x.Ok) (i : Nat) (hi : i < f.rf.l.length) : Calls Tryd.prog 37 #[.slice (some ⟨d, o, none⟩) n c, .int .i64 i] w (RetV (.agg (Fl.cells f.rf.l[i]).toArray) w) := by
  have hb0 := later_alloc w (.cells #[.int .u32 0, .int .u32 0, .int .u8 0, .int .u8 0] 80)
  have HD := Lib.hid (D.here hb0)
  have RS := Lib.hid (Blk.new w 80 #[.int .u32 0, .int .u32 0, .int .u8 0, .int .u8 0])
  have B0 := Lib.hid hb0
  have SM := Lib.hid D.S
  have H := Lib.hid (fun (W : World) (g : Nat) (R : Rdr f false g d o c W) => rdRefFlags_any R D.S i hi)
  have T := Lib.hid (fun (W : World) (m : Nat) (hW : Dat f d o n c W) => toldFlags_at (o + (f.at_ 8 + 10 * i)) d f.rf.l[i] (W.drewN m) ((hW.at_.drewN m).has (FM.has_rf D.S i hi)) hW.lt (hf _ (List.getElem_mem hi)))
  generalize f.rf.l[i] = x at *
  generalize o + (f.at_ 8 + 10 * i) = q at *
  clear D hb0 hf hi
  go_enter Tryd.func37, Tryd.ntmps37
  go_wp2_with fail
  refine (HD.out.reader false).mono ?_
  rintro e w1 ⟨g, rfl, _, R1, hb1⟩
  have R := Lib.hid R1
  have B1 := Lib.hid (below_from B0.out hb1)
  have RS1 := Lib.hid (RS.out.here hb1)
  have D1 := Lib.hid (HD.out.here hb1)
  clear R1 hb1
  go_wp2_with fail
  refine (H.out _ _ R.out).mono ?_
  rintro e w2 ⟨rfl, m, rfl⟩
  go_wp2_with fail
  refine (T.out _ m D1.out).mono ?_
  rintro e w3 ⟨rfl, hb3⟩
  have RS3 := Lib.hid ((RS1.out.drewN m).here hb3)
  have B3 := Lib.hid (below_from (below_drewN B1.out m) hb3)
  clear hb3
  have rc := RS3.out.cell
  have rf := RS3.out.frozen
  go_wp2_with fail
  have hrc := RS3.out.lt
  have hB := B3.out
  exact bodyPost_ret (v := .agg (Fl.cells x).toArray) (by simp [results, Tryd.results37, go_sem, rc]) rfl ⟨rfl, by (repeat' (first | (with_reducible exact Below.refl _ _) | (with_reducible assumption) | (with_reducible refine below_drewN ?_ _) | (with_reducible refine Below.alloc ?_ ?_ _) | (with_reducible refine Below.drew ?_) | (with_reducible refine Below.setCell ?_ ?_ _) | go_size))⟩
set_option maxHeartbeats 400000 in
theorem fileRefName_any (hf : ∀ x ∈ f.rn.l, (0 ≤ x.pkg ∧ x.pkg < 4294967296) ∧ (0 ≤ x.sym ∧ x.sym < 4294967296) ∧ x.name.size ≤ maxLen) (i : Nat) (hi : i < f.rn.l.length) : Calls Tryd.prog 38 #[.slice (some ⟨d, o, none⟩) n c, .int .i64 i] w (RetV (.agg (Nm.cells f.rn.l[i]).toArray) w) := by
  have hb0 := later_alloc w (.cells #[.int .u32 0, .int .u32 0, .string ⟨#[]⟩] 83)
  have HD := Lib.hid (D.here hb0)
  have RS := Lib.hid (Blk.new w 83 #[.int .u32 0, .int .u32 0, .string ⟨#[]⟩])
  have B0 := Lib.hid hb0
  have SM := Lib.hid D.S
  have ok := hf _ (List.getElem_mem hi)
  have H := Lib.hid (fun (W : World) (g : Nat) (R : Rdr f false g d o c W) => rdRefName_any R D.S i hi)
  have T := Lib.hid (fun (W : World) (m : Nat) (hW : Dat f d o n c W) => atRefName_Sym (o + (f.at_ 17 + 16 * i)) d f.rn.l[i].pkg f.rn.l[i].sym _ (W.drewN m) ((hW.at_.drewN m).has (FM.has_rn D.S i hi)) hW.lt ok.1.1 ok.1.2 ok.2.1.1 ok.2.1.2)
  have N := Lib.hid (fun (W : World) (g : Nat) (R : Rdr f false g d o c W) => rdRefNameName R D.S (o + (f.at_ 17 + 16 * i)) d f.rn.l[i].name (by
    have h := (R.at_.has (FM.has_rn D.S i hi)).has (p := 8) ((Has.refl (f.nmB f.rn.l[i])).right rfl)
    exact h) (FM.rn_name f i hi))
  generalize f.rn.l[i] = x at *
  generalize o + (f.at_ 17 + 16 * i) = q at *
  clear D hb0 hf hi ok
  go_enter Tryd.func38, Tryd.ntmps38
  go_wp2_with fail
  refine (HD.out.reader false).mono ?_
  rintro e w1 ⟨g, rfl, _, R1, hb1⟩
  have R := Lib.hid R1
  have B1 := Lib.hid (below_from B0.out hb1)
  have RS1 := Lib.hid (RS.out.here hb1)
  have D1 := Lib.hid (HD.out.here hb1)
  clear R1 hb1
  go_wp2_with fail
  refine (H.out _ _ R.out).mono ?_
  rintro e w2 ⟨rfl, m, rfl⟩
  go_wp2_with fail
  refine (T.out _ m D1.out).mono ?_
  rintro e w3 ⟨rfl, hb3⟩
  have RS3 := Lib.hid ((RS1.out.drewN m).here hb3)
  have B3 := Lib.hid (below_from (below_drewN B1.out m) hb3)
  have R3 := Lib.hid ((R.out.drewN m).here hb3)
  clear hb3
  go_wp2_with fail
  refine (told_any x.pkg x.sym _).mono ?_
  rintro e w4 ⟨rfl, hb4⟩
  have RS4 := Lib.hid (RS3.out.here hb4)
  have B4 := Lib.hid (below_from B3.out hb4)
  have R4 := Lib.hid (R3.out.here hb4)
  clear hb4
  go_wp2_with fail
  refine (N.out _ _ R4.out).mono ?_
  rintro e w5 ⟨rfl, m5, rfl⟩
  have rc := RS4.out.cell
  have rf := RS4.out.frozen
  go_wp2_with fail
  have hrc := RS4.out.lt
  have hB := B4.out
  exact bodyPost_ret (v := .agg (Nm.cells x).toArray) (by simp [results, Tryd.results38, go_sem, rc]) rfl ⟨rfl, by (repeat' (first | (with_reducible exact Below.refl _ _) | (with_reducible assumption) | (with_reducible refine below_drewN ?_ _) | (with_reducible refine Below.alloc ?_ ?_ _) | (with_reducible refine Below.drew ?_) | (with_reducible refine Below.setCell ?_ ?_ _) | go_size))⟩
end
end Go.Proofs.YtimdaolbdgafcaaDoor
