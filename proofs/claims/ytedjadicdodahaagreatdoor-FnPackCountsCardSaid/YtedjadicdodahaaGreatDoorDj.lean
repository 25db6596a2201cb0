/- What a package tells of itself: its path, its markers, how many elements, the fingerprint. -/
import Derived.Test.YtedjadicdodahaaGreatDoorDh
namespace Go.Proofs.YtedjadicdodahaaGreatDoor
open Go.RowKit

section
variable {pb : Nat} {v : Nat} {s : Bool} {path : ByteArray} {p : Pk} {fp : List UInt8} {sc : Value} {w : World}
theorem PkQ.drewN (h : PkQ pb v s path p fp sc w) (n : Nat) : PkQ pb v s path p fp sc (w.drewN n) := h.here (below_drewN (Below.refl _ _) n)
set_option maxRecDepth 100000 in
theorem pkgPath_any (h : PkQ pb v s path p fp sc w) : Calls Tryz.prog 39 #[.pointer (some ⟨pb, 0, none⟩)] w (RetQ (.string path) w) := by
  obtain ⟨g, c, hb, _, _, _⟩ := h.is
  have q1 : w.cell? ⟨pb, 2, none⟩ = some (.string path) := hb.cell 2
  clear h hb
  go_enter Tryz.func39, Tryz.ntmps39
  go_wp2
  go_ret
  exact ⟨rfl, 0, rfl⟩
set_option maxRecDepth 100000 in
theorem syncMarkers_any (h : PkQ pb v s path p fp sc w) : Calls Tryz.prog 40 #[.pointer (some ⟨pb, 0, none⟩)] w (RetQ (.bool s) w) := by
  obtain ⟨g, c, hb, _, _, _⟩ := h.is
  have q1 : w.cell? ⟨pb, 1, none⟩ = some (.bool s) := hb.cell 1
  clear h hb
  go_enter Tryz.func40, Tryz.ntmps40
  go_wp2
  go_ret
  exact ⟨rfl, 0, rfl⟩
set_option maxRecDepth 100000 in
theorem totalElems_any (h : PkQ pb v s path p fp sc w) : Calls Tryz.prog 41 #[.pointer (some ⟨pb, 0, none⟩)] w (RetQ (.int .i64 ((p.elems 10).length : Nat)) w) := by
  obtain ⟨g, c, hb, _, _, _⟩ := h.is
  have q1 : w.cell? ⟨pb, 4, none⟩ = some (.slice (some ⟨g, 0, none⟩) (p.elems 10).length c) := hb.cell 4
  clear h hb
  go_enter Tryz.func41, Tryz.ntmps41
  go_wp2
  go_ret
  exact ⟨rfl, 0, rfl⟩
end
theorem list8u {l : List UInt8} (h : l.length = 8) : ∃ a0 a1 a2 a3 a4 a5 a6 a7, l = [a0, a1, a2, a3, a4, a5, a6, a7] := by
  match l, h with
  | [a0, a1, a2, a3, a4, a5, a6, a7], _ => exact ⟨a0, a1, a2, a3, a4, a5, a6, a7, rfl⟩
abbrev zs8 : Array Value := #[.int .u8 0, .int .u8 0, .int .u8 0, .int .u8 0, .int .u8 0, .int .u8 0, .int .u8 0, .int .u8 0]
set_option maxRecDepth 100000 in
set_option maxHeartbeats 1000000 in
theorem fingerprint_any {pb : Nat} {v : Nat} {s : Bool} {path : ByteArray} {p : Pk} {fp : List UInt8} {sc : Value} {w : World} (h : PkQ pb v s path p fp sc w) (h8 : fp.length = 8) (hz : (szs (p.elems 10)).sum ≤ 100000000) :
    Calls Tryz.prog 42 #[.pointer (some ⟨pb, 0, none⟩)] w (RetV (.agg (Lib.byteCells fp).toArray) w) := by
  obtain ⟨a0, a1, a2, a3, a4, a5, a6, a7, rfl⟩ := list8u h8
  obtain ⟨g, c, hb, _, _, _⟩ := h.is
  have hdl : p.data.length = (szs (p.elems 10)).sum := dat_len (p.elems 10)
  have hd : (str (p.data ++ [a0, a1, a2, a3, a4, a5, a6, a7])).size = p.data.length + 8 := by rw [str_size, List.length_append, h8]
  have ht : (str (p.data ++ [a0, a1, a2, a3, a4, a5, a6, a7])).extract p.data.length (str (p.data ++ [a0, a1, a2, a3, a4, a5, a6, a7])).size = str [a0, a1, a2, a3, a4, a5, a6, a7] := str_tail _ _
  obtain ⟨D, hD⟩ : ∃ D, D = str (p.data ++ [a0, a1, a2, a3, a4, a5, a6, a7]) := ⟨_, rfl⟩
  obtain ⟨m, hm⟩ : ∃ m, m = p.data.length := ⟨_, rfl⟩
  have q3 : w.cell? ⟨pb, 3, none⟩ = some (.string D) := by rw [hD]; exact hb.cell 3
  rw [← hD, ← hm] at hd ht
  have HT := Lib.hid ht
  have m0 : (0 : Int) ≤ m := by omega
  have m1 : (m : Int) ≤ D.size := by omega
  have m2 : (D.size : Int) - 8 = m := by omega
  have m3 : (D.size : Int) ≤ 1000000000 := by omega
  have wm : IntKind.i64.wrap (m : Int) = m := by rw [IntKind.wrap_i64]; omega
  have hpb := hb.lt
  obtain ⟨w0, hw0⟩ : ∃ w0, w0 = (w.alloc (.cells zs8 30)).alloc (.cells zs8 30) := ⟨_, rfl⟩
  have b0 : Below w.heap.size w w0 := by rw [hw0]; exact Below.alloc (Below.alloc (Below.refl _ _) (Nat.le_refl _) _) (by simp) _
  have kA : Blk w0 w.heap.size 30 zs8 := by rw [hw0]; exact (Blk.new w _ _).alloc _
  have kP : Blk w0 (w.heap.size + 1) 30 zs8 := by rw [hw0]; exact Blk.new1 w _ _ _
  have r3 := keep_cell b0 q3
  have HW := Lib.hid hw0
  have B0 := Lib.hid b0
  have KA := Lib.hid kA
  have KP := Lib.hid kP
  have HF := Lib.hid h8
  clear h hb hdl hd ht hD hm hw0 b0 kA kP q3
  go_enter Tryz.func42, Tryz.ntmps42
  go_wp2_with fail
  rw [← HW.out]
  have hcp := run_copy_part_string (P := Tryz.prog) w0.drew 70 9 3 5 (w.heap.size + 1) 8 8 (D.extract m D.size) zs8 30 Tryz.underlying70 (by kernel_rfl) KP.out.drew (by rw [HT.out, str_size]; exact Nat.le_refl _) rfl
  rw [HT.out, str_list] at hcp
  replace hcp : (Builtin.copy_ #[70, 9] 3 #[.slice (some ⟨w.heap.size + 1, 0, none⟩) 8 8, .string (D.extract m D.size)]).run Tryz.prog w0.drew = .ok (.int .i64 8) (w0.drew.setRow (w.heap.size + 1) #[.int .u8 a0.toNat, .int .u8 a1.toNat, .int .u8 a2.toNat, .int .u8 a3.toNat, .int .u8 a4.toNat, .int .u8 a5.toNat, .int .u8 a6.toNat, .int .u8 a7.toNat]) := by rw [HT.out]; simpa [goInt, Lib.byteCells] using hcp
  obtain ⟨w2, hw2⟩ : ∃ w2, w2 = w0.drew.setRow (w.heap.size + 1) #[.int .u8 a0.toNat, .int .u8 a1.toNat, .int .u8 a2.toNat, .int .u8 a3.toNat, .int .u8 a4.toNat, .int .u8 a5.toNat, .int .u8 a6.toNat, .int .u8 a7.toNat] := ⟨_, rfl⟩
  have f2 : Fr [w.heap.size + 1] w0.drew w2 := by rw [hw2]; exact fr_setRow (Fr.refl _ _) (.inl (by simp)) _
  have g2 : Blk w2 (w.heap.size + 1) 30 #[.int .u8 a0.toNat, .int .u8 a1.toNat, .int .u8 a2.toNat, .int .u8 a3.toNat, .int .u8 a4.toNat, .int .u8 a5.toNat, .int .u8 a6.toNat, .int .u8 a7.toNat] := by rw [hw2]; exact setRow_heap _ _ _ _ _ _ KP.out.drew
  rw [← hw2] at hcp
  have d3 : w0.drew.cell? ⟨pb, 3, none⟩ = some (.string D) := r3
  have e3 : w2.cell? ⟨pb, 3, none⟩ = some (.string D) := f2.cell d3 (by simp; omega)
  have A2 := Lib.hid (KA.out.drew.fr f2 (by simp))
  have G2 := Lib.hid g2
  have B2 := Lib.hid (below_fr (B0.out.drew) f2 (fun q hq => by rw [List.mem_singleton.1 hq]; omega) B0.out.size)
  clear f2 g2 hw2
  go_region_held3 (fun W => W.cell? ⟨pb, 3, none⟩ = some (.string D)) (first | exact d3 | exact e3 | go_keep) (fail)
  all_goals
    have c0 := G2.out.cell 0
    have c1 := G2.out.cell 1
    have c2 := G2.out.cell 2
    have c3 := G2.out.cell 3
    have c4 := G2.out.cell 4
    have c5 := G2.out.cell 5
    have c6 := G2.out.cell 6
    have c7 := G2.out.cell 7
    have SZ : (Tryz.prog.info? 30).map (·.size) = some 8 := by kernel_rfl
    go_wp2_with (first | (refine wpList_store_row rfl 30 (.tmp 2) (.tmp 17) (by rfl) w.heap.size #[.int .u8 a0.toNat, .int .u8 a1.toNat, .int .u8 a2.toNat, .int .u8 a3.toNat, .int .u8 a4.toNat, .int .u8 a5.toNat, .int .u8 a6.toNat, .int .u8 a7.toNat] (by rfl) (by rfl) 30 _ A2.out SZ rfl (by simp [Value.oneCell']) ?_))
    have RZ : Blk (w2.setRow w.heap.size #[.int .u8 a0.toNat, .int .u8 a1.toNat, .int .u8 a2.toNat, .int .u8 a3.toNat, .int .u8 a4.toNat, .int .u8 a5.toNat, .int .u8 a6.toNat, .int .u8 a7.toNat]) w.heap.size 30 #[.int .u8 a0.toNat, .int .u8 a1.toNat, .int .u8 a2.toNat, .int .u8 a3.toNat, .int .u8 a4.toNat, .int .u8 a5.toNat, .int .u8 a6.toNat, .int .u8 a7.toNat] := setRow_heap _ _ _ _ _ _ A2.out
    refine bodyPost_ret (v := .agg #[.int .u8 a0.toNat, .int .u8 a1.toNat, .int .u8 a2.toNat, .int .u8 a3.toNat, .int .u8 a4.toNat, .int .u8 a5.toNat, .int .u8 a6.toNat, .int .u8 a7.toNat]) (results_cell_row rfl _ _ w.heap.size 30 #[.int .u8 a0.toNat, .int .u8 a1.toNat, .int .u8 a2.toNat, .int .u8 a3.toNat, .int .u8 a4.toNat, .int .u8 a5.toNat, .int .u8 a6.toNat, .int .u8 a7.toNat] (0, 0) _ rfl RZ Tryz.underlying30 rfl SZ) rfl ?_
    exact ⟨rfl, below_fr B2.out (fr_setRow (Fr.refl [w.heap.size] _) (.inl (by simp)) _) (fun q hq => by rw [List.mem_singleton.1 hq]; exact Nat.le_refl _) B2.out.size⟩
set_option maxRecDepth 100000 in
set_option maxHeartbeats 2000000 in
theorem facts_any {t : ByteArray} {v : Nat} {s : Bool} {p : Pk} {fp : List UInt8} {w : World} (path : ByteArray) (hT : PkT t v s p fp) (hG : Gv w) :
    Calls Tryz.prog 17 #[.string path, .string t] w (RetV (.tuple #[.string path, .bool s, .int .i64 ((p.elems 10).length : Nat), .agg (Lib.byteCells fp).toArray]) w) := by
  obtain ⟨a0, a1, a2, a3, a4, a5, a6, a7, rfl⟩ := list8u hT.fp8
  have ND := Lib.hid (fun (W : World) (hb : Below w.heap.size w W) => newPkgDecoder_any path t v s p _ W hT.eq hT.fp8 hT.ver hT.syn hT.one hT.cnt hT.siz (hG.here hb).i (hG.here hb).r)
  have HT := Lib.hid hT
  obtain ⟨w0, hw0⟩ : ∃ w0, w0 = w.alloc (.cells zs8 30) := ⟨_, rfl⟩
  have b0 : Below w.heap.size w w0 := by rw [hw0]; exact Below.alloc (Below.refl _ _) (Nat.le_refl _) _
  have KA := Lib.hid (show Blk w0 w.heap.size 30 zs8 by rw [hw0]; exact Blk.new _ _ _)
  have HW := Lib.hid hw0
  have B0 := Lib.hid b0
  clear hT hG hw0 b0
  go_enter Tryz.func17, Tryz.ntmps17
  go_wp2_with fail
  rw [← HW.out]
  refine (ND.out w0 B0.out).mono ?_
  rintro e w1 ⟨g, c, rfl, hc, _, hcl, b1⟩
  have P1 := PkQ.new (v := v) (s := s) (path := path) (fp := [a0, a1, a2, a3, a4, a5, a6, a7]) hc hcl HT.out.one
  have B1 := below_from B0.out b1
  have K1 := KA.out.here b1
  obtain ⟨w2, hw2⟩ : ∃ w2, w2 = w1.alloc (.cells (rdArr v s path (str (p.data ++ [a0, a1, a2, a3, a4, a5, a6, a7])) (.slice (some ⟨g, 0, none⟩) (p.elems 10).length c) (fun k => (p.elems (k + 1)).length) (.slice none 0 0)) 81) := ⟨_, rfl⟩
  have B2 := Lib.hid (show Below w.heap.size w w2 from by rw [hw2]; exact B1.alloc B1.size _)
  have K2 := Lib.hid (show Blk w2 w.heap.size 30 zs8 from by rw [hw2]; exact K1.alloc _)
  rw [← hw2] at P1
  have PD := Lib.hid P1
  have HW2 := Lib.hid hw2
  clear hc hcl b1 ND P1 B1 K1 hw2
  go_wp2_with fail
  rw [← HW2.out]
  refine (pkgPath_any PD.out).mono ?_
  rintro e w3 ⟨rfl, n3, rfl⟩
  go_wp2_with fail
  refine (syncMarkers_any (PD.out.drewN n3)).mono ?_
  rintro e w4 ⟨rfl, n4, rfl⟩
  go_wp2_with fail
  refine (totalElems_any (PD.out.drewN _)).mono ?_
  rintro e w5 ⟨rfl, n5, rfl⟩
  go_wp2_with fail
  refine (show Calls Tryz.prog 42 #[.pointer (some ⟨w1.heap.size, 0, none⟩)] (w2.drewN (n3 + n4 + n5)) (RetV (.agg #[.int .u8 a0.toNat, .int .u8 a1.toNat, .int .u8 a2.toNat, .int .u8 a3.toNat, .int .u8 a4.toNat, .int .u8 a5.toNat, .int .u8 a6.toNat, .int .u8 a7.toNat]) (w2.drewN (n3 + n4 + n5))) from fingerprint_any (PD.out.drewN _) HT.out.fp8 HT.out.siz).mono ?_
  rintro e w6 ⟨rfl, b6⟩
  have K6 := (K2.out.drewN (n3 + n4 + n5)).here b6
  have B6 := Lib.hid (below_from (below_drewN B2.out (n3 + n4 + n5)) b6)
  have SZ : (Tryz.prog.info? 30).map (·.size) = some 8 := by kernel_rfl
  have KK := Lib.hid K6
  clear b6 K6
  go_wp2_with (first | (refine wpList_store_row rfl 30 (.tmp 7) (.tmp 15) (by rfl) w.heap.size #[.int .u8 a0.toNat, .int .u8 a1.toNat, .int .u8 a2.toNat, .int .u8 a3.toNat, .int .u8 a4.toNat, .int .u8 a5.toNat, .int .u8 a6.toNat, .int .u8 a7.toNat] (by rfl) (by rfl) 30 _ KK.out SZ rfl (by simp [Value.oneCell']) ?_))
  obtain ⟨w7, hw7⟩ : ∃ w7, w7 = w6.setRow w.heap.size #[.int .u8 a0.toNat, .int .u8 a1.toNat, .int .u8 a2.toNat, .int .u8 a3.toNat, .int .u8 a4.toNat, .int .u8 a5.toNat, .int .u8 a6.toNat, .int .u8 a7.toNat] := ⟨_, rfl⟩
  have RZ : Blk w7 w.heap.size 30 #[.int .u8 a0.toNat, .int .u8 a1.toNat, .int .u8 a2.toNat, .int .u8 a3.toNat, .int .u8 a4.toNat, .int .u8 a5.toNat, .int .u8 a6.toNat, .int .u8 a7.toNat] := by rw [hw7]; exact setRow_heap _ _ _ _ _ _ KK.out
  have BB : Below w.heap.size w w7 := by rw [hw7]; exact below_fr B6.out (fr_setRow (Fr.refl [w.heap.size] _) (.inl (by simp)) _) (fun q hq => by rw [List.mem_singleton.1 hq]; exact Nat.le_refl _) B6.out.size
  rw [← hw7]
  clear hw7
  have z0 : w7.cell? ⟨w.heap.size, 0, none⟩ = some (.int .u8 a0.toNat) := RZ.cell 0
  have z1 : w7.cell? ⟨w.heap.size, 1, none⟩ = some (.int .u8 a1.toNat) := RZ.cell 1
  have z2 : w7.cell? ⟨w.heap.size, 2, none⟩ = some (.int .u8 a2.toNat) := RZ.cell 2
  have z3 : w7.cell? ⟨w.heap.size, 3, none⟩ = some (.int .u8 a3.toNat) := RZ.cell 3
  have z4 : w7.cell? ⟨w.heap.size, 4, none⟩ = some (.int .u8 a4.toNat) := RZ.cell 4
  have z5 : w7.cell? ⟨w.heap.size, 5, none⟩ = some (.int .u8 a5.toNat) := RZ.cell 5
  have z6 : w7.cell? ⟨w.heap.size, 6, none⟩ = some (.int .u8 a6.toNat) := RZ.cell 6
  have z7 : w7.cell? ⟨w.heap.size, 7, none⟩ = some (.int .u8 a7.toNat) := RZ.cell 7
  refine bodyPost_ret (v := .tuple #[.string path, .bool s, .int .i64 ((p.elems 10).length : Nat), .agg #[.int .u8 a0.toNat, .int .u8 a1.toNat, .int .u8 a2.toNat, .int .u8 a3.toNat, .int .u8 a4.toNat, .int .u8 a5.toNat, .int .u8 a6.toNat, .int .u8 a7.toNat]]) (by simp [results, Tryz.results17, Act.put, asAddr, run_loadVar_row w7 w.heap.size 30 30 #[.int .u8 a0.toNat, .int .u8 a1.toNat, .int .u8 a2.toNat, .int .u8 a3.toNat, .int .u8 a4.toNat, .int .u8 a5.toNat, .int .u8 a6.toNat, .int .u8 a7.toNat] (0, 0) _ RZ Tryz.underlying30 rfl SZ]) rfl ?_
  exact ⟨rfl, BB⟩
end Go.Proofs.YtedjadicdodahaaGreatDoor
