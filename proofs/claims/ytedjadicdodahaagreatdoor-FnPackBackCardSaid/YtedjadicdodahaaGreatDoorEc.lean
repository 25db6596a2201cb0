/- An element unpacked by a reader that is given back. (printed by gen_pec.py) -/
import Derived.Test.YtedjadicdodahaaGreatDoorQEb
namespace Go.Proofs.YtedjadicdodahaaGreatDoor
open Go.RowKit

theorem PkQ.set15 {pb v : Nat} {s : Bool} {path : ByteArray} {p : Pk} {fp : List UInt8} {sc : Value} {w : World} (h : PkQ pb v s path p fp sc w) (sc' : Value) : PkQ pb v s path p fp sc' (w.setCell ⟨pb, 15, none⟩ sc') := by
  obtain ⟨g, c, h1, h2, h3, h4⟩ := h.is
  exact ⟨g, c, h1.set_ 15 sc', h2, h3, fun j hj => ((Fr.refl [pb] w).setCell (.inl (by simp)) _).cell (h4 j hj) (by simpa using h3)⟩
theorem PkQ.c15 {pb v : Nat} {s : Bool} {path : ByteArray} {p : Pk} {fp : List UInt8} {sc : Value} {w : World} (h : PkQ pb v s path p fp sc w) : w.cell? ⟨pb, 15, none⟩ = some sc ∧ w.frozen? ⟨pb, 15, none⟩ = false ∧ pb < w.heap.size := by
  obtain ⟨g, c, h1, h2, h3, h4⟩ := h.is
  exact ⟨h1.cell 15, h1.frozen 15, h1.lt⟩
/-- What a new reader leaves. -/
def TmpOut (pb v : Nat) (s : Bool) (path : ByteArray) (p : Pk) (fp : List UInt8) (rs : List (Int × Int)) (t : ByteArray) (k i P : Nat) (w : World) (e : Ending) (w' : World) : Prop :=
  ∃ (A : Option Addr) (c : Nat) (pr : Int), e = .returned (.agg (dArr pb (.slice A rs.length c) t P pr k i)) ∧ SlR 2 w' A (rs.map fun r => [.int .i32 r.1, .int .i32 r.2]) ∧ (∀ a, A = some a → w.heap.size ≤ a.block) ∧ PkQ pb v s path p fp (.slice none 0 0) w' ∧ Fr [pb] w w'
set_option maxRecDepth 100000 in
set_option maxHeartbeats 4000000 in
theorem tempDecoderRaw_pos {pb v : Nat} {s : Bool} {path : ByteArray} {p : Pk} {fp : List UInt8} {w : World} (h : PkQ pb v s path p fp (.slice none 0 0) w) (k i : Nat) (hk : k < 10) (hi : i < (p k).length) (hn : (p.elems 10).length ≤ 1000000) (hz : (szs (p.elems 10)).sum ≤ 100000000) (rs : List (Int × Int)) (ds : List UInt8) (ht : (p k)[i] = str (refsB s rs ++ ds)) (hr : ∀ r ∈ rs, (0 ≤ r.1 ∧ r.1 ≤ 2147483647) ∧ (0 ≤ r.2 ∧ r.2 ≤ 2147483647)) (hl : rs.length ≤ 1000000) (h1 : 1 ≤ rs.length) :
    Calls Tryz.prog 103 #[.pointer (some ⟨pb, 0, none⟩), .int .i32 k, .int .i32 i] w (TmpOut pb v s path p fp rs (p k)[i] k i (refsB s rs).length w) := by
  have hsz := Pk.at_size hk hi
  have HPK := Lib.hid h
  have DI := Lib.hid (fun (W : World) (hb : Below w.heap.size w W) => dataIdx_any (h.here hb) k i hk hi hn hz)
  obtain ⟨t, ht9⟩ : ∃ t, t = (p k)[i] := ⟨_, rfl⟩
  rw [← ht9] at DI hsz ht ⊢
  obtain ⟨n, hn9⟩ : ∃ n, n = rs.length := ⟨_, rfl⟩
  have sat : Sat t 0 (refsB s rs) := by rw [ht]; exact (Sat.all _).left
  have sat2 : Sat t 0 (sy s 8 ++ (eU s n ++ rs.flatMap (refB s))) := by rw [hn9]; exact sat
  have SA0 := Lib.hid sat2.left
  have SA1 := Lib.hid sat2.right.left
  have SA2 := Lib.hid sat2.right.right
  have HE := Lib.hid (show (refsB s rs).length = 0 + (sy s 8).length + (eU s n).length + (rs.flatMap (refB s)).length from by
    show (sy s 8 ++ (eU s rs.length ++ rs.flatMap (refB s))).length = _
    rw [hn9]
    simp only [List.length_append]
    omega)
  have HSY := Lib.hid (show w.cell? ⟨pb, 1, none⟩ = some (.bool s) from by
    obtain ⟨_, _, hb, _⟩ := h.is
    exact hb.cell 1)
  have zpb : pb < w.heap.size := by
    obtain ⟨_, _, hb, _⟩ := h.is
    exact hb.lt
  obtain ⟨w0, hw0⟩ : ∃ w0, w0 = (w.alloc (.cells dzArr 87)).alloc (.cells (dArr pb (.slice none 0 0) ⟨#[]⟩ 0 0 k i) 87) := ⟨_, rfl⟩
  have b0 : Below w.heap.size w w0 := by rw [hw0]; exact Below.alloc (Below.alloc (Below.refl _ _) (Nat.le_refl _) _) (by simp) _
  have KA := Lib.hid (show Blk w0 w.heap.size 87 dzArr from by rw [hw0]; exact (Blk.new w _ _).alloc _)
  obtain ⟨d, hd⟩ : ∃ d, d = w.heap.size + 1 := ⟨_, rfl⟩
  have KD := Lib.hid (show Blk w0 d 87 (dArr pb (.slice none 0 0) ⟨#[]⟩ 0 0 k i) from by rw [hw0, hd]; exact Blk.new1 w _ _ _)
  have HW := Lib.hid hw0
  have HD := Lib.hid hd
  have B0 := Lib.hid b0
  have HR := Lib.hid hr
  have HN := Lib.hid hn9
  have n0 : (1 : Int) ≤ n := by omega
  have hnz : (n = 0) = False := by simp; omega
  have n1 : (n : Int) ≤ 1000000 := by omega
  have hsz2 : t.size ≤ 1000000000 := by omega
  clear h hsz ht9 ht sat sat2 hw0 b0 hd hr hn9 hl hz hn h1
  go_enter Tryz.func103, Tryz.ntmps103
  go_wp2_with fail
  rw [← HW.out, ← HD.out]
  refine (DI.out w0 B0.out).mono ?_
  rintro e w1 ⟨rfl, n1', rfl⟩
  go_wp2_with fail
  refine (reset_any (KD.out.drewN n1') t).mono ?_
  rintro e w2 ⟨rfl, kd2, f2⟩
  have hdw : d = w.heap.size + 1 := HD.out
  have B2 := Lib.hid (below_fr (below_drewN B0.out n1') f2 (fun q hq => by rw [List.mem_singleton.1 hq]; omega) B0.out.size)
  have KA2 := Lib.hid ((KA.out.drewN n1').fr f2 (by simp; omega))
  have D2 := Lib.hid (show Dst pb s d (dR pb (.slice none 0 0) k i) t 0 w2 from ⟨Rs.of_blk kd2, rfl, keep_cell B2.out HSY.out, by omega, hsz2⟩)
  clear kd2 f2 DI KD KA B0 HW hdw
  go_wp2_with fail
  refine (dSync_any D2.out 8 (by decide) SA0.out).mono ?_
  rintro e w3 ⟨rfl, d3, f3⟩
  have D3 := Lib.hid d3
  have F3 := Lib.hid f3
  clear d3 f3
  go_wp2_with fail
  refine (dLen_any D3.out n (by omega) SA1.out).mono ?_
  rintro e w4 ⟨rfl, d4, f4⟩
  have F4 := Lib.hid (F3.out.trans1 f4)
  have D4 := Lib.hid d4
  clear d4 f4
  obtain ⟨i0, hi0, hz0, hz1, hz2⟩ := info_parts Tryz.infoRel
  obtain ⟨M, hM⟩ : ∃ M, M = madeCells (Value.agg #[.int .i32 0, .int .i32 0]).cells (n * i0.size) := ⟨_, rfl⟩
  have hMs : M.size = 2 * n := by rw [hM, size_madeCells, hz1]; omega
  have hmk : ∀ W : World, (Instr.makeSlice 79 (.int .i64 (n : Int)) (.int .i64 (n : Int))).run Tryz.prog W = .ok (.slice (some ⟨W.heap.size, 0, none⟩) n n) (W.alloc (.cells M 131)) := fun W => by
    have h := run_makeSlice (P := Tryz.prog) W 79 131 i0 (.agg #[.int .i32 0, .int .i32 0]) Tryz.underlying79 hi0 hz0 .i64 .i64 (n : Int) (n : Int) (by omega) (by omega) (by rw [hz1]; omega) (by rw [hz2]; omega) (by omega)
    rw [show ((n : Int)).toNat = n from by omega, ← hM] at h
    exact h
  obtain ⟨pr, kd4⟩ := Rs.blk D4.out.rs
  have zd4 := kd4.lt
  have c1 : w4.cell? ⟨d, 1, none⟩ = some (.slice none 0 0) := kd4.cell 1
  have e1 := kd4.frozen 1
  have HMS := Lib.hid hMs
  have KD4 := Lib.hid kd4
  clear hM hMs hz0 hz1 hz2 hi0 kd4
  have c15 := keep_cell (below_fr B2.out F4.out (fun q hq => by rw [List.mem_singleton.1 hq]; have := HD.out; omega) B2.out.size) HPK.out.c15.1
  go_upto_region 9 with fail
  obtain ⟨w5, hw5⟩ : ∃ w5, w5 = (w4.setCell ⟨d, 1, none⟩ (.slice (some ⟨w4.heap.size, 0, none⟩) n n)).alloc (.cells M 131) := ⟨_, rfl⟩
  rw [← hw5]
  obtain ⟨g, hg⟩ : ∃ g, g = w4.heap.size := ⟨_, rfl⟩
  rw [← hg] at hw5 ⊢
  have f5 : Fr [d] w4 w5 := by rw [hw5]; exact (((Fr.refl [d] w4).setCell (.inl (by simp)) _).alloc _)
  have KD5 := Lib.hid (show Blk w5 d 87 (dArr pb (.slice (some ⟨g, 0, none⟩) n n) t (0 + (sy s 8).length + (eU s n).length : Nat) pr k i) from by
    rw [hw5]
    exact (KD4.out.set_ 1 _).alloc _)
  have hdw : d = w.heap.size + 1 := HD.out
  have zB2 := B2.out.size
  have zF4 := F4.out.size
  have R5 := Lib.hid (show Rels g rs 0 w5 from ⟨M, by
    have h9 := Blk.new (w4.setCell ⟨d, 1, none⟩ (.slice (some ⟨g, 0, none⟩) n n)) 131 M
    rw [show (w4.setCell ⟨d, 1, none⟩ (.slice (some ⟨g, 0, none⟩) n n)).heap.size = g from by rw [hg]; simp [World.setCell], ← hw5] at h9
    exact h9, by rw [HMS.out, HN.out], fun q r hq => by omega⟩)
  have B5 := Lib.hid (below_fr B2.out (F4.out.trans1 f5) (fun q hq => by rw [List.mem_singleton.1 hq]; omega) B2.out.size)
  have KA5 := Lib.hid (KA2.out.fr (F4.out.trans1 f5) (by simp; omega))
  have D5 := Lib.hid (show Dst pb s d (dR pb (.slice (some ⟨g, 0, none⟩) n n) k i) t (0 + (sy s 8).length + (eU s n).length) w5 from ⟨Rs.of_blk KD5.out, rfl, keep_cell B5.out HSY.out, by omega, hsz2⟩)
  have hgd : g ≠ d := by omega
  have hgw : w.heap.size + 1 < g := by omega
  have q1 : w5.cell? ⟨d, 1, none⟩ = some (.slice (some ⟨g, 0, none⟩) n n) := KD5.out.cell 1
  have hgr : g ≠ w.heap.size := by omega
  have hpg : pb ≠ g := by omega
  have GE := Lib.hid (show w.heap.size ≤ d ∧ w.heap.size ≤ g from ⟨by omega, by omega⟩)
  have hdr : d ≠ w.heap.size := by omega
  clear f5 hw5 hg c1 e1 c15 hmk hdw hgw zB2 zF4 D2 D3 D4 F3 F4 KD4 KD5 KA2 B2
  go_wp2_with fail
  go_loopw [9, 45] (fun _ x wr => ∃ (j pos : Nat), j ≤ n ∧ x = .int .i64 j ∧ Dst pb s d (dR pb (.slice (some ⟨g, 0, none⟩) n n) k i) t pos wr ∧ Sat t pos ((rs.drop j).flatMap (refB s)) ∧ pos + ((rs.drop j).flatMap (refB s)).length = (refsB s rs).length ∧ Rels g rs j wr ∧ Blk wr w.heap.size 87 dzArr ∧ Below w.heap.size w wr) (fun _ x _ => n - (intOf x).toNat)
  case atStart => exact ⟨0, _, by omega, rfl, D5.out, SA2.out, by rw [HE.out]; rfl, R5.out, KA5.out, B5.out⟩
  case round =>
    obtain ⟨j, pos, hj, rfl, dj, sj, ej, rj, kj, bj⟩ := hrel
    have RJ := Lib.hid rj
    have KJ := Lib.hid kj
    have BJ := Lib.hid bj
    have EJ := Lib.hid ej
    have DJ := Lib.hid dj
    have qj := dj.c1
    by_cases hlt : j < n
    · have hjl : j < rs.length := by rw [← HN.out]; exact hlt
      rw [refs_drop s rs j hjl] at sj ej
      have s3 : Sat t pos (sy s 9 ++ (eU s rs[j].1.toNat ++ eU s rs[j].2.toNat)) := sj.left
      have S0 := Lib.hid s3.left
      have S1 := Lib.hid s3.right.left
      have S2 := Lib.hid s3.right.right
      have S3 := Lib.hid sj.right
      have LB := Lib.hid (show (refB s rs[j]).length = (sy s 9).length + ((eU s rs[j].1.toNat).length + (eU s rs[j].2.toNat).length) from by
        show (sy s 9 ++ (eU s rs[j].1.toNat ++ eU s rs[j].2.toNat)).length = _
        simp only [List.length_append])
      have EJ2 := Lib.hid (show pos + ((refB s rs[j]).length + ((rs.drop (j + 1)).flatMap (refB s)).length) = (refsB s rs).length from by
        rw [← ej, List.length_append])
      have hrr := HR.out rs[j] (List.getElem_mem hjl)
      have NX := Lib.hid (fun (W : World) (h : Rels g rs j W) => h.next hjl)
      have CE := Lib.hid (fun (W : World) (h : Rels g rs j W) => h.cells hjl)
      obtain ⟨⟨x, y⟩, hxy⟩ : ∃ r, r = rs[j] := ⟨_, rfl⟩
      rw [← hxy] at S1 S2 S3 LB EJ2 hrr NX
      obtain ⟨a, rfl⟩ : ∃ a : Nat, x = a := ⟨x.toNat, by simp only at hrr; omega⟩
      obtain ⟨b, rfl⟩ : ∃ b : Nat, y = b := ⟨y.toNat, by simp only at hrr; omega⟩
      simp only [Int.toNat_natCast] at S1 S2 S3 LB EJ2 hrr NX
      have wa : IntKind.i32.wrap (a : Int) = a := by rw [IntKind.wrap_i32]; omega
      have wb : IntKind.i32.wrap (b : Int) = b := by rw [IntKind.wrap_i32]; omega
      have ha : a < 9223372036854775808 := by omega
      have hb : b < 9223372036854775808 := by omega
      have j0 : (0 : Int) ≤ j := by omega
      have j1 : (j : Int) < n := by omega
      clear dj sj ej rj kj bj s3 hrr hxy
      go_wp2_with fail
      refine (dSync_any DJ.out 9 (by decide) S0.out).mono ?_
      rintro e w6 ⟨rfl, d6, f6⟩
      have D6 := Lib.hid (d6.here (Below.drew (Below.refl _ _)))
      have F6 := Lib.hid f6.drew
      have q6 : w6.drew.cell? ⟨d, 1, none⟩ = some (.slice (some ⟨g, 0, none⟩) n n) := D6.out.c1
      clear d6 f6 qj
      have L1 := Lib.hid (dLen_any D6.out a ha S1.out)
      have gd : g ∉ [d] := by simpa using hgd
      have dg : d ∉ [g] := by simpa using hgd.symm
      have pg : pb ∉ [g] := by simpa using hpg
      have rd : w.heap.size ∉ [d] := by simpa using hdr.symm
      have rg : w.heap.size ∉ [g] := by simpa using hgr.symm
      go_upto_region 13 with fail
      go_region_held3 (fun W => W.cell? ⟨d, 1, none⟩ = some (.slice (some ⟨g, 0, none⟩) n n)) (first | (with_reducible exact q6) | (with_reducible exact q7) | (with_reducible exact q8) | go_keep)
        (first
          | (go_at_call 79; refine L1.out.mono ?_; rintro e w7 ⟨rfl, d7, f7⟩; have D7 := Lib.hid d7; have F7 := Lib.hid (F6.out.trans1 f7); have q7 : w7.cell? ⟨d, 1, none⟩ = some (.slice (some ⟨g, 0, none⟩) n n) := D7.out.c1; clear d7 f7)
          | (go_at_call 79; refine (dLen_any D7.out b hb S2.out).mono ?_; rintro e w8 ⟨rfl, d8, f8⟩; have D8 := Lib.hid d8; have F8 := Lib.hid (F7.out.trans1 f8); have q8 : w8.cell? ⟨d, 1, none⟩ = some (.slice (some ⟨g, 0, none⟩) n n) := D8.out.c1; have R8 := Lib.hid (RJ.out.fr F8.out gd); obtain ⟨⟨y0, e0⟩, ⟨y1, e1⟩, x0, x1⟩ := CE.out w8 R8.out; clear d8 f8))
      all_goals
        have KJ8 := Lib.hid (KJ.out.fr F8.out rd)
        have B8 := Lib.hid (below_fr BJ.out F8.out (fun q hq => by rw [List.mem_singleton.1 hq]; exact GE.out.1) BJ.out.size)
        have F9 := Lib.hid (((Fr.refl [g] w8).setCell (p := ⟨g, j * 2, none⟩) (.inl (List.mem_singleton.2 rfl)) (.int .i32 a)).setCell (p := ⟨g, j * 2 + 1, none⟩) (.inl (List.mem_singleton.2 rfl)) (.int .i32 b))
        clear q6 q7 q8 e0 e1 x0 x1
        go_wp2_with fail
        go_roundw
        case rel => exact ⟨j + 1, pos + (refB s ((a : Int), (b : Int))).length, by omega, by go_num, by rw [LB.out, ← Nat.add_assoc, ← Nat.add_assoc]; exact D8.out.far F9.out dg pg, S3.out, by rw [Nat.add_assoc]; exact EJ2.out, NX.out _ R8.out, KJ8.out.fr F9.out rg, below_fr B8.out F9.out (fun q hq => by rw [List.mem_singleton.1 hq]; exact GE.out.2) B8.out.size⟩
        case measure => simp [intOf]; omega
    · obtain rfl : j = n := by omega
      have hp9 : pos = (refsB s rs).length := by
        rw [← EJ.out, List.drop_eq_nil_of_le (by rw [← HN.out]; exact Nat.le_refl _)]
        simp
      obtain ⟨pr9, kd9⟩ := Rs.blk DJ.out.rs
      rw [hp9] at kd9
      have KD9 := Lib.hid kd9
      have SZ : (Tryz.prog.info? 87).map (·.size) = some 7 := by kernel_rfl
      have RR := Lib.hid (show SlR 2 wr (some ⟨g, 0, none⟩) (rs.map fun r => [.int .i32 r.1, .int .i32 r.2]) from by
        have h9 := RJ.out
        rw [HN.out] at h9
        exact h9.rows)
      clear dj sj ej rj kj bj kd9 hp9 qj
      go_wp2_with (first | (refine wpList_load_row rfl 87 (.tmp 7) (by rfl) d (by rfl) 87 _ (0, 0) _ KD9.out Tryz.underlying87 rfl SZ ?_) | (refine wpList_store_row rfl 87 (.tmp 6) (.tmp 59) (by rfl) w.heap.size (dArr pb (.slice (some ⟨g, 0, none⟩) j j) t ((refsB s rs).length : Nat) pr9 k i) (by rfl) (by rfl) 87 _ KJ.out SZ rfl (by simp [Value.oneCell']) ?_))
      refine bodyPost_ret (v := .agg (dArr pb (.slice (some ⟨g, 0, none⟩) j j) t ((refsB s rs).length : Nat) pr9 k i)) (results_cell_row rfl _ _ w.heap.size 87 _ (0, 0) _ rfl (setRow_heap _ _ _ _ _ _ KJ.out) Tryz.underlying87 rfl SZ) rfl ?_
      have F9 : Fr [w.heap.size] wr (wr.setRow w.heap.size (dArr pb (.slice (some ⟨g, 0, none⟩) j j) t ((refsB s rs).length : Nat) pr9 k i)) := fr_setRow (Fr.refl _ _) (.inl (by simp)) _
      have BE := below_fr BJ.out F9 (fun q hq => by rw [List.mem_singleton.1 hq]; exact Nat.le_refl _) BJ.out.size
      refine ⟨some ⟨g, 0, none⟩, j, pr9, by rw [← HN.out], ?_, (fun a ha => by rw [← Option.some.inj ha]; exact GE.out.2), HPK.out.here BE, Fr.of_below BE⟩
      intro hpos
      obtain ⟨g', o', h1, h2⟩ := RR.out hpos
      refine ⟨g', o', h1, fun q cs hq i' u hu => F9.cell (h2 q cs hq i' u hu) ?_⟩
      injection h1 with h1
      injection h1 with h3 h4
      subst h3
      simpa using hgr
set_option maxRecDepth 100000 in
set_option maxHeartbeats 4000000 in
theorem tempDecoderRaw_zero {pb v : Nat} {s : Bool} {path : ByteArray} {p : Pk} {fp : List UInt8} {w : World} (h : PkQ pb v s path p fp (.slice none 0 0) w) (k i : Nat) (hk : k < 10) (hi : i < (p k).length) (hn : (p.elems 10).length ≤ 1000000) (hz : (szs (p.elems 10)).sum ≤ 100000000) (ds : List UInt8) (ht : (p k)[i] = str (refsB s [] ++ ds)) :
    Calls Tryz.prog 103 #[.pointer (some ⟨pb, 0, none⟩), .int .i32 k, .int .i32 i] w (TmpOut pb v s path p fp [] (p k)[i] k i (refsB s []).length w) := by
  have hsz := Pk.at_size hk hi
  have HPK := Lib.hid h
  have DI := Lib.hid (fun (W : World) (hb : Below w.heap.size w W) => dataIdx_any (h.here hb) k i hk hi hn hz)
  obtain ⟨t, ht9⟩ : ∃ t, t = (p k)[i] := ⟨_, rfl⟩
  rw [← ht9] at DI hsz ht ⊢
  have sat : Sat t 0 (sy s 8 ++ eU s 0) := by
    have h9 : Sat t 0 (refsB s []) := by rw [ht]; exact (Sat.all _).left
    have h8 : refsB s [] = sy s 8 ++ eU s 0 := by simp [refsB]
    rw [h8] at h9
    exact h9
  have SA0 := Lib.hid sat.left
  have SA1 := Lib.hid sat.right
  have HE := Lib.hid (show 0 + (sy s 8).length + (eU s 0).length = (refsB s []).length from by simp [refsB])
  have HSY := Lib.hid (show w.cell? ⟨pb, 1, none⟩ = some (.bool s) from by
    obtain ⟨_, _, hb, _⟩ := h.is
    exact hb.cell 1)
  have zpb : pb < w.heap.size := by
    obtain ⟨_, _, hb, _⟩ := h.is
    exact hb.lt
  obtain ⟨w0, hw0⟩ : ∃ w0, w0 = (w.alloc (.cells dzArr 87)).alloc (.cells (dArr pb (.slice none 0 0) ⟨#[]⟩ 0 0 k i) 87) := ⟨_, rfl⟩
  have b0 : Below w.heap.size w w0 := by rw [hw0]; exact Below.alloc (Below.alloc (Below.refl _ _) (Nat.le_refl _) _) (by simp) _
  have KA := Lib.hid (show Blk w0 w.heap.size 87 dzArr from by rw [hw0]; exact (Blk.new w _ _).alloc _)
  obtain ⟨d, hd⟩ : ∃ d, d = w.heap.size + 1 := ⟨_, rfl⟩
  have KD := Lib.hid (show Blk w0 d 87 (dArr pb (.slice none 0 0) ⟨#[]⟩ 0 0 k i) from by rw [hw0, hd]; exact Blk.new1 w _ _ _)
  have HW := Lib.hid hw0
  have HD := Lib.hid hd
  have B0 := Lib.hid b0
  have hsz2 : t.size ≤ 1000000000 := by omega
  clear h hsz ht9 ht sat hw0 b0 hd hz hn
  go_enter Tryz.func103, Tryz.ntmps103
  go_wp2_with fail
  rw [← HW.out, ← HD.out]
  refine (DI.out w0 B0.out).mono ?_
  rintro e w1 ⟨rfl, n1', rfl⟩
  go_wp2_with fail
  refine (reset_any (KD.out.drewN n1') t).mono ?_
  rintro e w2 ⟨rfl, kd2, f2⟩
  have hdw : d = w.heap.size + 1 := HD.out
  have B2 := Lib.hid (below_fr (below_drewN B0.out n1') f2 (fun q hq => by rw [List.mem_singleton.1 hq]; omega) B0.out.size)
  have KA2 := Lib.hid ((KA.out.drewN n1').fr f2 (by simp; omega))
  have D2 := Lib.hid (show Dst pb s d (dR pb (.slice none 0 0) k i) t 0 w2 from ⟨Rs.of_blk kd2, rfl, keep_cell B2.out HSY.out, by omega, hsz2⟩)
  clear kd2 f2 DI KD KA B0 HW hdw
  go_wp2_with fail
  refine (dSync_any D2.out 8 (by decide) SA0.out).mono ?_
  rintro e w3 ⟨rfl, d3, f3⟩
  have D3 := Lib.hid d3
  have F3 := Lib.hid f3
  clear d3 f3
  go_wp2_with fail
  refine (show Calls Tryz.prog 79 #[.pointer (some ⟨d, 0, none⟩)] w3 (Dmet pb s d (dR pb (.slice none 0 0) k i) t (0 + (sy s 8).length + (eU s 0).length) (.int .i64 0) w3) from dLen_any D3.out 0 (by omega) SA1.out).mono ?_
  rintro e w4 ⟨rfl, d4, f4⟩
  have F4 := Lib.hid (F3.out.trans1 f4)
  rw [HE.out] at d4
  have D4 := Lib.hid d4
  clear d4 f4
  obtain ⟨pr, kd4⟩ := Rs.blk D4.out.rs
  have zd4 := kd4.lt
  have c1 : w4.cell? ⟨d, 1, none⟩ = some (.slice none 0 0) := kd4.cell 1
  have e1 := kd4.frozen 1
  have KD4 := Lib.hid kd4
  have hdw : d = w.heap.size + 1 := HD.out
  have B4 := Lib.hid (below_fr B2.out F4.out (fun q hq => by rw [List.mem_singleton.1 hq]; omega) B2.out.size)
  have P4 := Lib.hid (HPK.out.here B4.out)
  obtain ⟨c15, e15, zp⟩ := P4.out.c15
  have hdp : pb ≠ d := by omega
  have hdr : d ≠ w.heap.size := by omega
  have hpr : pb ≠ w.heap.size := by omega
  have KA4 := Lib.hid (KA2.out.fr F4.out (by simp; omega))
  clear hdw kd4
  go_upto_region 9 with fail
  obtain ⟨w5, hw5⟩ : ∃ w5, w5 = (w4.setCell ⟨d, 1, none⟩ (.slice none 0 0)).setCell ⟨pb, 15, none⟩ (.slice none 0 0) := ⟨_, rfl⟩
  rw [← hw5]
  have KD5 := Lib.hid (show Blk w5 d 87 (dArr pb (.slice none 0 0) t ((refsB s []).length : Nat) pr k i) from by
    rw [hw5]
    exact (KD4.out.set_ 1 _).far (by simpa using hdp.symm) _)
  have KA5 := Lib.hid (show Blk w5 w.heap.size 87 dzArr from by
    rw [hw5]
    exact (KA4.out.far (by simpa using hdr.symm) _).far (by simpa using hpr.symm) _)
  have P5 := Lib.hid (show ∀ g c, Blk w pb 81 (rdArr v s path (str (p.data ++ fp)) (.slice (some ⟨g, 0, none⟩) (p.elems 10).length c) (fun k => (p.elems (k + 1)).length) (.slice none 0 0)) → Blk w5 pb 81 (rdArr v s path (str (p.data ++ fp)) (.slice (some ⟨g, 0, none⟩) (p.elems 10).length c) (fun k => (p.elems (k + 1)).length) (.slice none 0 0)) from fun g c h1 => by
    rw [hw5]
    exact ((h1.here B4.out).far (by simpa using hdp) _).set_ 15 _)
  have F5 := Lib.hid (show Fr [pb] w w5 from by
    rw [hw5]
    exact ((Fr.of_below (gs := [pb]) B4.out).setCell (.inr (by have := HD.out; simp; omega)) _).setCell (.inl (by simp)) _)
  have SZ : (Tryz.prog.info? 87).map (·.size) = some 7 := by kernel_rfl
  have q1 : w5.cell? ⟨d, 1, none⟩ = some (.slice none 0 0) := KD5.out.cell 1
  clear hw5 c1 e1 c15 e15 zp D2 D3 D4 F3 F4 KD4 KA2 KA4 P4 B2 B4
  go_wp2_with fail
  go_loopw [9, 45] (fun _ x wr => x = .int .i64 0 ∧ wr = w5) (fun _ _ _ => 0)
  case atStart => exact ⟨rfl, rfl⟩
  case round =>
    obtain ⟨rfl, rfl⟩ := hrel
    go_wp2_with (first | (refine wpList_load_row rfl 87 (.tmp 7) (by rfl) d (by rfl) 87 _ (0, 0) _ KD5.out Tryz.underlying87 rfl SZ ?_) | (refine wpList_store_row rfl 87 (.tmp 6) (.tmp 59) (by rfl) w.heap.size (dArr pb (.slice none 0 0) t ((refsB s []).length : Nat) pr k i) (by rfl) (by rfl) 87 _ KA5.out SZ rfl (by simp [Value.oneCell']) ?_))
    refine bodyPost_ret (v := .agg (dArr pb (.slice none 0 0) t ((refsB s []).length : Nat) pr k i)) (results_cell_row rfl _ _ w.heap.size 87 _ (0, 0) _ rfl (setRow_heap _ _ _ _ _ _ KA5.out) Tryz.underlying87 rfl SZ) rfl ?_
    have F6 : Fr [w.heap.size] wr (wr.setRow w.heap.size (dArr pb (.slice none 0 0) t ((refsB s []).length : Nat) pr k i)) := fr_setRow (Fr.refl _ _) (.inl (by simp)) _
    have FT : Fr [pb] w (wr.setRow w.heap.size (dArr pb (.slice none 0 0) t ((refsB s []).length : Nat) pr k i)) := F5.out.trans F6 (fun q hq => .inr (by rw [List.mem_singleton.1 hq]; exact Nat.le_refl _))
    obtain ⟨g, c, h1, h2, h3, h4⟩ := HPK.out.is
    exact ⟨none, 0, pr, rfl, fun hh => absurd hh (by simp), (fun a ha => by cases ha), ⟨g, c, (P5.out g c h1).fr F6 (by simpa using hpr), h2, h3, fun j hj => FT.cell (h4 j hj) (by simpa using h3)⟩, FT⟩
theorem tempDecoderRaw_any {pb v : Nat} {s : Bool} {path : ByteArray} {p : Pk} {fp : List UInt8} {w : World} (h : PkQ pb v s path p fp (.slice none 0 0) w) (k i : Nat) (hk : k < 10) (hi : i < (p k).length) (hn : (p.elems 10).length ≤ 1000000) (hz : (szs (p.elems 10)).sum ≤ 100000000) (rs : List (Int × Int)) (ds : List UInt8) (ht : (p k)[i] = str (refsB s rs ++ ds)) (hr : ∀ r ∈ rs, (0 ≤ r.1 ∧ r.1 ≤ 2147483647) ∧ (0 ≤ r.2 ∧ r.2 ≤ 2147483647)) (hl : rs.length ≤ 1000000) :
    Calls Tryz.prog 103 #[.pointer (some ⟨pb, 0, none⟩), .int .i32 k, .int .i32 i] w (TmpOut pb v s path p fp rs (p k)[i] k i (refsB s rs).length w) := by
  rcases rs with _ | ⟨r, rs⟩
  · exact tempDecoderRaw_zero h k i hk hi hn hz ds ht
  · exact tempDecoderRaw_pos h k i hk hi hn hz (r :: rs) ds ht hr hl (by simp)
set_option maxRecDepth 100000 in
set_option maxHeartbeats 2000000 in
theorem tempDecoder_any {pb v : Nat} {s : Bool} {path : ByteArray} {p : Pk} {fp : List UInt8} {w : World} (h : PkQ pb v s path p fp (.slice none 0 0) w) (k i : Nat) (hk : k < 10) (hi : i < (p k).length) (hn : (p.elems 10).length ≤ 1000000) (hz : (szs (p.elems 10)).sum ≤ 100000000) (rs : List (Int × Int)) (m : Nat) (hm : m < 128) (ds : List UInt8) (ht : (p k)[i] = str (refsB s rs ++ (sy s m ++ ds))) (hr : ∀ r ∈ rs, (0 ≤ r.1 ∧ r.1 ≤ 2147483647) ∧ (0 ≤ r.2 ∧ r.2 ≤ 2147483647)) (hl : rs.length ≤ 1000000) :
    Calls Tryz.prog 80 #[.pointer (some ⟨pb, 0, none⟩), .int .i32 k, .int .i32 i, .int .i64 m] w (TmpOut pb v s path p fp rs (p k)[i] k i ((refsB s rs).length + (sy s m).length) w) := by
  obtain ⟨w0, hw0⟩ : ∃ w0, w0 = w.alloc (.cells dzArr 87) := ⟨_, rfl⟩
  have b0 : Below w.heap.size w w0 := by rw [hw0]; exact Below.alloc (Below.refl _ _) (Nat.le_refl _) _
  have NR := Lib.hid (tempDecoderRaw_any (h.here b0) k i hk hi hn hz rs (sy s m ++ ds) ht hr hl)
  have hsz := Pk.at_size hk hi
  have SA := Lib.hid (show Sat (p k)[i] (refsB s rs).length (sy s m) from by rw [ht]; exact Sat.here _ _ _)
  have HSY := Lib.hid (show w.cell? ⟨pb, 1, none⟩ = some (.bool s) from by
    obtain ⟨_, _, hb, _⟩ := h.is
    exact hb.cell 1)
  have zpb : pb < w.heap.size := by
    obtain ⟨_, _, hb, _⟩ := h.is
    exact hb.lt
  obtain ⟨t, ht9⟩ : ∃ t, t = (p k)[i] := ⟨_, rfl⟩
  rw [← ht9] at NR SA hsz ⊢
  have KA := Lib.hid (show Blk w0 w.heap.size 87 dzArr from by rw [hw0]; exact Blk.new _ _ _)
  have B0 := Lib.hid b0
  have HW := Lib.hid hw0
  have hsz2 : t.size ≤ 1000000000 := by omega
  have m0 : (0 : Int) ≤ m := by omega
  have m1 : (m : Int) < 128 := by omega
  have SZ : (Tryz.prog.info? 87).map (·.size) = some 7 := by kernel_rfl
  clear h hn hz ht hr hl hw0 b0 ht9 hsz
  go_enter Tryz.func80, Tryz.ntmps80
  go_wp2_with fail
  rw [← HW.out]
  refine NR.out.mono ?_
  rintro e w1 ⟨A, c, pr, rfl, sl, fr1, pk1, f1⟩
  obtain ⟨w2, hw2⟩ : ∃ w2, w2 = w1.alloc (.cells (dArr pb (.slice A rs.length c) t ((refsB s rs).length : Nat) pr k i) 87) := ⟨_, rfl⟩
  have b2 : Below w1.heap.size w1 w2 := by rw [hw2]; exact Below.alloc (Below.refl _ _) (Nat.le_refl _) _
  obtain ⟨d, hd⟩ : ∃ d, d = w1.heap.size := ⟨_, rfl⟩
  have kd2 : Blk w2 d 87 (dArr pb (.slice A rs.length c) t ((refsB s rs).length : Nat) pr k i) := by rw [hw2, hd]; exact Blk.new _ _ _
  have F01 : Fr [pb] w w1 := (Fr.of_below (gs := [pb]) B0.out).trans1 f1
  have zA := KA.out.lt
  have zB := f1.size
  have z0 := B0.out.size
  have hpr : w.heap.size ∉ [pb] := by simp; omega
  have F02 : Fr [pb] w w2 := F01.trans0 b2
  have F2 := Lib.hid F02
  have PK2 := Lib.hid (pk1.here b2)
  have KA2 := Lib.hid ((KA.out.fr f1 hpr).here b2)
  have D2 := Lib.hid (show Dst pb s d (dR pb (.slice A rs.length c) k i) t (refsB s rs).length w2 from ⟨Rs.of_blk kd2, rfl, by
    obtain ⟨_, _, hb, _⟩ := (pk1.here b2).is
    exact hb.cell 1, by omega, hsz2⟩)
  have GD := Lib.hid (show w.heap.size < d from by omega)
  have HW2 := Lib.hid hw2
  have HD := Lib.hid hd
  have hsl : ∀ b o j cs i' u, A = some ⟨b, o, none⟩ → (rs.map (fun r => ([.int .i32 r.1, .int .i32 r.2] : List Value)))[j]? = some cs → cs[i']? = some u → b ≠ w.heap.size ∧ b ≠ d := fun b o j cs i' u hA hj hu => by
    obtain ⟨b', o', h1, h2⟩ := sl (Nat.lt_of_le_of_lt (Nat.zero_le _) (List.getElem?_eq_some_iff.1 hj).1)
    rw [hA] at h1
    injection h1 with h1
    injection h1 with h3 h4
    have h9 := World.block_lt_of_cell? w1 _ (h2 j cs hj i' u hu)
    have h8 := fr1 _ hA
    simp only at h9 h8
    omega
  have SLF := Lib.hid (show ∀ w3 W, Fr [d] w2 w3 → Fr [w.heap.size] w3 W → SlR 2 W A (rs.map fun r => [.int .i32 r.1, .int .i32 r.2]) from fun w3 W f3 f9 hn => by
    obtain ⟨b, o, h1, h2⟩ := (sl.here b2) hn
    refine ⟨b, o, h1, fun j cs hj i' u hu => ?_⟩
    have h9 := hsl b o j cs i' u h1 hj hu
    exact f9.cell (f3.cell (h2 j cs hj i' u hu) (by simpa using h9.2)) (by simpa using h9.1))
  have FRA := Lib.hid (show ∀ a, A = some a → w.heap.size ≤ a.block from fun a ha => Nat.le_trans B0.out.size (fr1 a ha))
  have PKF := Lib.hid (show ∀ w3 W, Fr [d] w2 w3 → Fr [w.heap.size] w3 W → PkQ pb v s path p fp (.slice none 0 0) W from fun w3 W f3 f9 => by
    obtain ⟨g1, c1, h1, h2, h3, h4⟩ := pk1.is
    have hg : ∀ j, j < (p.elems 10).length → g1 ≠ d ∧ g1 ≠ w.heap.size := fun j hj => by
      have h5 := World.block_lt_of_cell? w1 _ (h4 j hj)
      simp only at h5
      refine ⟨by omega, fun e => ?_⟩
      have h6 := h4 0 (by omega)
      have h7 : w1.cell? ⟨w.heap.size, 0, none⟩ = some (.pointer none) := (KA.out.fr f1 hpr).cell 0
      rw [e, h7] at h6
      cases h6
    refine ⟨g1, c1, ((h1.here b2).fr f3 (by simp; omega)).fr f9 (by simp; omega), h2, h3, fun j hj => f9.cell (f3.cell (keep_cell b2 (h4 j hj)) (by simpa using (hg j hj).1)) (by simpa using (hg j hj).2)⟩)
  clear sl b2 hw2 hd kd2 NR zA zB z0 fr1 pk1 f1 F01 F02 hsl
  go_wp2_with fail
  rw [← HW2.out, ← HD.out]
  refine (dSync_any D2.out m hm SA.out).mono ?_
  rintro e w3 ⟨rfl, d3, f3⟩
  obtain ⟨P, hP⟩ : ∃ P, P = (refsB s rs).length + (sy s m).length := ⟨_, rfl⟩
  rw [← hP] at d3
  obtain ⟨pr3, kd3⟩ := Rs.blk d3.rs
  have KD3 := Lib.hid kd3
  have KA3 := Lib.hid (KA2.out.fr f3 (by have := GD.out; simp; omega))
  have F3 := Lib.hid (F2.out.trans f3 (fun q hq => .inr (by rw [List.mem_singleton.1 hq]; exact Nat.le_of_lt GD.out)))
  have PK3 := Lib.hid (PKF.out w3 · f3)
  have SL3 := Lib.hid (SLF.out w3 · f3)
  have HP := Lib.hid hP
  clear d3 f3 kd3 hP
  go_wp2_with (first | (refine wpList_load_row rfl 87 (.tmp 9) (by rfl) d (by rfl) 87 _ (0, 0) _ KD3.out Tryz.underlying87 rfl SZ ?_) | (refine wpList_store_row rfl 87 (.tmp 8) (.tmp 16) (by rfl) w.heap.size (dArr pb (.slice A rs.length c) t P pr3 k i) (by rfl) (by rfl) 87 _ KA3.out SZ rfl (by simp [Value.oneCell']) ?_))
  refine bodyPost_ret (v := .agg (dArr pb (.slice A rs.length c) t P pr3 k i)) (results_cell_row rfl _ _ w.heap.size 87 _ (0, 0) _ rfl (setRow_heap _ _ _ _ _ _ KA3.out) Tryz.underlying87 rfl SZ) rfl ?_
  have F9 : Fr [w.heap.size] w3 (w3.setRow w.heap.size (dArr pb (.slice A rs.length c) t P pr3 k i)) := fr_setRow (Fr.refl _ _) (.inl (by simp)) _
  exact ⟨A, c, pr3, by rw [← HP.out], SL3.out _ F9, FRA.out, PK3.out _ F9, F3.out.trans F9 (fun q hq => .inr (by rw [List.mem_singleton.1 hq]; exact Nat.le_refl _))⟩
set_option maxRecDepth 100000 in
theorem retire_any {pb v : Nat} {s : Bool} {path : ByteArray} {p : Pk} {fp : List UInt8} {sc : Value} {w : World} (h : PkQ pb v s path p fp sc w) {d : Nat} {A : Option Addr} {n c : Nat} {t : ByteArray} {i pr k x : Int} (hd : Blk w d 87 (dArr pb (.slice A n c) t i pr k x)) (hpd : pb ≠ d) :
    Calls Tryz.prog 83 #[.pointer (some ⟨pb, 0, none⟩), .pointer (some ⟨d, 0, none⟩)] w fun e w' => e = .returned (.tuple #[]) ∧ Fr [pb, d] w w' := by
  obtain ⟨c15, e15, zp⟩ := h.c15
  have c1 : w.cell? ⟨d, 1, none⟩ = some (.slice A n c) := hd.cell 1
  have f1 := hd.frozen 1
  have zd := hd.lt
  have hdp : d ≠ pb := hpd.symm
  clear h hd
  go_enter Tryz.func83, Tryz.ntmps83
  go_wp2
  go_end0
  exact ⟨rfl, by (repeat' (first | (with_reducible exact Fr.refl _ _) | (with_reducible assumption) | (with_reducible refine Fr.drewN ?_ _) | (with_reducible refine Fr.alloc ?_ _) | (with_reducible refine Fr.drew ?_) | (with_reducible refine Fr.setCell ?_ (.inl (by simp)) _) | (with_reducible refine Fr.setCell ?_ (.inr ?_) _) | go_size))⟩
set_option maxRecDepth 100000 in
set_option maxHeartbeats 4000000 in
theorem unpackT_any {t : ByteArray} {v : Nat} {s : Bool} {p : Pk} {fp : List UInt8} {w : World} (path : ByteArray) (hT : PkT t v s p fp) (hG : Gv w) (k i m : Nat) (hk : k < 10) (hi : i < (p k).length) (hi2 : i ≤ 1000000) (BA : Option Addr) (bc : Nat) (bl : List Bt) (hx : El.Ok ⟨k, m, ⟨BA, bc, bl⟩⟩) (hin : El.In w ⟨k, m, ⟨BA, bc, bl⟩⟩) (q : Pk) (ht : (p k)[i] = str ((El.es s ⟨k, m, ⟨BA, bc, bl⟩⟩ q).bytes s)) (hr : (El.es s ⟨k, m, ⟨BA, bc, bl⟩⟩ q).Ref) (hl : (El.es s ⟨k, m, ⟨BA, bc, bl⟩⟩ q).rs.length ≤ 1000000) (hss : (El.es s ⟨k, m, ⟨BA, bc, bl⟩⟩ q).ss <+: p 0) :
    Calls Tryz.prog 35 #[.string path, .string t, .int .i64 i, .agg #[.int .i64 k, .int .i64 m, .slice BA bl.length bc], .bool true] w (UnOut bl w) := by
  have hmk := hx.mark
  have hm : m < 128 := by simp only at hmk; omega
  have hsz := Pk.at_size hk hi
  obtain ⟨rs, hrs⟩ : ∃ rs, rs = (El.es s ⟨k, m, ⟨BA, bc, bl⟩⟩ q).rs := ⟨_, rfl⟩
  obtain ⟨e0, he0⟩ : ∃ e0 : Es, e0 = ⟨q 0, [], sy s m⟩ := ⟨_, rfl⟩
  have hE : El.es s ⟨k, m, ⟨BA, bc, bl⟩⟩ q = e0.bits s bl := by rw [he0]; rfl
  have ht2 : (p k)[i] = str (refsB s rs ++ (sy s m ++ bitsD s bl e0)) := by
    rw [ht, el_bytes, hrs, he0]
    rfl
  have hbl : bl.length ≤ 60 := hx.len
  have HBL := Lib.hid (show ∀ b ∈ bl, b.Ok from hx.bits)
  have HRS := Lib.hid (show (e0.bits s bl).rs <+: rs ∧ (e0.bits s bl).ss <+: p 0 from ⟨by rw [hrs, hE]; exact List.prefix_refl _, by rw [← hE]; exact hss⟩)
  have HIN := Lib.hid (show SlR 5 w BA (bl.map Bt.cells) from hin.bits.l)
  obtain ⟨w0, hw0⟩ : ∃ w0, w0 = w.alloc (.cells #[.int .i64 k, .int .i64 m, .slice BA bl.length bc] 24) := ⟨_, rfl⟩
  have b0 : Below w.heap.size w w0 := by rw [hw0]; exact Below.alloc (Below.refl _ _) (Nat.le_refl _) _
  have KE := Lib.hid (show Blk w0 w.heap.size 24 #[.int .i64 k, .int .i64 m, .slice BA bl.length bc] from by rw [hw0]; exact Blk.new _ _ _)
  have ND := Lib.hid (newPkgDecoder_any path t v s p fp w0 hT.eq hT.fp8 hT.ver hT.syn hT.one hT.cnt hT.siz (hG.here b0).i (hG.here b0).r)
  have NR := Lib.hid (fun (W : World) (pb : Nat) (h : PkQ pb v s path p fp (.slice none 0 0) W) => tempDecoder_any h k i hk hi hT.cnt hT.siz rs m hm (bitsD s bl e0) ht2 (by rw [hrs]; exact hr) (by rw [hrs]; exact hl))
  obtain ⟨tt, htt⟩ : ∃ tt, tt = (p k)[i] := ⟨_, rfl⟩
  rw [← htt] at NR ht2 hsz
  have SA := Lib.hid (show Sat tt ((refsB s rs).length + (sy s m).length) (bitsD s bl e0) from by
    rw [ht2, ← List.length_append, ← List.append_assoc]
    have h9 := Sat.here (refsB s rs ++ sy s m) (bitsD s bl e0) []
    rw [List.append_nil] at h9
    exact h9)
  have HE := Lib.hid (show (refsB s rs).length + (sy s m).length + (bitsD s bl e0).length = tt.size from by
    rw [ht2, str_size]
    simp only [List.length_append]
    omega)
  obtain ⟨P, hP⟩ : ∃ P, P = (refsB s rs).length + (sy s m).length := ⟨_, rfl⟩
  rw [← hP] at NR SA HE
  have HT := Lib.hid hT
  have HRL := Lib.hid (show rs.length ≤ 1000000 from by rw [hrs]; exact hl)
  have HW0 := Lib.hid hw0
  have B0 := Lib.hid b0
  have k0 : (0 : Int) ≤ k := by omega
  have k1 : (k : Int) < 10 := by omega
  have hk32 : IntKind.i32.wrap (k : Int) = k := by rw [IntKind.wrap_i32]; omega
  have hi32 : IntKind.i32.wrap (i : Int) = i := by rw [IntKind.wrap_i32]; omega
  have m0 : (0 : Int) ≤ m := by omega
  have m1 : (m : Int) < 128 := by omega
  have hsz2 : tt.size ≤ 1000000000 := by have := hT.siz; omega
  clear hP hT hG ht hr hl hss hx hin hrs hE he0 ht2 htt hw0 b0 hsz hmk
  go_enter Tryz.func35, Tryz.ntmps35
  go_wp2_with fail
  rw [← HW0.out]
  refine ND.out.mono ?_
  rintro e w1 ⟨g, c, rfl, hc, _, hcl, b1⟩
  obtain ⟨w2, hw2⟩ : ∃ w2, w2 = w1.alloc (.cells (rdArr v s path (str (p.data ++ fp)) (.slice (some ⟨g, 0, none⟩) (p.elems 10).length c) (fun k => (p.elems (k + 1)).length) (.slice none 0 0)) 81) := ⟨_, rfl⟩
  have P1 := PkQ.new (v := v) (s := s) (path := path) (fp := fp) hc hcl HT.out.one
  rw [← hw2] at P1
  obtain ⟨pb, hpb⟩ : ∃ pb, pb = w1.heap.size := ⟨_, rfl⟩
  rw [← hpb] at P1
  have PD := Lib.hid P1
  have B1 := below_from B0.out b1
  have B2 := Lib.hid (show Below w.heap.size w w2 from by rw [hw2]; exact B1.alloc B1.size _)
  have KE2 := Lib.hid (show Blk w2 w.heap.size 24 #[.int .i64 k, .int .i64 m, .slice BA bl.length bc] from by rw [hw2]; exact (KE.out.here b1).alloc _)
  have HW2 := Lib.hid hw2
  have HPB := Lib.hid hpb
  have e0' : w2.cell? ⟨w.heap.size, 0, none⟩ = some (.int .i64 k) := KE2.out.cell 0
  have e1' : w2.cell? ⟨w.heap.size, 1, none⟩ = some (.int .i64 m) := KE2.out.cell 1
  have GP := Lib.hid (show w.heap.size ≤ pb ∧ pb < w2.heap.size ∧ w.heap.size ∉ [pb] from by
    have h1 := B1.size
    have h2 := KE.out.lt
    have h3 := b1.size
    refine ⟨by omega, ?_, by simp; omega⟩
    rw [hw2, hpb]
    simp)
  clear hc hcl b1 ND P1 hw2 hpb B1
  go_upto_region 2 with fail
  rw [← HW2.out, ← HPB.out]
  go_quiet (fail)
  go_wp2_with fail
  refine (NR.out (w2.drewN nq) pb (PD.out.here (below_drewN (Below.refl _ _) nq))).mono ?_
  rintro e w3 ⟨A9, c9, pr3, rfl, s3, fr3, P3, f3⟩
  obtain ⟨w4, hw4⟩ : ∃ w4, w4 = w3.alloc (.cells (dArr pb (.slice A9 rs.length c9) tt P pr3 k i) 87) := ⟨_, rfl⟩
  have b4 : Below w3.heap.size w3 w4 := by rw [hw4]; exact Below.alloc (Below.refl _ _) (Nat.le_refl _) _
  obtain ⟨d, hd⟩ : ∃ d, d = w3.heap.size := ⟨_, rfl⟩
  have B3 := below_fr (below_drewN B2.out nq) f3 (fun q hq => by rw [List.mem_singleton.1 hq]; exact GP.out.1) B2.out.size
  have DB := Lib.hid (show Dbs w3 pb v s path p fp (.slice none 0 0) A9 rs from ⟨P3, HT.out.cnt, HT.out.siz, s3, HRL.out⟩)
  have kd4 : Blk w4 d 87 (dArr pb (.slice A9 rs.length c9) tt P pr3 k i) := by rw [hw4, hd]; exact Blk.new _ _ _
  have hsy : w4.cell? ⟨pb, 1, none⟩ = some (.bool s) := by
    obtain ⟨_, _, hb, _⟩ := (P3.here b4).is
    exact hb.cell 1
  have hpd : pb ≠ d := by
    obtain ⟨_, _, hb, _⟩ := P3.is
    have := hb.lt
    omega
  have D4 := Lib.hid (show Dst pb s d (dR pb (.slice A9 rs.length c9) k i) tt P w4 from ⟨Rs.of_blk kd4, rfl, hsy, hpd, hsz2⟩)
  have B4 := Lib.hid (below_from B3 b4)
  have KE4 := Lib.hid (((KE2.out.drewN nq).fr f3 GP.out.2.2).here b4)
  have RA := Lib.hid (readAll_any DB.out D4.out b4 (by omega) c9 rfl BA bc bl (HIN.out.here B3) HBL.out hbl e0 HRS.out.1 HRS.out.2 SA.out)
  have HW4 := Lib.hid hw4
  have HD := Lib.hid hd
  have DZ := Lib.hid (show w.heap.size ≤ d ∧ w.heap.size ≤ w4.heap.size from ⟨by rw [hd]; exact B3.size, (below_from B3 b4).size⟩)
  have e2' : w4.cell? ⟨w.heap.size, 2, none⟩ = some (.slice BA bl.length bc) := KE4.out.cell 2
  have P4 := Lib.hid (fun (W : World) (f : Fr [d] w4 W) => P3.fr ((Fr.of_below (gs := [d]) b4).trans1 f) rfl (fun q hq => by rw [List.mem_singleton.1 hq, hd]; exact Nat.le_refl _))
  have ZD := Lib.hid (show pb < w4.heap.size ∧ d < w4.heap.size from by
    have h1 := kd4.lt
    have h2 := b4.size
    have h3 := f3.size
    have h4 := GP.out.2.1
    refine ⟨?_, h1⟩
    have h5 : w2.heap.size ≤ w3.heap.size := h3
    omega)
  have HPD := Lib.hid hpd
  clear s3 f3 fr3 b4 hw4 hd B3 P3 kd4 hsy e0' e1'
  go_upto_region 5 with fail
  rw [← HW4.out, ← HD.out]
  go_wp2_with fail
  refine RA.out.mono ?_
  rintro e w5 ⟨A3, c3, rfl, r5, d5, f5⟩
  have R5 := Lib.hid r5
  have D5 := Lib.hid d5
  have P5 := Lib.hid (P4.out w5 f5)
  have B5 := Lib.hid (below_fr B4.out f5 (fun q hq => by rw [List.mem_singleton.1 hq]; exact DZ.out.1) B4.out.size)
  clear r5 d5 f5
  go_wp2_with fail
  refine (readerLen_any D5.out.rs HE.out hsz2).mono ?_
  rintro e w6 ⟨rfl, n6, rfl⟩
  obtain ⟨pr6, kd6⟩ := Rs.blk D5.out.rs
  have KD6 := Lib.hid kd6
  clear kd6
  go_wp2_with fail
  refine (retire_any (P5.out.here (below_drewN (Below.refl _ _) n6)) (KD6.out.drewN n6) HPD.out).mono ?_
  rintro e w7 ⟨rfl, f7⟩
  have R7 := Lib.hid (((R5.out.here (below_drewN (Below.refl _ _) n6)).fr f7 (fun q hq => by
    simp only [List.mem_cons, List.not_mem_nil, or_false] at hq
    rcases hq with rfl | rfl
    · exact ZD.out.1
    · exact ZD.out.2)).mono DZ.out.2)
  have B7 := Lib.hid (below_fr (below_drewN B5.out n6) f7 (fun q hq => by
    simp only [List.mem_cons, List.not_mem_nil, or_false] at hq
    rcases hq with rfl | rfl
    · exact GP.out.1
    · exact DZ.out.1) B5.out.size)
  clear f7
  go_wp2_with fail
  go_returns
  exact ⟨A3, c3, rfl, R7.out, B7.out⟩
end Go.Proofs.YtedjadicdodahaaGreatDoor
