/- A package's decoder, new. -/
import Derived.BigRegion
import Derived.Test.YtedjadicdodahaaGreatDoorQRd
import Derived.Test.YtedjadicdodahaaGreatDoorPDu
namespace Go.Proofs.YtedjadicdodahaaGreatDoor
open Go.RowKit

abbrev rdArr (v : Nat) (s : Bool) (path dat : ByteArray) (el : Value) (e : Nat → Nat) (sc : Value) : Array Value :=
  #[.int .u32 v, .bool s, .string path, .string dat, el, .int .u32 (e 0), .int .u32 (e 1), .int .u32 (e 2), .int .u32 (e 3), .int .u32 (e 4), .int .u32 (e 5), .int .u32 (e 6), .int .u32 (e 7), .int .u32 (e 8), .int .u32 (e 9), sc]
theorem sums_le (l : List Nat) : ∀ x ∈ sums l, x ≤ l.sum := fun x hx => by
  unfold sums at hx
  obtain ⟨i, _, rfl⟩ := List.mem_map.1 hx
  have h : l.sum = (l.take (i + 1)).sum + (l.drop (i + 1)).sum := by rw [← List.sum_append, List.take_append_drop]
  omega
def hdLen (v : Nat) (s : Bool) : Nat := 4 + (flagB v s).length
theorem hdLen_le (v : Nat) (s : Bool) : hdLen v s ≤ 8 := by
  unfold hdLen
  rw [flagB_len]
  split <;> omega
theorem body_sat (v : Nat) (s : Bool) (p : Pk) (fp : List UInt8) (t : ByteArray) (ht : t = str (p.body v s ++ fp)) :
    Sat t 0 (le4 v) ∧ Sat t 4 (flagB v s) ∧ Sat t (hdLen v s) ((sums p.counts).flatMap le4) ∧ Sat t (hdLen v s + 40) ((sums p.sizes).flatMap le4) ∧ t.extract (hdLen v s + 40 + 4 * (p.elems 10).length) t.size = str (p.data ++ fp) ∧ t.size = hdLen v s + 40 + 4 * (p.elems 10).length + (p.data.length + fp.length) := by
  have h0 : Sat t 0 (le4 v ++ (flagB v s ++ ((sums p.counts).flatMap le4 ++ ((sums p.sizes).flatMap le4 ++ (p.data ++ fp))))) := by
    rw [ht]
    have h1 : p.body v s ++ fp = le4 v ++ (flagB v s ++ ((sums p.counts).flatMap le4 ++ ((sums p.sizes).flatMap le4 ++ (p.data ++ fp)))) := by
      unfold Pk.body
      simp only [List.append_assoc]
    rw [h1]
    exact Sat.all _
  have h1 := h0.right
  rw [Nat.zero_add, le4_len] at h1
  have h2 := h1.right
  have h3 := h2.right
  have e40 : ((sums p.counts).flatMap le4).length = 40 := by rw [flat4_len, sums_len, Pk.counts_len]
  rw [e40] at h3
  have e4 : ((sums p.sizes).flatMap le4).length = 4 * (p.elems 10).length := by rw [flat4_len, sums_len, Pk.sizes_len]
  have hb : t = str ((le4 v ++ (flagB v s ++ ((sums p.counts).flatMap le4 ++ (sums p.sizes).flatMap le4))) ++ (p.data ++ fp)) := by
    rw [ht]
    unfold Pk.body
    simp only [List.append_assoc]
  have hl : (le4 v ++ (flagB v s ++ ((sums p.counts).flatMap le4 ++ (sums p.sizes).flatMap le4))).length = hdLen v s + 40 + 4 * (p.elems 10).length := by
    unfold hdLen
    simp only [List.length_append, le4_len, e40, e4]
    omega
  refine ⟨h0.left, h1.left, h2.left, h3.left, ?_, ?_⟩
  · rw [← hl, hb]
    exact str_tail _ _
  · rw [hb, str_size, List.length_append, hl, List.length_append]
theorem Tryz.infoU32 : (Tryz.prog.info? 53).map (fun i => (i.zero, i.size, i.bytes)) = some (some (.int .u32 0), 1, 4) := by kernel_rfl
theorem below_fr {B : Nat} {a b c : World} {gs : List Nat} (h : Below B a b) (f : Fr gs b c) (hg : ∀ g ∈ gs, B ≤ g) (hB : B ≤ b.heap.size) : Below B a c :=
  (Kp.of_fr (own := fun q => B ≤ q) f (fun k hk => .inl (hg k hk))).below h (fun _ hk => hk) hB
abbrev rdZ (path : ByteArray) : Array Value := #[.int .u32 0, .bool false, .string path, .string ⟨#[]⟩, .slice none 0 0, .int .u32 0, .int .u32 0, .int .u32 0, .int .u32 0, .int .u32 0, .int .u32 0, .int .u32 0, .int .u32 0, .int .u32 0, .int .u32 0, .slice none 0 0]
abbrev rd1 (v : Nat) (s : Bool) (path : ByteArray) : Array Value := #[.int .u32 v, .bool s, .string path, .string ⟨#[]⟩, .slice none 0 0, .int .u32 0, .int .u32 0, .int .u32 0, .int .u32 0, .int .u32 0, .int .u32 0, .int .u32 0, .int .u32 0, .int .u32 0, .int .u32 0, .slice none 0 0]
theorem nums_rd {pb : Nat} {v : Nat} {s : Bool} {path : ByteArray} {p : Pk} {cs : Array Value} (h : Nums pb 81 (rd1 v s path) 5 10 (sums p.counts) cs) : cs = rdArr v s path ⟨#[]⟩ (.slice none 0 0) (fun k => (p.elems (k + 1)).length) (.slice none 0 0) := by
  have hsz : cs.size = 16 := h.size
  have a := fun j hj => h.at_ j _ hj (p.ends_at j hj)
  have f := h.far
  apply Array.ext_getElem?
  intro i
  match i with
  | 0 => exact f 0 (by omega)
  | 1 => exact f 1 (by omega)
  | 2 => exact f 2 (by omega)
  | 3 => exact f 3 (by omega)
  | 4 => exact f 4 (by omega)
  | 5 => exact a 0 (by omega)
  | 6 => exact a 1 (by omega)
  | 7 => exact a 2 (by omega)
  | 8 => exact a 3 (by omega)
  | 9 => exact a 4 (by omega)
  | 10 => exact a 5 (by omega)
  | 11 => exact a 6 (by omega)
  | 12 => exact a 7 (by omega)
  | 13 => exact a 8 (by omega)
  | 14 => exact a 9 (by omega)
  | 15 => exact f 15 (by omega)
  | i + 16 => rw [Array.getElem?_eq_none (by omega), Array.getElem?_eq_none (by show 16 ≤ i + 16; omega)]
set_option maxRecDepth 100000 in
set_option maxHeartbeats 1000000 in
theorem seek_any {T : TypeId} {R : Nat → Option Value} {b q : Nat} {t : ByteArray} {i : Nat} {w : World} (h : Rs T R b q t i w) (hi : i ≤ 1000000000) :
    Calls Tryz.prog 76 #[.pointer (some ⟨b, q, none⟩), .int .i64 0, .int .i64 1] w fun e w' => e = .returned (.tuple #[.int .i64 i, .nilIface]) ∧ Fr [b] w w' := by
  obtain ⟨pr, h3⟩ := h
  have c0 := h3.c0
  have c1 := h3.c1
  have c2 := h3.c2
  have f0 := h3.f q
  have f1 := h3.f (q + 1)
  have f2 := h3.f (q + 2)
  have i0 : (0 : Int) ≤ i := by omega
  have i1 : (i : Int) ≤ 1000000000 := by omega
  clear h3
  go_enter Tryz.func76, Tryz.ntmps76
  go_wp2
  go_returns
  exact ⟨rfl, (by (repeat' (first | (with_reducible exact Fr.refl _ _) | (with_reducible assumption) | (with_reducible refine Fr.drewN ?_ _) | (with_reducible refine Fr.alloc ?_ _) | (with_reducible refine Fr.drew ?_) | (with_reducible refine Fr.setCell ?_ (.inl (by simp)) _) | (with_reducible refine Fr.setCell ?_ (.inr ?_) _) | go_size)))⟩
set_option maxRecDepth 100000 in
set_option maxHeartbeats 4000000 in
theorem newPkgDecoder_0 (path t : ByteArray) (p : Pk) (fp : List UInt8) (w : World) (ht : t = str (p.body 0 false ++ fp)) (hfp : fp.length = 8) (hn : 1 ≤ (p.elems 10).length) (hc : (p.elems 10).length ≤ 1000000) (hz : (szs (p.elems 10)).sum ≤ 100000000)
    (hi : w.cell? ⟨0, 0, none⟩ = some (.int .u32 1)) (hr : w.cell? ⟨1, 0, none⟩ = some (.int .u32 0)) :
    Calls Tryz.prog 32 #[.string path, .string t] w fun e w' => ∃ g c, e = .returned (.agg (rdArr 0 false path (str (p.data ++ fp)) (.slice (some ⟨g, 0, none⟩) (p.elems 10).length c) (fun k => (p.elems (k + 1)).length) (.slice none 0 0))) ∧ (p.elems 10).length ≤ c ∧ w.heap.size ≤ g ∧ (∀ j, j < (p.elems 10).length → w'.cell? ⟨g, j, none⟩ = some (.int .u32 ((p.sizes.take (j + 1)).sum : Nat))) ∧ Below w.heap.size w w' := by
  obtain ⟨w0, hw0⟩ : ∃ w0, w0 = (w.alloc (.cells (rdZ ⟨#[]⟩) 81)).alloc (.cells (rdZ path) 81) := ⟨_, rfl⟩
  have b0 : Below w.heap.size w w0 := by rw [hw0]; exact Below.alloc (Below.alloc (Below.refl _ _) (Nat.le_refl _) _) (by simp) _
  have kA : Blk w0 w.heap.size 81 (rdZ ⟨#[]⟩) := by rw [hw0]; exact (Blk.new w _ _).alloc _
  have kP : Blk w0 (w.heap.size + 1) 81 (rdZ path) := by rw [hw0]; exact Blk.new1 w _ _ _
  obtain ⟨pb, hpb⟩ : ∃ pb, pb = w.heap.size + 1 := ⟨_, rfl⟩
  rw [← hpb] at kP
  obtain ⟨s0, s1, s2, s3, s4, s5⟩ := body_sat 0 false p fp t ht
  have hdl : p.data.length = (szs (p.elems 10)).sum := dat_len (p.elems 10)
  have hhd := hdLen_le 0 false
  have ht9 : t.size ≤ 1000000000 := by omega
  obtain ⟨N, hN⟩ : ∃ N, N = (p.elems 10).length := ⟨_, rfl⟩
  have HE := Lib.hid (show (∀ x ∈ sums p.counts, x < 4294967296) ∧ (∀ x ∈ sums p.sizes, x < 4294967296) from by
    refine ⟨fun x hx => ?_, fun x hx => ?_⟩
    · have h1 := sums_le _ x hx
      have h2 : p.counts.sum = (p.elems 10).length := (p.elems_len 10).symm
      omega
    · have h1 := sums_le _ x hx
      have h2 : p.sizes.sum = (szs (p.elems 10)).sum := rfl
      omega)
  have L1 := Lib.hid (show (sums p.counts).length = 10 from by rw [sums_len, Pk.counts_len])
  have L2 := Lib.hid (show (sums p.sizes).length = N from by rw [sums_len, Pk.sizes_len, hN])
  have SA := Lib.hid (fun j (h : j < N) => sums_at p.sizes j (by rw [Pk.sizes_len, ← hN]; exact h))
  rw [← hN] at hn hc s4 s5 ⊢
  have HDL := Lib.hid hdl
  have HPB := Lib.hid hpb
  have HW := Lib.hid hw0
  have B0 := Lib.hid b0
  have KA := Lib.hid kA
  have KP := Lib.hid kP
  have S0 := Lib.hid s0
  have S1 := Lib.hid s1
  have S2 := Lib.hid s2
  have S3 := Lib.hid s3
  have S4 := Lib.hid s4
  have S5 := Lib.hid s5
  have HI := Lib.hid hi
  have HR := Lib.hid hr
  have HNN := Lib.hid hN
  have NZ := Lib.hid (show (N : Int) = ((p.elems 10).length : Nat) from by rw [hN])
  have GI := Lib.hid (show 0 < w.heap.size ∧ 1 < w.heap.size from ⟨World.block_lt_of_cell? w _ hi, World.block_lt_of_cell? w _ hr⟩)
  have m0 : (1 : Int) ≤ N := by omega
  have m1 : (N : Int) ≤ 1000000 := by omega
  clear ht hi hr b0 kA kP s0 s1 s2 s3 s4 s5 hw0 hN hdl hpb
  go_enter Tryz.func32, Tryz.ntmps32
  go_wp2_with fail
  rw [← HPB.out, ← HW.out]
  refine (newReader_any t w0).mono ?_
  rintro e w1 ⟨rb, rfl, hrb, kr, b1⟩
  have zW := B0.out.size
  have zP := KP.out.lt
  have rbn : rb ≠ pb := by omega
  have rbw : w.heap.size < rb := by have := HPB.out; omega
  have rbn2 : rb ≠ w.heap.size := by omega
  have pbn : pb ≠ w.heap.size := by have := HPB.out; omega
  have pbw : w.heap.size < pb := by have := HPB.out; omega
  have R1 := Lib.hid (Rs.new kr)
  have B1 := Lib.hid (B0.out.trans (b1.mono B0.out.size))
  have KA1 := Lib.hid (KA.out.here b1)
  have KP1 := Lib.hid (KP.out.here b1)
  have z1 := b1.size
  have rz1 := kr.lt
  clear kr b1 KA KP HW B0
  obtain ⟨w2, hw2⟩ : ∃ x, x = w1.alloc (.cells #[.int .u32 0] 53) := ⟨_, rfl⟩
  have b2 : Below w1.heap.size w1 w2 := by rw [hw2]; exact Below.alloc (Below.refl _ _) (Nat.le_refl _) _
  have k2 : Blk w2 w1.heap.size 53 #[.int .u32 0] := by rw [hw2]; exact Blk.new _ _ _
  have zc1 := KP1.out.lt
  have za1 := KA1.out.lt
  have zw1 := B1.out.size
  have rz1' := R1.out.lt
  have RD1 := Lib.hid (readUint32_any (R1.out.here b2) 0 (by first | omega | decide) S0.out ht9 w1.heap.size 0 _ (k2.cell 0) (k2.frozen 0) (by omega))
  have HW2 := Lib.hid hw2
  have K2 := Lib.hid k2
  have KA2 := Lib.hid (KA1.out.here b2)
  have KP2 := Lib.hid (KP1.out.here b2)
  have B2 := Lib.hid (B1.out.trans (b2.mono B1.out.size))
  clear hw2 k2 b2
  go_wp2_with fail
  rw [← HW2.out]
  refine RD1.out.mono ?_
  rintro e w4 ⟨rfl, r4, w3, hw4, f3⟩
  have KA3 := KA2.out.fr f3 (by simpa using rbn2.symm)
  have KP3 := KP2.out.fr f3 (by simpa using rbn.symm)
  have KK3 := K2.out.fr f3 (by simp; omega)
  have bb3 := below_fr B2.out f3 (fun q hq => by rw [List.mem_singleton.1 hq]; omega) B2.out.size
  have zz3 := f3.size
  have zy2 := K2.out.lt
  have R4 := Lib.hid (show Rs 85 (fun _ => none) rb 0 t (0 + 4) w4 from r4)
  have KA4 := Lib.hid (show Blk w4 w.heap.size 81 _ from by rw [hw4]; exact KA3.far (by simp; omega) _)
  have KP4 := Lib.hid (show Blk w4 pb 81 _ from by rw [hw4]; exact KP3.far (by simp; omega) _)
  have B4 := Lib.hid (show Below w.heap.size w w4 from by rw [hw4]; exact bb3.setCell (by simp; omega) _)
  have x4 : w4.cell? ⟨w1.heap.size, 0, none⟩ = some (.int .u32 0) := by rw [hw4]; exact (KK3.set_ 0 _).cell 0
  have zn4 : w1.heap.size < w4.heap.size := by rw [hw4]; simp [World.setCell]; omega
  clear RD1 r4 hw4 f3 KA3 KP3 KK3 bb3 KA2 KP2 B2 HW2 KA1 KP1 R1 zz3
  have p0 := KP4.out.cell 0
  have g0 := KP4.out.frozen 0
  go_wp2_with fail
  refine (assert_true _).mono ?_
  rintro e w5 ⟨rfl, n5, rfl⟩
  go_wp2_with fail
  obtain ⟨w6, hw6⟩ : ∃ x, x = (w4.drewN n5).setCell ⟨pb, 0, none⟩ (.int .u32 0) := ⟨_, rfl⟩
  rw [← hw6]
  have f6 : Fr [pb] w4 w6 := by rw [hw6]; exact ((Fr.refl [pb] w4).drewN n5).setCell (.inl (by simp)) _
  have R6 := Lib.hid (R4.out.fr f6 (by simpa using rbn))
  have KA6 := Lib.hid (KA4.out.fr f6 (by simpa using pbn.symm))
  have KP6 := Lib.hid (show Blk w6 pb 81 _ from by rw [hw6]; exact (KP4.out.drewN n5).set_ 0 _)
  have B6 := Lib.hid (below_fr B4.out f6 (fun q hq => by rw [List.mem_singleton.1 hq]; have := HPB.out; omega) B4.out.size)
  have zs6 := f6.size
  clear f6 hw6 R4 KA4 KP4 B4
  refine (has0_any 0 w6 (keep_cell B6.out HI.out) (keep_cell B6.out HR.out)).mono ?_
  rintro e w7 ⟨rfl, hw7⟩
  rw [hw7]
  clear hw7
  rw [show decide (1 ≤ 0) = false from rfl]
  have hh : hdLen 0 false = 4 := by unfold hdLen; rw [flagB_len]; rfl
  have kj : Blk w6 pb 81 (rd1 0 false path) := KP6.out
  have S2' := S2.out
  rw [hh] at S2'
  have RS := readUint32s_any (show Rs 85 (fun _ => none) rb 0 t 4 w6 from R6.out) (sums p.counts) HE.out.1 S2' ht9 pb 5 10 81 _ kj (by rw [L1.out]; show 5 + 10 ≤ 16; decide) (by rw [L1.out]; decide) rbn.symm
  rw [L1.out] at RS
  have RSH := Lib.hid RS
  have HH := Lib.hid hh
  have zb6 := B6.out.size
  clear RS S2' kj hh
  go_wp2_with fail
  refine RSH.out.mono ?_
  rintro e w20 ⟨rfl, r20, f20, cs20, k20, nm20⟩
  rw [nums_rd nm20] at k20
  have R20 := Lib.hid r20
  have KP20 := Lib.hid k20
  have KA20 := Lib.hid (KA6.out.fr f20 (by simp; omega))
  have B20 := Lib.hid (below_fr B6.out f20 (fun q hq => by simp only [List.mem_cons, List.not_mem_nil, or_false] at hq; omega) B6.out.size)
  clear r20 f20 k20 nm20 RSH R6 KA6 KP6 B6
  go_wp2_with fail
  refine (assert_true _).mono ?_
  rintro e w21 ⟨rfl, n21, rfl⟩
  have c14 : (w20.drewN n21).cell? ⟨pb, 14, none⟩ = some (.int .u32 N) := by
    have h := (KP20.out.drewN n21).cell 14
    rw [h, NZ.out]
    rfl
  obtain ⟨i0, hi0, hz0, hz1, hz2⟩ := info_parts Tryz.infoU32
  obtain ⟨M, hM⟩ : ∃ M, M = madeCells (Value.int .u32 0).cells (N * i0.size) := ⟨_, rfl⟩
  have c4 := ((KP20.out.drewN n21).alloc (.cells M 53)).cell 4
  have e4 := ((KP20.out.drewN n21).alloc (.cells M 53)).frozen 4
  have hMs : M.size = N := by rw [hM, size_madeCells, hz1, Nat.mul_one]
  have hmk : ∀ W : World, (Instr.makeSlice 77 (.int .u32 (N : Int)) (.int .u32 (N : Int))).run Tryz.prog W = .ok (.slice (some ⟨W.heap.size, 0, none⟩) N N) (W.alloc (.cells M 53)) := fun W => by
    have h := run_makeSlice (P := Tryz.prog) W 77 53 i0 (.int .u32 0) Tryz.underlying77 hi0 hz0 .u32 .u32 (N : Int) (N : Int) (by omega) (by omega) (by rw [hz1]; omega) (by rw [hz2]; omega) (by omega)
    rw [show ((N : Int)).toNat = N from by omega, ← hM] at h
    exact h
  have HMS := Lib.hid hMs
  have zk20 := KP20.out.lt
  clear hM hMs hz0 hz1 hz2 hi0
  go_wp2_with fail
  obtain ⟨w22, hw22⟩ : ∃ x, x = ((w20.drewN n21).alloc (.cells M 53)).setCell ⟨pb, 4, none⟩ (.slice (some ⟨w20.heap.size, 0, none⟩) N N) := ⟨_, rfl⟩
  rw [← hw22]
  have f22 : Fr [pb] w20 w22 := by rw [hw22]; exact (((Fr.refl [pb] w20).drewN n21).alloc _).setCell (.inl (by simp)) _
  have R22 := Lib.hid (R20.out.fr f22 (by simpa using rbn))
  have KA22 := Lib.hid (KA20.out.fr f22 (by simpa using pbn.symm))
  have zr20 := R20.out.lt
  have zb20 := B20.out.size
  have KP22 := Lib.hid (show Blk w22 pb 81 (rdArr 0 false path ⟨#[]⟩ (.slice (some ⟨w20.heap.size, 0, none⟩) N N) (fun k => (p.elems (k + 1)).length) (.slice none 0 0)) from by
    rw [hw22]
    exact ((KP20.out.drewN n21).alloc _).set_ 4 _)
  have KM22 : Blk w22 w20.heap.size 53 M := by
    rw [hw22]
    exact (Blk.new (w20.drewN n21) _ _).far (by show w20.heap.size ≠ pb; omega) _
  have B22 := Lib.hid (below_fr B20.out f22 (fun q hq => by rw [List.mem_singleton.1 hq]; omega) B20.out.size)
  have S3' := S3.out
  rw [HH.out] at S3'
  have RT := readUint32s_any R22.out (sums p.sizes) HE.out.2 S3' ht9 w20.heap.size 0 N 53 M KM22 (by rw [L2.out, HMS.out]; omega) (by rw [L2.out]; omega) (by omega)
  rw [L2.out] at RT
  have RTH := Lib.hid RT
  clear RT S3' KM22 f22 hw22 c14 c4 e4 hmk R20 KA20 KP20 B20
  go_wp2_with fail
  refine RTH.out.mono ?_
  rintro e w23 ⟨rfl, r23, f23, cs23, k23, nm23⟩
  have zm := HMS.out
  have zs23 := nm23.size
  have EN := Lib.hid (show ∀ j, j < N → w23.cell? ⟨w20.heap.size, j, none⟩ = some (.int .u32 ((p.sizes.take (j + 1)).sum : Nat)) from fun j hj => by
    rw [k23.cell]
    have h := nm23.at_ j _ hj (SA.out j hj)
    rw [Nat.zero_add] at h
    exact h)
  have z22 := KP22.out.lt
  have R23 := Lib.hid r23
  have KA23 := Lib.hid (KA22.out.fr f23 (by simp; omega))
  have KP23 := Lib.hid (KP22.out.fr f23 (by simp; omega))
  have B23 := Lib.hid (below_fr B22.out f23 (fun q hq => by simp only [List.mem_cons, List.not_mem_nil, or_false] at hq; omega) B22.out.size)
  have rq := r23.lt
  clear r23 f23 k23 nm23 RTH R22 KA22 KP22 B22
  go_wp2_with fail
  refine (assert_true _).mono ?_
  rintro e w24 ⟨rfl, n24, rfl⟩
  obtain ⟨q, hq⟩ : ∃ q, q = 4 + 4 * 10 + 4 * N := ⟨_, rfl⟩
  have SK := Lib.hid (seek_any (w := w23.drewN n24) (show Rs 85 (fun _ => none) rb 0 t q (w23.drewN n24) from by rw [hq]; exact R23.out.here (below_drewN (Below.refl _ _) _)) (by omega))
  obtain ⟨D, hD⟩ : ∃ D, D = str (p.data ++ fp) := ⟨_, rfl⟩
  have EX := Lib.hid (show t.extract q t.size = D from by
    have h := S4.out
    rw [HH.out] at h
    rw [hq, hD]
    exact h)
  have hDs : D.size = (szs (p.elems 10)).sum + 8 := by rw [hD, str_size, List.length_append, HDL.out, hfp]
  have hqt : q ≤ t.size := by have h := S5.out; rw [HH.out] at h; omega
  have q0 : (0 : Int) ≤ q := by omega
  have q1 : (q : Int) ≤ t.size := by omega
  have HD := Lib.hid hD
  clear hq hD hqt
  go_wp2_with fail
  refine SK.out.mono ?_
  rintro e w25 ⟨rfl, f25⟩
  have KA25 := Lib.hid ((KA23.out.drewN n24).fr f25 (by simpa using rbn2.symm))
  have KP25 := Lib.hid ((KP23.out.drewN n24).fr f25 (by simpa using rbn.symm))
  have B25 := Lib.hid (below_fr (below_drewN B23.out n24) f25 (fun q hq => by rw [List.mem_singleton.1 hq]; omega) B23.out.size)
  have EN25 := Lib.hid (show ∀ j, j < N → w25.cell? ⟨w20.heap.size, j, none⟩ = some (.int .u32 ((p.sizes.take (j + 1)).sum : Nat)) from fun j hj => f25.cell (EN.out j hj) (by simp; omega))
  clear f25 SK EN KA23 KP23 B23 R23
  go_wp2_with fail
  refine (assert_true _).mono ?_
  rintro e w26 ⟨rfl, n26, rfl⟩
  have c3 := (KP25.out.drewN n26).cell 3
  have e3 := (KP25.out.drewN n26).frozen 3
  go_wp2_with fail
  rw [EX.out]
  obtain ⟨w27, hw27⟩ : ∃ x, x = (w25.drewN n26).setCell ⟨pb, 3, none⟩ (.string D) := ⟨_, rfl⟩
  rw [← hw27]
  have f27 : Fr [pb] w25 w27 := by rw [hw27]; exact ((Fr.refl [pb] w25).drewN n26).setCell (.inl (by simp)) _
  have KA27 := Lib.hid (KA25.out.fr f27 (by simpa using pbn.symm))
  have KP27 := Lib.hid (show Blk w27 pb 81 (rdArr 0 false path D (.slice (some ⟨w20.heap.size, 0, none⟩) N N) (fun k => (p.elems (k + 1)).length) (.slice none 0 0)) from by
    rw [hw27]
    exact (KP25.out.drewN n26).set_ 3 _)
  have EN27 := Lib.hid (show ∀ j, j < N → w27.cell? ⟨w20.heap.size, j, none⟩ = some (.int .u32 ((p.sizes.take (j + 1)).sum : Nat)) from fun j hj => f27.cell (EN25.out j hj) (by simp; omega))
  have B27 := Lib.hid (below_fr B25.out f27 (fun q hq => by rw [List.mem_singleton.1 hq]; omega) B25.out.size)
  obtain ⟨m, hm⟩ : ∃ m, N = m + 1 := ⟨N - 1, by omega⟩
  obtain ⟨T, hT⟩ : ∃ T, T = (szs (p.elems 10)).sum := ⟨_, rfl⟩
  have q7 : w27.cell? ⟨w20.heap.size, m, none⟩ = some (.int .u32 T) := by
    rw [EN27.out m (by omega), hT, ← hm, List.take_of_length_le (by rw [Pk.sizes_len, ← HNN.out]; exact Nat.le_refl _)]
    rfl
  have q3 := KP27.out.cell 3
  have q4 := KP27.out.cell 4
  have hN1 : (N : Int) - 1 = (m : Int) := by omega
  have t0 : (0 : Int) ≤ T := by omega
  have t1 : (T : Int) ≤ 100000000 := by omega
  have d0 : (D.size : Int) - 8 = T := by omega
  have i7 : (0 : Int) ≤ (m : Int) := by omega
  have i8 : (m : Int) < N := by omega
  have w7' : IntKind.i64.wrap (T : Int) = T := by rw [IntKind.wrap_i64]; omega
  have wm' : IntKind.i64.wrap (m : Int) = m := by rw [IntKind.wrap_i64]; omega
  have HM := Lib.hid hm
  clear f27 hw27 c3 e3 KA25 KP25 EN25 B25 EX hDs hT hm
  go_quiet ((go_at_call 67; exact Calls.quiet_of (assert_true _)))
  obtain ⟨O, hO⟩ : ∃ O, O = rdArr 0 false path D (.slice (some ⟨w20.heap.size, 0, none⟩) N N) (fun k => (p.elems (k + 1)).length) (.slice none 0 0) := ⟨_, rfl⟩
  rw [← hO] at KP27
  have SZ := Lib.hid (show (Tryz.prog.info? 81).map (·.size) = some O.size from by rw [hO]; kernel_rfl)
  have ONE := Lib.hid (show O.all (·.oneCell') = true from by rw [hO]; simp [Value.oneCell'])
  have SZ2 := Lib.hid (show (rdZ ⟨#[]⟩).size = O.size from by rw [hO]; rfl)
  have HO := Lib.hid hO
  have KA28 := Lib.hid (KA27.out.drewN nq)
  have KP28 := Lib.hid (KP27.out.drewN nq)
  clear hO q3 q4 q7
  go_wp2_with (first | (refine wpList_load_row rfl 81 (.tmp 5) (by rfl) pb (by rfl) 81 _ (0, 0) _ KP28.out Tryz.underlying81 rfl SZ.out ?_) | (refine wpList_store_row rfl 81 (.tmp 4) (.tmp 85) (by rfl) w.heap.size O (by rfl) (by rfl) 81 _ KA28.out SZ.out SZ2.out ONE.out ?_))
  refine bodyPost_ret (v := .agg O) (results_cell_row rfl _ _ w.heap.size 81 _ (0, 0) _ rfl (setRow_heap _ _ _ _ _ _ KA28.out) Tryz.underlying81 rfl SZ.out) rfl ?_
  have f29 : Fr [w.heap.size] (w27.drewN nq) ((w27.drewN nq).setRow w.heap.size O) := fr_setRow (Fr.refl _ _) (.inl (by simp)) _
  refine ⟨w20.heap.size, N, by rw [HO.out, HD.out], Nat.le_refl _, zb20, fun j hj => f29.cell (EN27.out j hj) (by simp; omega), below_fr (below_drewN B27.out nq) f29 (fun q hq => by rw [List.mem_singleton.1 hq]; exact Nat.le_refl _) B27.out.size⟩
set_option maxRecDepth 100000 in
set_option maxHeartbeats 4000000 in
theorem newPkgDecoder_1 (path t : ByteArray) (v : Nat) (p : Pk) (fp : List UInt8) (w : World) (ht : t = str (p.body v false ++ fp)) (hfp : fp.length = 8) (hv : v ≤ 5) (hv1 : 1 ≤ v) (hn : 1 ≤ (p.elems 10).length) (hc : (p.elems 10).length ≤ 1000000) (hz : (szs (p.elems 10)).sum ≤ 100000000)
    (hi : w.cell? ⟨0, 0, none⟩ = some (.int .u32 1)) (hr : w.cell? ⟨1, 0, none⟩ = some (.int .u32 0)) :
    Calls Tryz.prog 32 #[.string path, .string t] w fun e w' => ∃ g c, e = .returned (.agg (rdArr v false path (str (p.data ++ fp)) (.slice (some ⟨g, 0, none⟩) (p.elems 10).length c) (fun k => (p.elems (k + 1)).length) (.slice none 0 0))) ∧ (p.elems 10).length ≤ c ∧ w.heap.size ≤ g ∧ (∀ j, j < (p.elems 10).length → w'.cell? ⟨g, j, none⟩ = some (.int .u32 ((p.sizes.take (j + 1)).sum : Nat))) ∧ Below w.heap.size w w' := by
  have v0 : (1 : Int) ≤ v := by omega
  have v1 : (v : Int) ≤ 5 := by omega
  obtain ⟨w0, hw0⟩ : ∃ w0, w0 = (w.alloc (.cells (rdZ ⟨#[]⟩) 81)).alloc (.cells (rdZ path) 81) := ⟨_, rfl⟩
  have b0 : Below w.heap.size w w0 := by rw [hw0]; exact Below.alloc (Below.alloc (Below.refl _ _) (Nat.le_refl _) _) (by simp) _
  have kA : Blk w0 w.heap.size 81 (rdZ ⟨#[]⟩) := by rw [hw0]; exact (Blk.new w _ _).alloc _
  have kP : Blk w0 (w.heap.size + 1) 81 (rdZ path) := by rw [hw0]; exact Blk.new1 w _ _ _
  obtain ⟨pb, hpb⟩ : ∃ pb, pb = w.heap.size + 1 := ⟨_, rfl⟩
  rw [← hpb] at kP
  obtain ⟨s0, s1, s2, s3, s4, s5⟩ := body_sat v false p fp t ht
  have hdl : p.data.length = (szs (p.elems 10)).sum := dat_len (p.elems 10)
  have hhd := hdLen_le v false
  have ht9 : t.size ≤ 1000000000 := by omega
  obtain ⟨N, hN⟩ : ∃ N, N = (p.elems 10).length := ⟨_, rfl⟩
  have HE := Lib.hid (show (∀ x ∈ sums p.counts, x < 4294967296) ∧ (∀ x ∈ sums p.sizes, x < 4294967296) from by
    refine ⟨fun x hx => ?_, fun x hx => ?_⟩
    · have h1 := sums_le _ x hx
      have h2 : p.counts.sum = (p.elems 10).length := (p.elems_len 10).symm
      omega
    · have h1 := sums_le _ x hx
      have h2 : p.sizes.sum = (szs (p.elems 10)).sum := rfl
      omega)
  have L1 := Lib.hid (show (sums p.counts).length = 10 from by rw [sums_len, Pk.counts_len])
  have L2 := Lib.hid (show (sums p.sizes).length = N from by rw [sums_len, Pk.sizes_len, hN])
  have SA := Lib.hid (fun j (h : j < N) => sums_at p.sizes j (by rw [Pk.sizes_len, ← hN]; exact h))
  rw [← hN] at hn hc s4 s5 ⊢
  have HDL := Lib.hid hdl
  have HPB := Lib.hid hpb
  have HW := Lib.hid hw0
  have B0 := Lib.hid b0
  have KA := Lib.hid kA
  have KP := Lib.hid kP
  have S0 := Lib.hid s0
  have S1 := Lib.hid s1
  have S2 := Lib.hid s2
  have S3 := Lib.hid s3
  have S4 := Lib.hid s4
  have S5 := Lib.hid s5
  have HI := Lib.hid hi
  have HR := Lib.hid hr
  have HNN := Lib.hid hN
  have NZ := Lib.hid (show (N : Int) = ((p.elems 10).length : Nat) from by rw [hN])
  have GI := Lib.hid (show 0 < w.heap.size ∧ 1 < w.heap.size from ⟨World.block_lt_of_cell? w _ hi, World.block_lt_of_cell? w _ hr⟩)
  have m0 : (1 : Int) ≤ N := by omega
  have m1 : (N : Int) ≤ 1000000 := by omega
  clear ht hi hr b0 kA kP s0 s1 s2 s3 s4 s5 hw0 hN hdl hpb
  go_enter Tryz.func32, Tryz.ntmps32
  go_wp2_with fail
  rw [← HPB.out, ← HW.out]
  refine (newReader_any t w0).mono ?_
  rintro e w1 ⟨rb, rfl, hrb, kr, b1⟩
  have zW := B0.out.size
  have zP := KP.out.lt
  have rbn : rb ≠ pb := by omega
  have rbw : w.heap.size < rb := by have := HPB.out; omega
  have rbn2 : rb ≠ w.heap.size := by omega
  have pbn : pb ≠ w.heap.size := by have := HPB.out; omega
  have pbw : w.heap.size < pb := by have := HPB.out; omega
  have R1 := Lib.hid (Rs.new kr)
  have B1 := Lib.hid (B0.out.trans (b1.mono B0.out.size))
  have KA1 := Lib.hid (KA.out.here b1)
  have KP1 := Lib.hid (KP.out.here b1)
  have z1 := b1.size
  have rz1 := kr.lt
  clear kr b1 KA KP HW B0
  obtain ⟨w2, hw2⟩ : ∃ x, x = w1.alloc (.cells #[.int .u32 0] 53) := ⟨_, rfl⟩
  have b2 : Below w1.heap.size w1 w2 := by rw [hw2]; exact Below.alloc (Below.refl _ _) (Nat.le_refl _) _
  have k2 : Blk w2 w1.heap.size 53 #[.int .u32 0] := by rw [hw2]; exact Blk.new _ _ _
  have zc1 := KP1.out.lt
  have za1 := KA1.out.lt
  have zw1 := B1.out.size
  have rz1' := R1.out.lt
  have RD1 := Lib.hid (readUint32_any (R1.out.here b2) v (by first | omega | decide) S0.out ht9 w1.heap.size 0 _ (k2.cell 0) (k2.frozen 0) (by omega))
  have HW2 := Lib.hid hw2
  have K2 := Lib.hid k2
  have KA2 := Lib.hid (KA1.out.here b2)
  have KP2 := Lib.hid (KP1.out.here b2)
  have B2 := Lib.hid (B1.out.trans (b2.mono B1.out.size))
  clear hw2 k2 b2
  go_wp2_with fail
  rw [← HW2.out]
  refine RD1.out.mono ?_
  rintro e w4 ⟨rfl, r4, w3, hw4, f3⟩
  have KA3 := KA2.out.fr f3 (by simpa using rbn2.symm)
  have KP3 := KP2.out.fr f3 (by simpa using rbn.symm)
  have KK3 := K2.out.fr f3 (by simp; omega)
  have bb3 := below_fr B2.out f3 (fun q hq => by rw [List.mem_singleton.1 hq]; omega) B2.out.size
  have zz3 := f3.size
  have zy2 := K2.out.lt
  have R4 := Lib.hid (show Rs 85 (fun _ => none) rb 0 t (0 + 4) w4 from r4)
  have KA4 := Lib.hid (show Blk w4 w.heap.size 81 _ from by rw [hw4]; exact KA3.far (by simp; omega) _)
  have KP4 := Lib.hid (show Blk w4 pb 81 _ from by rw [hw4]; exact KP3.far (by simp; omega) _)
  have B4 := Lib.hid (show Below w.heap.size w w4 from by rw [hw4]; exact bb3.setCell (by simp; omega) _)
  have x4 : w4.cell? ⟨w1.heap.size, 0, none⟩ = some (.int .u32 v) := by rw [hw4]; exact (KK3.set_ 0 _).cell 0
  have zn4 : w1.heap.size < w4.heap.size := by rw [hw4]; simp [World.setCell]; omega
  clear RD1 r4 hw4 f3 KA3 KP3 KK3 bb3 KA2 KP2 B2 HW2 KA1 KP1 R1 zz3
  have p0 := KP4.out.cell 0
  have g0 := KP4.out.frozen 0
  go_wp2_with fail
  refine (assert_true _).mono ?_
  rintro e w5 ⟨rfl, n5, rfl⟩
  go_wp2_with fail
  obtain ⟨w6, hw6⟩ : ∃ x, x = (w4.drewN n5).setCell ⟨pb, 0, none⟩ (.int .u32 v) := ⟨_, rfl⟩
  rw [← hw6]
  have f6 : Fr [pb] w4 w6 := by rw [hw6]; exact ((Fr.refl [pb] w4).drewN n5).setCell (.inl (by simp)) _
  have R6 := Lib.hid (R4.out.fr f6 (by simpa using rbn))
  have KA6 := Lib.hid (KA4.out.fr f6 (by simpa using pbn.symm))
  have KP6 := Lib.hid (show Blk w6 pb 81 _ from by rw [hw6]; exact (KP4.out.drewN n5).set_ 0 _)
  have B6 := Lib.hid (below_fr B4.out f6 (fun q hq => by rw [List.mem_singleton.1 hq]; have := HPB.out; omega) B4.out.size)
  have zs6 := f6.size
  clear f6 hw6 R4 KA4 KP4 B4
  refine (has0_any v w6 (keep_cell B6.out HI.out) (keep_cell B6.out HR.out)).mono ?_
  rintro e w7 ⟨rfl, hw7⟩
  rw [hw7]
  clear hw7
  rw [decide_eq_true hv1]
  have S1' := Lib.hid (show Sat t (0 + 4) (le4 0) from by have h := S1.out; unfold flagB at h; rw [if_pos hv1] at h; exact h)
  obtain ⟨w7, hw7⟩ : ∃ x, x = w6.alloc (.cells #[.int .u32 0] 53) := ⟨_, rfl⟩
  have b7 : Below w6.heap.size w6 w7 := by rw [hw7]; exact Below.alloc (Below.refl _ _) (Nat.le_refl _) _
  have k7 : Blk w7 w6.heap.size 53 #[.int .u32 0] := by rw [hw7]; exact Blk.new _ _ _
  have zc6 := KP6.out.lt
  have za6 := KA6.out.lt
  have zw6 := B6.out.size
  have rz6' := R6.out.lt
  have RD6 := Lib.hid (readUint32_any (R6.out.here b7) 0 (by first | omega | decide) S1'.out ht9 w6.heap.size 0 _ (k7.cell 0) (k7.frozen 0) (by omega))
  have HW7 := Lib.hid hw7
  have K7 := Lib.hid k7
  have KA7 := Lib.hid (KA6.out.here b7)
  have KP7 := Lib.hid (KP6.out.here b7)
  have B7 := Lib.hid (B6.out.trans (b7.mono B6.out.size))
  clear hw7 k7 b7
  go_wp2_with fail
  rw [← HW7.out]
  refine RD6.out.mono ?_
  rintro e w9 ⟨rfl, r9, w8, hw9, f8⟩
  have KA8 := KA7.out.fr f8 (by simpa using rbn2.symm)
  have KP8 := KP7.out.fr f8 (by simpa using rbn.symm)
  have KK8 := K7.out.fr f8 (by simp; omega)
  have bb8 := below_fr B7.out f8 (fun q hq => by rw [List.mem_singleton.1 hq]; omega) B7.out.size
  have zz8 := f8.size
  have zy7 := K7.out.lt
  have R9 := Lib.hid (show Rs 85 (fun _ => none) rb 0 t (0 + 4 + 4) w9 from r9)
  have KA9 := Lib.hid (show Blk w9 w.heap.size 81 _ from by rw [hw9]; exact KA8.far (by simp; omega) _)
  have KP9 := Lib.hid (show Blk w9 pb 81 _ from by rw [hw9]; exact KP8.far (by simp; omega) _)
  have B9 := Lib.hid (show Below w.heap.size w w9 from by rw [hw9]; exact bb8.setCell (by simp; omega) _)
  have x9 : w9.cell? ⟨w6.heap.size, 0, none⟩ = some (.int .u32 0) := by rw [hw9]; exact (KK8.set_ 0 _).cell 0
  have zn9 : w6.heap.size < w9.heap.size := by rw [hw9]; simp [World.setCell]; omega
  clear RD6 r9 hw9 f8 KA8 KP8 KK8 bb8 KA7 KP7 B7 HW7 KA6 KP6 R6 zz8
  have p1 := KP9.out.cell 1
  have g1 := KP9.out.frozen 1
  have hand : bits BinOp.and IntKind.u32 0 1 = 0 := by decide
  have x9' : w9.cell? ⟨w6.heap.size, 0, none⟩ = some (.int .u32 0) := x9
  go_wp2_with fail
  refine (assert_true _).mono ?_
  rintro e w10 ⟨rfl, n10, rfl⟩
  go_wp2_with fail
  obtain ⟨w11, hw11⟩ : ∃ x, x = (w9.drewN n10).setCell ⟨pb, 1, none⟩ (.bool false) := ⟨_, rfl⟩
  rw [← hw11]
  have f11 : Fr [pb] w9 w11 := by rw [hw11]; exact ((Fr.refl [pb] w9).drewN n10).setCell (.inl (by simp)) _
  have R11 := Lib.hid (R9.out.fr f11 (by simpa using rbn))
  have KA11 := Lib.hid (KA9.out.fr f11 (by simpa using pbn.symm))
  have KP11 := Lib.hid (show Blk w11 pb 81 _ from by rw [hw11]; exact (KP9.out.drewN n10).set_ 1 _)
  have B11 := Lib.hid (below_fr B9.out f11 (fun q hq => by rw [List.mem_singleton.1 hq]; have := HPB.out; omega) B9.out.size)
  have zs11 := f11.size
  clear f11 hw11 R9 KA9 KP9 B9
  have hh : hdLen v false = 8 := by unfold hdLen; rw [flagB_len]; rw [if_pos hv1]
  have kj : Blk w11 pb 81 (rd1 v false path) := KP11.out
  have S2' := S2.out
  rw [hh] at S2'
  have RS := readUint32s_any (show Rs 85 (fun _ => none) rb 0 t 8 w11 from R11.out) (sums p.counts) HE.out.1 S2' ht9 pb 5 10 81 _ kj (by rw [L1.out]; show 5 + 10 ≤ 16; decide) (by rw [L1.out]; decide) rbn.symm
  rw [L1.out] at RS
  have RSH := Lib.hid RS
  have HH := Lib.hid hh
  have zb11 := B11.out.size
  clear RS S2' kj hh
  go_wp2_with fail
  refine RSH.out.mono ?_
  rintro e w20 ⟨rfl, r20, f20, cs20, k20, nm20⟩
  rw [nums_rd nm20] at k20
  have R20 := Lib.hid r20
  have KP20 := Lib.hid k20
  have KA20 := Lib.hid (KA11.out.fr f20 (by simp; omega))
  have B20 := Lib.hid (below_fr B11.out f20 (fun q hq => by simp only [List.mem_cons, List.not_mem_nil, or_false] at hq; omega) B11.out.size)
  clear r20 f20 k20 nm20 RSH R11 KA11 KP11 B11
  go_wp2_with fail
  refine (assert_true _).mono ?_
  rintro e w21 ⟨rfl, n21, rfl⟩
  have c14 : (w20.drewN n21).cell? ⟨pb, 14, none⟩ = some (.int .u32 N) := by
    have h := (KP20.out.drewN n21).cell 14
    rw [h, NZ.out]
    rfl
  obtain ⟨i0, hi0, hz0, hz1, hz2⟩ := info_parts Tryz.infoU32
  obtain ⟨M, hM⟩ : ∃ M, M = madeCells (Value.int .u32 0).cells (N * i0.size) := ⟨_, rfl⟩
  have c4 := ((KP20.out.drewN n21).alloc (.cells M 53)).cell 4
  have e4 := ((KP20.out.drewN n21).alloc (.cells M 53)).frozen 4
  have hMs : M.size = N := by rw [hM, size_madeCells, hz1, Nat.mul_one]
  have hmk : ∀ W : World, (Instr.makeSlice 77 (.int .u32 (N : Int)) (.int .u32 (N : Int))).run Tryz.prog W = .ok (.slice (some ⟨W.heap.size, 0, none⟩) N N) (W.alloc (.cells M 53)) := fun W => by
    have h := run_makeSlice (P := Tryz.prog) W 77 53 i0 (.int .u32 0) Tryz.underlying77 hi0 hz0 .u32 .u32 (N : Int) (N : Int) (by omega) (by omega) (by rw [hz1]; omega) (by rw [hz2]; omega) (by omega)
    rw [show ((N : Int)).toNat = N from by omega, ← hM] at h
    exact h
  have HMS := Lib.hid hMs
  have zk20 := KP20.out.lt
  clear hM hMs hz0 hz1 hz2 hi0
  go_wp2_with fail
  obtain ⟨w22, hw22⟩ : ∃ x, x = ((w20.drewN n21).alloc (.cells M 53)).setCell ⟨pb, 4, none⟩ (.slice (some ⟨w20.heap.size, 0, none⟩) N N) := ⟨_, rfl⟩
  rw [← hw22]
  have f22 : Fr [pb] w20 w22 := by rw [hw22]; exact (((Fr.refl [pb] w20).drewN n21).alloc _).setCell (.inl (by simp)) _
  have R22 := Lib.hid (R20.out.fr f22 (by simpa using rbn))
  have KA22 := Lib.hid (KA20.out.fr f22 (by simpa using pbn.symm))
  have zr20 := R20.out.lt
  have zb20 := B20.out.size
  have KP22 := Lib.hid (show Blk w22 pb 81 (rdArr v false path ⟨#[]⟩ (.slice (some ⟨w20.heap.size, 0, none⟩) N N) (fun k => (p.elems (k + 1)).length) (.slice none 0 0)) from by
    rw [hw22]
    exact ((KP20.out.drewN n21).alloc _).set_ 4 _)
  have KM22 : Blk w22 w20.heap.size 53 M := by
    rw [hw22]
    exact (Blk.new (w20.drewN n21) _ _).far (by show w20.heap.size ≠ pb; omega) _
  have B22 := Lib.hid (below_fr B20.out f22 (fun q hq => by rw [List.mem_singleton.1 hq]; omega) B20.out.size)
  have S3' := S3.out
  rw [HH.out] at S3'
  have RT := readUint32s_any R22.out (sums p.sizes) HE.out.2 S3' ht9 w20.heap.size 0 N 53 M KM22 (by rw [L2.out, HMS.out]; omega) (by rw [L2.out]; omega) (by omega)
  rw [L2.out] at RT
  have RTH := Lib.hid RT
  clear RT S3' KM22 f22 hw22 c14 c4 e4 hmk R20 KA20 KP20 B20
  go_wp2_with fail
  refine RTH.out.mono ?_
  rintro e w23 ⟨rfl, r23, f23, cs23, k23, nm23⟩
  have zm := HMS.out
  have zs23 := nm23.size
  have EN := Lib.hid (show ∀ j, j < N → w23.cell? ⟨w20.heap.size, j, none⟩ = some (.int .u32 ((p.sizes.take (j + 1)).sum : Nat)) from fun j hj => by
    rw [k23.cell]
    have h := nm23.at_ j _ hj (SA.out j hj)
    rw [Nat.zero_add] at h
    exact h)
  have z22 := KP22.out.lt
  have R23 := Lib.hid r23
  have KA23 := Lib.hid (KA22.out.fr f23 (by simp; omega))
  have KP23 := Lib.hid (KP22.out.fr f23 (by simp; omega))
  have B23 := Lib.hid (below_fr B22.out f23 (fun q hq => by simp only [List.mem_cons, List.not_mem_nil, or_false] at hq; omega) B22.out.size)
  have rq := r23.lt
  clear r23 f23 k23 nm23 RTH R22 KA22 KP22 B22
  go_wp2_with fail
  refine (assert_true _).mono ?_
  rintro e w24 ⟨rfl, n24, rfl⟩
  obtain ⟨q, hq⟩ : ∃ q, q = 8 + 4 * 10 + 4 * N := ⟨_, rfl⟩
  have SK := Lib.hid (seek_any (w := w23.drewN n24) (show Rs 85 (fun _ => none) rb 0 t q (w23.drewN n24) from by rw [hq]; exact R23.out.here (below_drewN (Below.refl _ _) _)) (by omega))
  obtain ⟨D, hD⟩ : ∃ D, D = str (p.data ++ fp) := ⟨_, rfl⟩
  have EX := Lib.hid (show t.extract q t.size = D from by
    have h := S4.out
    rw [HH.out] at h
    rw [hq, hD]
    exact h)
  have hDs : D.size = (szs (p.elems 10)).sum + 8 := by rw [hD, str_size, List.length_append, HDL.out, hfp]
  have hqt : q ≤ t.size := by have h := S5.out; rw [HH.out] at h; omega
  have q0 : (0 : Int) ≤ q := by omega
  have q1 : (q : Int) ≤ t.size := by omega
  have HD := Lib.hid hD
  clear hq hD hqt
  go_wp2_with fail
  refine SK.out.mono ?_
  rintro e w25 ⟨rfl, f25⟩
  have KA25 := Lib.hid ((KA23.out.drewN n24).fr f25 (by simpa using rbn2.symm))
  have KP25 := Lib.hid ((KP23.out.drewN n24).fr f25 (by simpa using rbn.symm))
  have B25 := Lib.hid (below_fr (below_drewN B23.out n24) f25 (fun q hq => by rw [List.mem_singleton.1 hq]; omega) B23.out.size)
  have EN25 := Lib.hid (show ∀ j, j < N → w25.cell? ⟨w20.heap.size, j, none⟩ = some (.int .u32 ((p.sizes.take (j + 1)).sum : Nat)) from fun j hj => f25.cell (EN.out j hj) (by simp; omega))
  clear f25 SK EN KA23 KP23 B23 R23
  go_wp2_with fail
  refine (assert_true _).mono ?_
  rintro e w26 ⟨rfl, n26, rfl⟩
  have c3 := (KP25.out.drewN n26).cell 3
  have e3 := (KP25.out.drewN n26).frozen 3
  go_wp2_with fail
  rw [EX.out]
  obtain ⟨w27, hw27⟩ : ∃ x, x = (w25.drewN n26).setCell ⟨pb, 3, none⟩ (.string D) := ⟨_, rfl⟩
  rw [← hw27]
  have f27 : Fr [pb] w25 w27 := by rw [hw27]; exact ((Fr.refl [pb] w25).drewN n26).setCell (.inl (by simp)) _
  have KA27 := Lib.hid (KA25.out.fr f27 (by simpa using pbn.symm))
  have KP27 := Lib.hid (show Blk w27 pb 81 (rdArr v false path D (.slice (some ⟨w20.heap.size, 0, none⟩) N N) (fun k => (p.elems (k + 1)).length) (.slice none 0 0)) from by
    rw [hw27]
    exact (KP25.out.drewN n26).set_ 3 _)
  have EN27 := Lib.hid (show ∀ j, j < N → w27.cell? ⟨w20.heap.size, j, none⟩ = some (.int .u32 ((p.sizes.take (j + 1)).sum : Nat)) from fun j hj => f27.cell (EN25.out j hj) (by simp; omega))
  have B27 := Lib.hid (below_fr B25.out f27 (fun q hq => by rw [List.mem_singleton.1 hq]; omega) B25.out.size)
  obtain ⟨m, hm⟩ : ∃ m, N = m + 1 := ⟨N - 1, by omega⟩
  obtain ⟨T, hT⟩ : ∃ T, T = (szs (p.elems 10)).sum := ⟨_, rfl⟩
  have q7 : w27.cell? ⟨w20.heap.size, m, none⟩ = some (.int .u32 T) := by
    rw [EN27.out m (by omega), hT, ← hm, List.take_of_length_le (by rw [Pk.sizes_len, ← HNN.out]; exact Nat.le_refl _)]
    rfl
  have q3 := KP27.out.cell 3
  have q4 := KP27.out.cell 4
  have hN1 : (N : Int) - 1 = (m : Int) := by omega
  have t0 : (0 : Int) ≤ T := by omega
  have t1 : (T : Int) ≤ 100000000 := by omega
  have d0 : (D.size : Int) - 8 = T := by omega
  have i7 : (0 : Int) ≤ (m : Int) := by omega
  have i8 : (m : Int) < N := by omega
  have w7' : IntKind.i64.wrap (T : Int) = T := by rw [IntKind.wrap_i64]; omega
  have wm' : IntKind.i64.wrap (m : Int) = m := by rw [IntKind.wrap_i64]; omega
  have HM := Lib.hid hm
  clear f27 hw27 c3 e3 KA25 KP25 EN25 B25 EX hDs hT hm
  go_quiet ((go_at_call 67; exact Calls.quiet_of (assert_true _)))
  obtain ⟨O, hO⟩ : ∃ O, O = rdArr v false path D (.slice (some ⟨w20.heap.size, 0, none⟩) N N) (fun k => (p.elems (k + 1)).length) (.slice none 0 0) := ⟨_, rfl⟩
  rw [← hO] at KP27
  have SZ := Lib.hid (show (Tryz.prog.info? 81).map (·.size) = some O.size from by rw [hO]; kernel_rfl)
  have ONE := Lib.hid (show O.all (·.oneCell') = true from by rw [hO]; simp [Value.oneCell'])
  have SZ2 := Lib.hid (show (rdZ ⟨#[]⟩).size = O.size from by rw [hO]; rfl)
  have HO := Lib.hid hO
  have KA28 := Lib.hid (KA27.out.drewN nq)
  have KP28 := Lib.hid (KP27.out.drewN nq)
  clear hO q3 q4 q7
  go_wp2_with (first | (refine wpList_load_row rfl 81 (.tmp 5) (by rfl) pb (by rfl) 81 _ (0, 0) _ KP28.out Tryz.underlying81 rfl SZ.out ?_) | (refine wpList_store_row rfl 81 (.tmp 4) (.tmp 85) (by rfl) w.heap.size O (by rfl) (by rfl) 81 _ KA28.out SZ.out SZ2.out ONE.out ?_))
  refine bodyPost_ret (v := .agg O) (results_cell_row rfl _ _ w.heap.size 81 _ (0, 0) _ rfl (setRow_heap _ _ _ _ _ _ KA28.out) Tryz.underlying81 rfl SZ.out) rfl ?_
  have f29 : Fr [w.heap.size] (w27.drewN nq) ((w27.drewN nq).setRow w.heap.size O) := fr_setRow (Fr.refl _ _) (.inl (by simp)) _
  refine ⟨w20.heap.size, N, by rw [HO.out, HD.out], Nat.le_refl _, zb20, fun j hj => f29.cell (EN27.out j hj) (by simp; omega), below_fr (below_drewN B27.out nq) f29 (fun q hq => by rw [List.mem_singleton.1 hq]; exact Nat.le_refl _) B27.out.size⟩
set_option maxRecDepth 100000 in
set_option maxHeartbeats 4000000 in
theorem newPkgDecoder_2 (path t : ByteArray) (v : Nat) (p : Pk) (fp : List UInt8) (w : World) (ht : t = str (p.body v true ++ fp)) (hfp : fp.length = 8) (hv : v ≤ 5) (hv1 : 1 ≤ v) (hn : 1 ≤ (p.elems 10).length) (hc : (p.elems 10).length ≤ 1000000) (hz : (szs (p.elems 10)).sum ≤ 100000000)
    (hi : w.cell? ⟨0, 0, none⟩ = some (.int .u32 1)) (hr : w.cell? ⟨1, 0, none⟩ = some (.int .u32 0)) :
    Calls Tryz.prog 32 #[.string path, .string t] w fun e w' => ∃ g c, e = .returned (.agg (rdArr v true path (str (p.data ++ fp)) (.slice (some ⟨g, 0, none⟩) (p.elems 10).length c) (fun k => (p.elems (k + 1)).length) (.slice none 0 0))) ∧ (p.elems 10).length ≤ c ∧ w.heap.size ≤ g ∧ (∀ j, j < (p.elems 10).length → w'.cell? ⟨g, j, none⟩ = some (.int .u32 ((p.sizes.take (j + 1)).sum : Nat))) ∧ Below w.heap.size w w' := by
  have v0 : (1 : Int) ≤ v := by omega
  have v1 : (v : Int) ≤ 5 := by omega
  obtain ⟨w0, hw0⟩ : ∃ w0, w0 = (w.alloc (.cells (rdZ ⟨#[]⟩) 81)).alloc (.cells (rdZ path) 81) := ⟨_, rfl⟩
  have b0 : Below w.heap.size w w0 := by rw [hw0]; exact Below.alloc (Below.alloc (Below.refl _ _) (Nat.le_refl _) _) (by simp) _
  have kA : Blk w0 w.heap.size 81 (rdZ ⟨#[]⟩) := by rw [hw0]; exact (Blk.new w _ _).alloc _
  have kP : Blk w0 (w.heap.size + 1) 81 (rdZ path) := by rw [hw0]; exact Blk.new1 w _ _ _
  obtain ⟨pb, hpb⟩ : ∃ pb, pb = w.heap.size + 1 := ⟨_, rfl⟩
  rw [← hpb] at kP
  obtain ⟨s0, s1, s2, s3, s4, s5⟩ := body_sat v true p fp t ht
  have hdl : p.data.length = (szs (p.elems 10)).sum := dat_len (p.elems 10)
  have hhd := hdLen_le v true
  have ht9 : t.size ≤ 1000000000 := by omega
  obtain ⟨N, hN⟩ : ∃ N, N = (p.elems 10).length := ⟨_, rfl⟩
  have HE := Lib.hid (show (∀ x ∈ sums p.counts, x < 4294967296) ∧ (∀ x ∈ sums p.sizes, x < 4294967296) from by
    refine ⟨fun x hx => ?_, fun x hx => ?_⟩
    · have h1 := sums_le _ x hx
      have h2 : p.counts.sum = (p.elems 10).length := (p.elems_len 10).symm
      omega
    · have h1 := sums_le _ x hx
      have h2 : p.sizes.sum = (szs (p.elems 10)).sum := rfl
      omega)
  have L1 := Lib.hid (show (sums p.counts).length = 10 from by rw [sums_len, Pk.counts_len])
  have L2 := Lib.hid (show (sums p.sizes).length = N from by rw [sums_len, Pk.sizes_len, hN])
  have SA := Lib.hid (fun j (h : j < N) => sums_at p.sizes j (by rw [Pk.sizes_len, ← hN]; exact h))
  rw [← hN] at hn hc s4 s5 ⊢
  have HDL := Lib.hid hdl
  have HPB := Lib.hid hpb
  have HW := Lib.hid hw0
  have B0 := Lib.hid b0
  have KA := Lib.hid kA
  have KP := Lib.hid kP
  have S0 := Lib.hid s0
  have S1 := Lib.hid s1
  have S2 := Lib.hid s2
  have S3 := Lib.hid s3
  have S4 := Lib.hid s4
  have S5 := Lib.hid s5
  have HI := Lib.hid hi
  have HR := Lib.hid hr
  have HNN := Lib.hid hN
  have NZ := Lib.hid (show (N : Int) = ((p.elems 10).length : Nat) from by rw [hN])
  have GI := Lib.hid (show 0 < w.heap.size ∧ 1 < w.heap.size from ⟨World.block_lt_of_cell? w _ hi, World.block_lt_of_cell? w _ hr⟩)
  have m0 : (1 : Int) ≤ N := by omega
  have m1 : (N : Int) ≤ 1000000 := by omega
  clear ht hi hr b0 kA kP s0 s1 s2 s3 s4 s5 hw0 hN hdl hpb
  go_enter Tryz.func32, Tryz.ntmps32
  go_wp2_with fail
  rw [← HPB.out, ← HW.out]
  refine (newReader_any t w0).mono ?_
  rintro e w1 ⟨rb, rfl, hrb, kr, b1⟩
  have zW := B0.out.size
  have zP := KP.out.lt
  have rbn : rb ≠ pb := by omega
  have rbw : w.heap.size < rb := by have := HPB.out; omega
  have rbn2 : rb ≠ w.heap.size := by omega
  have pbn : pb ≠ w.heap.size := by have := HPB.out; omega
  have pbw : w.heap.size < pb := by have := HPB.out; omega
  have R1 := Lib.hid (Rs.new kr)
  have B1 := Lib.hid (B0.out.trans (b1.mono B0.out.size))
  have KA1 := Lib.hid (KA.out.here b1)
  have KP1 := Lib.hid (KP.out.here b1)
  have z1 := b1.size
  have rz1 := kr.lt
  clear kr b1 KA KP HW B0
  obtain ⟨w2, hw2⟩ : ∃ x, x = w1.alloc (.cells #[.int .u32 0] 53) := ⟨_, rfl⟩
  have b2 : Below w1.heap.size w1 w2 := by rw [hw2]; exact Below.alloc (Below.refl _ _) (Nat.le_refl _) _
  have k2 : Blk w2 w1.heap.size 53 #[.int .u32 0] := by rw [hw2]; exact Blk.new _ _ _
  have zc1 := KP1.out.lt
  have za1 := KA1.out.lt
  have zw1 := B1.out.size
  have rz1' := R1.out.lt
  have RD1 := Lib.hid (readUint32_any (R1.out.here b2) v (by first | omega | decide) S0.out ht9 w1.heap.size 0 _ (k2.cell 0) (k2.frozen 0) (by omega))
  have HW2 := Lib.hid hw2
  have K2 := Lib.hid k2
  have KA2 := Lib.hid (KA1.out.here b2)
  have KP2 := Lib.hid (KP1.out.here b2)
  have B2 := Lib.hid (B1.out.trans (b2.mono B1.out.size))
  clear hw2 k2 b2
  go_wp2_with fail
  rw [← HW2.out]
  refine RD1.out.mono ?_
  rintro e w4 ⟨rfl, r4, w3, hw4, f3⟩
  have KA3 := KA2.out.fr f3 (by simpa using rbn2.symm)
  have KP3 := KP2.out.fr f3 (by simpa using rbn.symm)
  have KK3 := K2.out.fr f3 (by simp; omega)
  have bb3 := below_fr B2.out f3 (fun q hq => by rw [List.mem_singleton.1 hq]; omega) B2.out.size
  have zz3 := f3.size
  have zy2 := K2.out.lt
  have R4 := Lib.hid (show Rs 85 (fun _ => none) rb 0 t (0 + 4) w4 from r4)
  have KA4 := Lib.hid (show Blk w4 w.heap.size 81 _ from by rw [hw4]; exact KA3.far (by simp; omega) _)
  have KP4 := Lib.hid (show Blk w4 pb 81 _ from by rw [hw4]; exact KP3.far (by simp; omega) _)
  have B4 := Lib.hid (show Below w.heap.size w w4 from by rw [hw4]; exact bb3.setCell (by simp; omega) _)
  have x4 : w4.cell? ⟨w1.heap.size, 0, none⟩ = some (.int .u32 v) := by rw [hw4]; exact (KK3.set_ 0 _).cell 0
  have zn4 : w1.heap.size < w4.heap.size := by rw [hw4]; simp [World.setCell]; omega
  clear RD1 r4 hw4 f3 KA3 KP3 KK3 bb3 KA2 KP2 B2 HW2 KA1 KP1 R1 zz3
  have p0 := KP4.out.cell 0
  have g0 := KP4.out.frozen 0
  go_wp2_with fail
  refine (assert_true _).mono ?_
  rintro e w5 ⟨rfl, n5, rfl⟩
  go_wp2_with fail
  obtain ⟨w6, hw6⟩ : ∃ x, x = (w4.drewN n5).setCell ⟨pb, 0, none⟩ (.int .u32 v) := ⟨_, rfl⟩
  rw [← hw6]
  have f6 : Fr [pb] w4 w6 := by rw [hw6]; exact ((Fr.refl [pb] w4).drewN n5).setCell (.inl (by simp)) _
  have R6 := Lib.hid (R4.out.fr f6 (by simpa using rbn))
  have KA6 := Lib.hid (KA4.out.fr f6 (by simpa using pbn.symm))
  have KP6 := Lib.hid (show Blk w6 pb 81 _ from by rw [hw6]; exact (KP4.out.drewN n5).set_ 0 _)
  have B6 := Lib.hid (below_fr B4.out f6 (fun q hq => by rw [List.mem_singleton.1 hq]; have := HPB.out; omega) B4.out.size)
  have zs6 := f6.size
  clear f6 hw6 R4 KA4 KP4 B4
  refine (has0_any v w6 (keep_cell B6.out HI.out) (keep_cell B6.out HR.out)).mono ?_
  rintro e w7 ⟨rfl, hw7⟩
  rw [hw7]
  clear hw7
  rw [decide_eq_true hv1]
  have S1' := Lib.hid (show Sat t (0 + 4) (le4 1) from by have h := S1.out; unfold flagB at h; rw [if_pos hv1] at h; exact h)
  obtain ⟨w7, hw7⟩ : ∃ x, x = w6.alloc (.cells #[.int .u32 0] 53) := ⟨_, rfl⟩
  have b7 : Below w6.heap.size w6 w7 := by rw [hw7]; exact Below.alloc (Below.refl _ _) (Nat.le_refl _) _
  have k7 : Blk w7 w6.heap.size 53 #[.int .u32 0] := by rw [hw7]; exact Blk.new _ _ _
  have zc6 := KP6.out.lt
  have za6 := KA6.out.lt
  have zw6 := B6.out.size
  have rz6' := R6.out.lt
  have RD6 := Lib.hid (readUint32_any (R6.out.here b7) 1 (by first | omega | decide) S1'.out ht9 w6.heap.size 0 _ (k7.cell 0) (k7.frozen 0) (by omega))
  have HW7 := Lib.hid hw7
  have K7 := Lib.hid k7
  have KA7 := Lib.hid (KA6.out.here b7)
  have KP7 := Lib.hid (KP6.out.here b7)
  have B7 := Lib.hid (B6.out.trans (b7.mono B6.out.size))
  clear hw7 k7 b7
  go_wp2_with fail
  rw [← HW7.out]
  refine RD6.out.mono ?_
  rintro e w9 ⟨rfl, r9, w8, hw9, f8⟩
  have KA8 := KA7.out.fr f8 (by simpa using rbn2.symm)
  have KP8 := KP7.out.fr f8 (by simpa using rbn.symm)
  have KK8 := K7.out.fr f8 (by simp; omega)
  have bb8 := below_fr B7.out f8 (fun q hq => by rw [List.mem_singleton.1 hq]; omega) B7.out.size
  have zz8 := f8.size
  have zy7 := K7.out.lt
  have R9 := Lib.hid (show Rs 85 (fun _ => none) rb 0 t (0 + 4 + 4) w9 from r9)
  have KA9 := Lib.hid (show Blk w9 w.heap.size 81 _ from by rw [hw9]; exact KA8.far (by simp; omega) _)
  have KP9 := Lib.hid (show Blk w9 pb 81 _ from by rw [hw9]; exact KP8.far (by simp; omega) _)
  have B9 := Lib.hid (show Below w.heap.size w w9 from by rw [hw9]; exact bb8.setCell (by simp; omega) _)
  have x9 : w9.cell? ⟨w6.heap.size, 0, none⟩ = some (.int .u32 1) := by rw [hw9]; exact (KK8.set_ 0 _).cell 0
  have zn9 : w6.heap.size < w9.heap.size := by rw [hw9]; simp [World.setCell]; omega
  clear RD6 r9 hw9 f8 KA8 KP8 KK8 bb8 KA7 KP7 B7 HW7 KA6 KP6 R6 zz8
  have p1 := KP9.out.cell 1
  have g1 := KP9.out.frozen 1
  have hand : bits BinOp.and IntKind.u32 1 1 = 1 := by decide
  have x9' : w9.cell? ⟨w6.heap.size, 0, none⟩ = some (.int .u32 1) := x9
  go_wp2_with fail
  refine (assert_true _).mono ?_
  rintro e w10 ⟨rfl, n10, rfl⟩
  go_wp2_with fail
  obtain ⟨w11, hw11⟩ : ∃ x, x = (w9.drewN n10).setCell ⟨pb, 1, none⟩ (.bool true) := ⟨_, rfl⟩
  rw [← hw11]
  have f11 : Fr [pb] w9 w11 := by rw [hw11]; exact ((Fr.refl [pb] w9).drewN n10).setCell (.inl (by simp)) _
  have R11 := Lib.hid (R9.out.fr f11 (by simpa using rbn))
  have KA11 := Lib.hid (KA9.out.fr f11 (by simpa using pbn.symm))
  have KP11 := Lib.hid (show Blk w11 pb 81 _ from by rw [hw11]; exact (KP9.out.drewN n10).set_ 1 _)
  have B11 := Lib.hid (below_fr B9.out f11 (fun q hq => by rw [List.mem_singleton.1 hq]; have := HPB.out; omega) B9.out.size)
  have zs11 := f11.size
  clear f11 hw11 R9 KA9 KP9 B9
  have hh : hdLen v true = 8 := by unfold hdLen; rw [flagB_len]; rw [if_pos hv1]
  have kj : Blk w11 pb 81 (rd1 v true path) := KP11.out
  have S2' := S2.out
  rw [hh] at S2'
  have RS := readUint32s_any (show Rs 85 (fun _ => none) rb 0 t 8 w11 from R11.out) (sums p.counts) HE.out.1 S2' ht9 pb 5 10 81 _ kj (by rw [L1.out]; show 5 + 10 ≤ 16; decide) (by rw [L1.out]; decide) rbn.symm
  rw [L1.out] at RS
  have RSH := Lib.hid RS
  have HH := Lib.hid hh
  have zb11 := B11.out.size
  clear RS S2' kj hh
  go_wp2_with fail
  refine RSH.out.mono ?_
  rintro e w20 ⟨rfl, r20, f20, cs20, k20, nm20⟩
  rw [nums_rd nm20] at k20
  have R20 := Lib.hid r20
  have KP20 := Lib.hid k20
  have KA20 := Lib.hid (KA11.out.fr f20 (by simp; omega))
  have B20 := Lib.hid (below_fr B11.out f20 (fun q hq => by simp only [List.mem_cons, List.not_mem_nil, or_false] at hq; omega) B11.out.size)
  clear r20 f20 k20 nm20 RSH R11 KA11 KP11 B11
  go_wp2_with fail
  refine (assert_true _).mono ?_
  rintro e w21 ⟨rfl, n21, rfl⟩
  have c14 : (w20.drewN n21).cell? ⟨pb, 14, none⟩ = some (.int .u32 N) := by
    have h := (KP20.out.drewN n21).cell 14
    rw [h, NZ.out]
    rfl
  obtain ⟨i0, hi0, hz0, hz1, hz2⟩ := info_parts Tryz.infoU32
  obtain ⟨M, hM⟩ : ∃ M, M = madeCells (Value.int .u32 0).cells (N * i0.size) := ⟨_, rfl⟩
  have c4 := ((KP20.out.drewN n21).alloc (.cells M 53)).cell 4
  have e4 := ((KP20.out.drewN n21).alloc (.cells M 53)).frozen 4
  have hMs : M.size = N := by rw [hM, size_madeCells, hz1, Nat.mul_one]
  have hmk : ∀ W : World, (Instr.makeSlice 77 (.int .u32 (N : Int)) (.int .u32 (N : Int))).run Tryz.prog W = .ok (.slice (some ⟨W.heap.size, 0, none⟩) N N) (W.alloc (.cells M 53)) := fun W => by
    have h := run_makeSlice (P := Tryz.prog) W 77 53 i0 (.int .u32 0) Tryz.underlying77 hi0 hz0 .u32 .u32 (N : Int) (N : Int) (by omega) (by omega) (by rw [hz1]; omega) (by rw [hz2]; omega) (by omega)
    rw [show ((N : Int)).toNat = N from by omega, ← hM] at h
    exact h
  have HMS := Lib.hid hMs
  have zk20 := KP20.out.lt
  clear hM hMs hz0 hz1 hz2 hi0
  go_wp2_with fail
  obtain ⟨w22, hw22⟩ : ∃ x, x = ((w20.drewN n21).alloc (.cells M 53)).setCell ⟨pb, 4, none⟩ (.slice (some ⟨w20.heap.size, 0, none⟩) N N) := ⟨_, rfl⟩
  rw [← hw22]
  have f22 : Fr [pb] w20 w22 := by rw [hw22]; exact (((Fr.refl [pb] w20).drewN n21).alloc _).setCell (.inl (by simp)) _
  have R22 := Lib.hid (R20.out.fr f22 (by simpa using rbn))
  have KA22 := Lib.hid (KA20.out.fr f22 (by simpa using pbn.symm))
  have zr20 := R20.out.lt
  have zb20 := B20.out.size
  have KP22 := Lib.hid (show Blk w22 pb 81 (rdArr v true path ⟨#[]⟩ (.slice (some ⟨w20.heap.size, 0, none⟩) N N) (fun k => (p.elems (k + 1)).length) (.slice none 0 0)) from by
    rw [hw22]
    exact ((KP20.out.drewN n21).alloc _).set_ 4 _)
  have KM22 : Blk w22 w20.heap.size 53 M := by
    rw [hw22]
    exact (Blk.new (w20.drewN n21) _ _).far (by show w20.heap.size ≠ pb; omega) _
  have B22 := Lib.hid (below_fr B20.out f22 (fun q hq => by rw [List.mem_singleton.1 hq]; omega) B20.out.size)
  have S3' := S3.out
  rw [HH.out] at S3'
  have RT := readUint32s_any R22.out (sums p.sizes) HE.out.2 S3' ht9 w20.heap.size 0 N 53 M KM22 (by rw [L2.out, HMS.out]; omega) (by rw [L2.out]; omega) (by omega)
  rw [L2.out] at RT
  have RTH := Lib.hid RT
  clear RT S3' KM22 f22 hw22 c14 c4 e4 hmk R20 KA20 KP20 B20
  go_wp2_with fail
  refine RTH.out.mono ?_
  rintro e w23 ⟨rfl, r23, f23, cs23, k23, nm23⟩
  have zm := HMS.out
  have zs23 := nm23.size
  have EN := Lib.hid (show ∀ j, j < N → w23.cell? ⟨w20.heap.size, j, none⟩ = some (.int .u32 ((p.sizes.take (j + 1)).sum : Nat)) from fun j hj => by
    rw [k23.cell]
    have h := nm23.at_ j _ hj (SA.out j hj)
    rw [Nat.zero_add] at h
    exact h)
  have z22 := KP22.out.lt
  have R23 := Lib.hid r23
  have KA23 := Lib.hid (KA22.out.fr f23 (by simp; omega))
  have KP23 := Lib.hid (KP22.out.fr f23 (by simp; omega))
  have B23 := Lib.hid (below_fr B22.out f23 (fun q hq => by simp only [List.mem_cons, List.not_mem_nil, or_false] at hq; omega) B22.out.size)
  have rq := r23.lt
  clear r23 f23 k23 nm23 RTH R22 KA22 KP22 B22
  go_wp2_with fail
  refine (assert_true _).mono ?_
  rintro e w24 ⟨rfl, n24, rfl⟩
  obtain ⟨q, hq⟩ : ∃ q, q = 8 + 4 * 10 + 4 * N := ⟨_, rfl⟩
  have SK := Lib.hid (seek_any (w := w23.drewN n24) (show Rs 85 (fun _ => none) rb 0 t q (w23.drewN n24) from by rw [hq]; exact R23.out.here (below_drewN (Below.refl _ _) _)) (by omega))
  obtain ⟨D, hD⟩ : ∃ D, D = str (p.data ++ fp) := ⟨_, rfl⟩
  have EX := Lib.hid (show t.extract q t.size = D from by
    have h := S4.out
    rw [HH.out] at h
    rw [hq, hD]
    exact h)
  have hDs : D.size = (szs (p.elems 10)).sum + 8 := by rw [hD, str_size, List.length_append, HDL.out, hfp]
  have hqt : q ≤ t.size := by have h := S5.out; rw [HH.out] at h; omega
  have q0 : (0 : Int) ≤ q := by omega
  have q1 : (q : Int) ≤ t.size := by omega
  have HD := Lib.hid hD
  clear hq hD hqt
  go_wp2_with fail
  refine SK.out.mono ?_
  rintro e w25 ⟨rfl, f25⟩
  have KA25 := Lib.hid ((KA23.out.drewN n24).fr f25 (by simpa using rbn2.symm))
  have KP25 := Lib.hid ((KP23.out.drewN n24).fr f25 (by simpa using rbn.symm))
  have B25 := Lib.hid (below_fr (below_drewN B23.out n24) f25 (fun q hq => by rw [List.mem_singleton.1 hq]; omega) B23.out.size)
  have EN25 := Lib.hid (show ∀ j, j < N → w25.cell? ⟨w20.heap.size, j, none⟩ = some (.int .u32 ((p.sizes.take (j + 1)).sum : Nat)) from fun j hj => f25.cell (EN.out j hj) (by simp; omega))
  clear f25 SK EN KA23 KP23 B23 R23
  go_wp2_with fail
  refine (assert_true _).mono ?_
  rintro e w26 ⟨rfl, n26, rfl⟩
  have c3 := (KP25.out.drewN n26).cell 3
  have e3 := (KP25.out.drewN n26).frozen 3
  go_wp2_with fail
  rw [EX.out]
  obtain ⟨w27, hw27⟩ : ∃ x, x = (w25.drewN n26).setCell ⟨pb, 3, none⟩ (.string D) := ⟨_, rfl⟩
  rw [← hw27]
  have f27 : Fr [pb] w25 w27 := by rw [hw27]; exact ((Fr.refl [pb] w25).drewN n26).setCell (.inl (by simp)) _
  have KA27 := Lib.hid (KA25.out.fr f27 (by simpa using pbn.symm))
  have KP27 := Lib.hid (show Blk w27 pb 81 (rdArr v true path D (.slice (some ⟨w20.heap.size, 0, none⟩) N N) (fun k => (p.elems (k + 1)).length) (.slice none 0 0)) from by
    rw [hw27]
    exact (KP25.out.drewN n26).set_ 3 _)
  have EN27 := Lib.hid (show ∀ j, j < N → w27.cell? ⟨w20.heap.size, j, none⟩ = some (.int .u32 ((p.sizes.take (j + 1)).sum : Nat)) from fun j hj => f27.cell (EN25.out j hj) (by simp; omega))
  have B27 := Lib.hid (below_fr B25.out f27 (fun q hq => by rw [List.mem_singleton.1 hq]; omega) B25.out.size)
  obtain ⟨m, hm⟩ : ∃ m, N = m + 1 := ⟨N - 1, by omega⟩
  obtain ⟨T, hT⟩ : ∃ T, T = (szs (p.elems 10)).sum := ⟨_, rfl⟩
  have q7 : w27.cell? ⟨w20.heap.size, m, none⟩ = some (.int .u32 T) := by
    rw [EN27.out m (by omega), hT, ← hm, List.take_of_length_le (by rw [Pk.sizes_len, ← HNN.out]; exact Nat.le_refl _)]
    rfl
  have q3 := KP27.out.cell 3
  have q4 := KP27.out.cell 4
  have hN1 : (N : Int) - 1 = (m : Int) := by omega
  have t0 : (0 : Int) ≤ T := by omega
  have t1 : (T : Int) ≤ 100000000 := by omega
  have d0 : (D.size : Int) - 8 = T := by omega
  have i7 : (0 : Int) ≤ (m : Int) := by omega
  have i8 : (m : Int) < N := by omega
  have w7' : IntKind.i64.wrap (T : Int) = T := by rw [IntKind.wrap_i64]; omega
  have wm' : IntKind.i64.wrap (m : Int) = m := by rw [IntKind.wrap_i64]; omega
  have HM := Lib.hid hm
  clear f27 hw27 c3 e3 KA25 KP25 EN25 B25 EX hDs hT hm
  go_quiet ((go_at_call 67; exact Calls.quiet_of (assert_true _)))
  obtain ⟨O, hO⟩ : ∃ O, O = rdArr v true path D (.slice (some ⟨w20.heap.size, 0, none⟩) N N) (fun k => (p.elems (k + 1)).length) (.slice none 0 0) := ⟨_, rfl⟩
  rw [← hO] at KP27
  have SZ := Lib.hid (show (Tryz.prog.info? 81).map (·.size) = some O.size from by rw [hO]; kernel_rfl)
  have ONE := Lib.hid (show O.all (·.oneCell') = true from by rw [hO]; simp [Value.oneCell'])
  have SZ2 := Lib.hid (show (rdZ ⟨#[]⟩).size = O.size from by rw [hO]; rfl)
  have HO := Lib.hid hO
  have KA28 := Lib.hid (KA27.out.drewN nq)
  have KP28 := Lib.hid (KP27.out.drewN nq)
  clear hO q3 q4 q7
  go_wp2_with (first | (refine wpList_load_row rfl 81 (.tmp 5) (by rfl) pb (by rfl) 81 _ (0, 0) _ KP28.out Tryz.underlying81 rfl SZ.out ?_) | (refine wpList_store_row rfl 81 (.tmp 4) (.tmp 85) (by rfl) w.heap.size O (by rfl) (by rfl) 81 _ KA28.out SZ.out SZ2.out ONE.out ?_))
  refine bodyPost_ret (v := .agg O) (results_cell_row rfl _ _ w.heap.size 81 _ (0, 0) _ rfl (setRow_heap _ _ _ _ _ _ KA28.out) Tryz.underlying81 rfl SZ.out) rfl ?_
  have f29 : Fr [w.heap.size] (w27.drewN nq) ((w27.drewN nq).setRow w.heap.size O) := fr_setRow (Fr.refl _ _) (.inl (by simp)) _
  refine ⟨w20.heap.size, N, by rw [HO.out, HD.out], Nat.le_refl _, zb20, fun j hj => f29.cell (EN27.out j hj) (by simp; omega), below_fr (below_drewN B27.out nq) f29 (fun q hq => by rw [List.mem_singleton.1 hq]; exact Nat.le_refl _) B27.out.size⟩
theorem newPkgDecoder_any (path t : ByteArray) (v : Nat) (s : Bool) (p : Pk) (fp : List UInt8) (w : World) (ht : t = str (p.body v s ++ fp)) (hfp : fp.length = 8) (hv : v ≤ 5) (hs : s = true → 1 ≤ v) (hn : 1 ≤ (p.elems 10).length) (hc : (p.elems 10).length ≤ 1000000) (hz : (szs (p.elems 10)).sum ≤ 100000000)
    (hi : w.cell? ⟨0, 0, none⟩ = some (.int .u32 1)) (hr : w.cell? ⟨1, 0, none⟩ = some (.int .u32 0)) :
    Calls Tryz.prog 32 #[.string path, .string t] w fun e w' => ∃ g c, e = .returned (.agg (rdArr v s path (str (p.data ++ fp)) (.slice (some ⟨g, 0, none⟩) (p.elems 10).length c) (fun k => (p.elems (k + 1)).length) (.slice none 0 0))) ∧ (p.elems 10).length ≤ c ∧ w.heap.size ≤ g ∧ (∀ j, j < (p.elems 10).length → w'.cell? ⟨g, j, none⟩ = some (.int .u32 ((p.sizes.take (j + 1)).sum : Nat))) ∧ Below w.heap.size w w' := by
  cases s
  · rcases Nat.eq_zero_or_pos v with rfl | h
    · exact newPkgDecoder_0 path t p fp w ht hfp hn hc hz hi hr
    · exact newPkgDecoder_1 path t v p fp w ht hfp hv h hn hc hz hi hr
  · exact newPkgDecoder_2 path t v p fp w ht hfp hv (hs rfl) hn hc hz hi hr
end Go.Proofs.YtedjadicdodahaaGreatDoor
