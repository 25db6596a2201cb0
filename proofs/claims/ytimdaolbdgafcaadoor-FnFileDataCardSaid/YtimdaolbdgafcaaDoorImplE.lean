/- What is read out of an object file: the data of a symbol. -/
import Derived.Test.YtimdaolbdgafcaaDoorImplD
namespace Go.Proofs.YtimdaolbdgafcaaDoor
open Go.RowKit

/-- A slice whose address, if it has one, is a plain place. -/
def Plain (A : Option Addr) : Prop := A = none ∨ ∃ g o, A = some ⟨g, o, none⟩
theorem own_plain {w : World} {base size n : Nat} {e : TypeId} {A : Option Addr} {m c : Nat} {xs : List Value} (h : w.ownsRow base e size (.slice A m c) n xs) : Plain A := by
  rcases h.2 with ⟨h1, _⟩ | ⟨g, cap, cur, h1, _⟩
  · injection h1 with h1 _ _
    exact .inl h1
  · injection h1 with h1 _ _
    exact .inr ⟨g, 0, h1⟩
theorem run_strS {w : World} {A : Option Addr} {s : ByteArray} (hA : Plain A) (h : SlI .u8 w A (sbs s)) (c : Nat) : (convert 35 9 (.slice A s.size c)).run Tryd.prog w = .ok (.string s) w := by
  by_cases h0 : s.size = 0
  · have e := str_empty h0
    subst e
    rcases hA with rfl | ⟨g, o, rfl⟩
    · exact run_convert_bytes_nil (P := Tryd.prog) w 35 5 Tryd.underlying35 Tryd.underlying5 _ _ 9 Tryd.underlying9
    · exact run_str (s := ⟨#[]⟩) (g := g) (o := o) (fun j z hz => by simp [sbs] at hz)
  · obtain ⟨g, o, rfl, hat⟩ := SlI.at_ h (by rw [sbs_length]; omega)
    exact run_str hat

theorem cntK_mono (g : Df → Nat) (l : List Df) {i j : Nat} (h : i ≤ j) : cntK g l i ≤ cntK g l j := by
  unfold cntK
  have e : l.take i = (l.take j).take i := by rw [List.take_take, Nat.min_eq_left h]
  have h1 : ((l.take j).map g).sum = (((l.take j).take i).map g).sum + (((l.take j).drop i).map g).sum := by
    rw [← List.sum_append, ← List.map_append, List.take_append_drop]
  rw [e]
  omega
theorem bytesAt_nil (g p : Nat) (w : World) : Calls Tryd.prog 56 #[.pointer (some ⟨g, 0, none⟩), .int .u32 p, .int .i64 0] w (RetQ (.slice none 0 0) w) := by
  go_enter Tryd.func56, Tryd.ntmps56
  go_wp2_with fail
  go_ret
  exact ⟨rfl, 0, rfl⟩
section
variable {f : FM} {ro : Bool} {g d o c : Nat} {w : World} (R : Rdr f ro g d o c w) (S : f.Small)
include R S
theorem rdStrQ (p : Nat) (q1 q2 : Int) (s : ByteArray) (h1 : q1 = p) (h2 : q2 = s.size) (k : Has f.bytes p (sbs s)) (h : p + s.size ≤ f.bytes.length) (m : Nat) : Calls Tryd.prog 57 #[.pointer (some ⟨g, 0, none⟩), .int .u32 q1, .int .u32 q2] (w.drewN m) (RetQ (.string s) (w.drewN m)) := by
  subst h1 h2
  exact rdStr R S p s k h m
/-- A slice of the data of a symbol. -/
def DataAt (d q m : Nat) (w : World) (e : Ending) (w' : World) : Prop := ∃ A c', e = .returned (.slice A m c') ∧ (0 < m → A = some ⟨d, q, none⟩) ∧ ∃ k, w' = w.drewN k
theorem rdBytesQ (p m : Nat) (q1 q2 : Int) (h1 : q1 = p) (h2 : q2 = m) (h : p + m ≤ f.bytes.length) (k : Nat) : Calls Tryd.prog 56 #[.pointer (some ⟨g, 0, none⟩), .int .u32 q1, .int .i64 q2] (w.drewN k) (DataAt d (o + p) m (w.drewN k)) := by
  subst h1 h2
  rcases Nat.eq_zero_or_pos m with rfl | h0
  · exact (bytesAt_nil g p (w.drewN k)).mono fun _ _ ⟨he, n, hw⟩ => ⟨none, 0, he, fun h => absurd h (by omega), n, hw⟩
  · exact (bytesAt_any (w := w.drewN k) R.b R.cap (by have := S.len_le; omega) p m h0 h).mono fun _ _ ⟨he, n, hw⟩ => ⟨_, m, he, fun _ => rfl, n, hw⟩
end
section
variable {f : FM} {ro : Bool} {g d o c : Nat} {w : World} (R : Rdr f ro g d o c w) (S : f.Small)
include R S
set_option maxRecDepth 100000 in
set_option maxHeartbeats 400000 in
theorem rdData_any (i : Nat) (hi : i < f.all.length) : Calls Tryd.prog 79 #[.pointer (some ⟨g, 0, none⟩), .int .u32 i] w (DataAt d (o + (f.at_ 16 + cntK Df.nd f.all i)) f.all[i].data.size w) := by
  have c1 := R.offs 13 (by omega)
  have c2 := R.offs 16 (by omega)
  have b1 := S.at_le 13
  have b2 := S.at_le 16
  have i3 : (0 : Int) ≤ i := by omega
  have i4 : (i : Int) ≤ 60 := by have := S.all; omega
  have hv := S.cnt_le Df.nd S.nd_le i
  have hv' := S.cnt_le Df.nd S.nd_le (i + 1)
  have hs : cntK Df.nd f.all (i + 1) = cntK Df.nd f.all i + f.all[i].data.size := cntK_succ Df.nd f.all i hi
  have hle : f.at_ 16 + cntK Df.nd f.all i + f.all[i].data.size ≤ f.bytes.length := by
    have h1 := (FM.at_lens S)
    have h2 := FM.bytes_len S
    have h3 := f.at_mono 17 18 (by omega)
    have h4 : f.at_ 17 = f.at_ 16 + cntK Df.nd f.all f.all.length := h1.2.2.2.2.2.2.2.2.2.2.2.2.2.2.2.2.1
    have h5 : cntK Df.nd f.all (i + 1) ≤ cntK Df.nd f.all f.all.length := cntK_mono Df.nd f.all (by omega)
    omega
  have U0 := Lib.hid (fun m => rdU32 R S (f.at_ 13 + 4 * i) ((f.at_ 13 : Int) + (i : Int) * 4) (by omega) (cntK Df.nd f.all i) (FM.has_idx S 13 (by omega) Df.nd rfl i (by omega)) (by omega) (by omega) m)
  have U1 := Lib.hid (fun m => rdU32 R S (f.at_ 13 + 4 * (i + 1)) ((f.at_ 13 : Int) + (i : Int) * 4 + 4) (by omega) (cntK Df.nd f.all (i + 1)) (FM.has_idx S 13 (by omega) Df.nd rfl (i + 1) (by omega)) (by omega) (by omega) m)
  have ST := Lib.hid (fun m => rdBytesQ R S (f.at_ 16 + cntK Df.nd f.all i) f.all[i].data.size ((f.at_ 16 : Int) + (cntK Df.nd f.all i : Int)) ((cntK Df.nd f.all (i + 1) : Int) - (cntK Df.nd f.all i : Int)) (by omega) (by omega) hle m)
  generalize f.all[i].data = s at *
  generalize f.at_ 13 = x at *
  generalize f.at_ 16 = y at *
  generalize cntK Df.nd f.all (i + 1) = u at *
  generalize cntK Df.nd f.all i = v at *
  have j1 : (0 : Int) ≤ x := by omega
  have j2 : (x : Int) ≤ 110000 := by omega
  have j3 : (0 : Int) ≤ y := by omega
  have j4 : (y : Int) ≤ 110000 := by omega
  have j5 : (0 : Int) ≤ v := by omega
  have j6 : (v : Int) ≤ u := by omega
  have j7 : (u : Int) ≤ 12000 := by omega
  clear R S b1 b2 hv hv' hi hs hle
  go_enter Tryd.func79, Tryd.ntmps79
  go_wp2_with fail
  refine (U0.out 0).mono ?_
  rintro e w1 ⟨rfl, n1, rfl⟩
  go_wp2_with fail
  refine (U1.out _).mono ?_
  rintro e w1 ⟨rfl, n2, rfl⟩
  go_wp2_with fail
  refine (ST.out _).mono ?_
  rintro e w1 ⟨A, c9, rfl, hA, n3, rfl⟩
  have HAA := Lib.hid hA
  clear hA
  go_wp2_with fail
  go_ret
  exact ⟨A, c9, rfl, HAA.out, _, rfl⟩
end
section
variable {f : FM} {ro : Bool} {g d o c : Nat} {w : World} (R : Rdr f ro g d o c w) (S : f.Small)
include R S
set_option maxRecDepth 100000 in
set_option maxHeartbeats 400000 in
theorem rdDataString_any (i : Nat) (hi : i < f.all.length) : Calls Tryd.prog 80 #[.pointer (some ⟨g, 0, none⟩), .int .u32 i] w (RetQ (.string f.all[i].data) w) := by
  have c1 := R.offs 13 (by omega)
  have c2 := R.offs 16 (by omega)
  have b1 := S.at_le 13
  have b2 := S.at_le 16
  have i3 : (0 : Int) ≤ i := by omega
  have i4 : (i : Int) ≤ 60 := by have := S.all; omega
  have hv := S.cnt_le Df.nd S.nd_le i
  have hv' := S.cnt_le Df.nd S.nd_le (i + 1)
  have hs : cntK Df.nd f.all (i + 1) = cntK Df.nd f.all i + f.all[i].data.size := cntK_succ Df.nd f.all i hi
  have hle : f.at_ 16 + cntK Df.nd f.all i + f.all[i].data.size ≤ f.bytes.length := by
    have h1 := (FM.at_lens S)
    have h2 := FM.bytes_len S
    have h3 := f.at_mono 17 18 (by omega)
    have h4 : f.at_ 17 = f.at_ 16 + cntK Df.nd f.all f.all.length := h1.2.2.2.2.2.2.2.2.2.2.2.2.2.2.2.2.1
    have h5 : cntK Df.nd f.all (i + 1) ≤ cntK Df.nd f.all f.all.length := cntK_mono Df.nd f.all (by omega)
    omega
  have U0 := Lib.hid (fun m => rdU32 R S (f.at_ 13 + 4 * i) ((f.at_ 13 : Int) + (i : Int) * 4) (by omega) (cntK Df.nd f.all i) (FM.has_idx S 13 (by omega) Df.nd rfl i (by omega)) (by omega) (by omega) m)
  have U1 := Lib.hid (fun m => rdU32 R S (f.at_ 13 + 4 * (i + 1)) ((f.at_ 13 : Int) + (i : Int) * 4 + 4) (by omega) (cntK Df.nd f.all (i + 1)) (FM.has_idx S 13 (by omega) Df.nd rfl (i + 1) (by omega)) (by omega) (by omega) m)
  have ST := Lib.hid (fun m => rdStrQ R S (f.at_ 16 + cntK Df.nd f.all i) ((f.at_ 16 : Int) + (cntK Df.nd f.all i : Int)) ((cntK Df.nd f.all (i + 1) : Int) - (cntK Df.nd f.all i : Int)) f.all[i].data (by omega) (by omega) (FM.has_data S i hi) hle m)
  generalize f.all[i].data = s at *
  generalize f.at_ 13 = x at *
  generalize f.at_ 16 = y at *
  generalize cntK Df.nd f.all (i + 1) = u at *
  generalize cntK Df.nd f.all i = v at *
  have j1 : (0 : Int) ≤ x := by omega
  have j2 : (x : Int) ≤ 110000 := by omega
  have j3 : (0 : Int) ≤ y := by omega
  have j4 : (y : Int) ≤ 110000 := by omega
  have j5 : (0 : Int) ≤ v := by omega
  have j6 : (v : Int) ≤ u := by omega
  have j7 : (u : Int) ≤ 12000 := by omega
  clear R S b1 b2 hv hv' hi hs hle
  go_enter Tryd.func80, Tryd.ntmps80
  go_wp2_with fail
  refine (U0.out 0).mono ?_
  rintro e w1 ⟨rfl, n1, rfl⟩
  go_wp2_with fail
  refine (U1.out _).mono ?_
  rintro e w1 ⟨rfl, n2, rfl⟩
  go_wp2_with fail
  refine (ST.out _).mono ?_
  rintro e w1 ⟨rfl, n3, rfl⟩
  skip
  skip
  go_wp2_with fail
  go_ret
  exact ⟨rfl, _, rfl⟩
end

/-- What reading the data of a symbol leaves. -/
def DataRead (s : ByteArray) (w : World) (e : Ending) (w' : World) : Prop := ∃ A c', e = .returned (.tuple #[.slice A s.size c', .string s, .int .i64 s.size]) ∧ Plain A ∧ SlI .u8 w' A (sbs s) ∧ Below w.heap.size w w'
section
variable {f : FM} {d o n c : Nat} {w : World} (D : Dat f d o n c w)
include D
set_option maxRecDepth 100000 in
set_option maxHeartbeats 1000000 in
theorem fileData_any (i : Nat) (hi : i < f.all.length) : Calls Tryd.prog 34 #[.slice (some ⟨d, o, none⟩) n c, .int .u32 i] w (DataRead f.all[i].data w) := by
  obtain ⟨i0, hi0, hz0, hz1, hz2⟩ := info_parts Tryd.infoU8d
  have HD := Lib.hid D
  have hds : f.all[i].data.size ≤ 200 := (D.S.data _ (List.getElem_mem hi)).1
  have DA := Lib.hid (fun (W : World) (g : Nat) (R : Rdr f false g d o c W) => rdData_any R D.S i hi)
  have SA := Lib.hid (fun (W : World) (g : Nat) (R : Rdr f false g d o c W) => rdDataString_any R D.S i hi)
  have ZA := Lib.hid (fun (W : World) (g : Nat) (R : Rdr f false g d o c W) => show Calls Tryd.prog 81 #[.pointer (some ⟨g, 0, none⟩), .int .u32 i] W (RetQ (.int .i64 (f.all[i].data.size : Nat)) W) from rdDataSize_any R D.S i hi)
  have CT := Lib.hid (fun (W : World) (hW : Dat f d o n c W) => show ∀ j u, (bcs (sbs f.all[i].data))[j]? = some u → W.cell? ((⟨d, o + (f.at_ 16 + cntK Df.nd f.all i), none⟩ : Addr).add j) = some u from fun j u hu => by
    rw [bcs, List.getElem?_map, Option.map_eq_some_iff] at hu
    obtain ⟨z, hz, rfl⟩ := hu
    rw [Lib.addr_add]
    exact (hW.at_.has (FM.has_data D.S i hi)) j z hz)
  generalize f.all[i].data = s at *
  generalize o + (f.at_ 16 + cntK Df.nd f.all i) = q at *
  clear D hi
  go_enter Tryd.func34, Tryd.ntmps34
  go_wp2_with fail
  refine (HD.out.reader false).mono ?_
  rintro e w1 ⟨g, rfl, _, R1, hb1⟩
  have R := Lib.hid R1
  have B1 := Lib.hid hb1
  have D1 := Lib.hid (HD.out.here hb1)
  have zb := hb1.size
  clear R1 hb1
  have OW := Lib.hid (World.ownsRow_made (base := w1.heap.size) (e := 5) (size := 1) w1 #[] 0 (Nat.le_refl _) (by simp) (by simp))
  obtain ⟨w2, hw2⟩ : ∃ w2, w2 = w1.alloc (.cells #[] 5) := ⟨_, rfl⟩
  have HW2 := Lib.hid hw2
  have R2 := Lib.hid (show Rdr f false g d o c w2 from by rw [hw2]; exact R.out.here (later_alloc _ _))
  have D2 := Lib.hid (show Dat f d o n c w2 from by rw [hw2]; exact D1.out.here (later_alloc _ _))
  have z2 : w1.heap.size ≤ w2.heap.size := by rw [hw2]; simp
  have OW2 := Lib.hid (show w2.ownsRow w1.heap.size 5 1 (.slice (some ⟨w1.heap.size, 0, none⟩) 0 0) 0 [] from by rw [hw2]; exact OW.out)
  clear hw2 OW
  go_wp2_with fail
  rw [← HW2.out]
  refine (DA.out _ _ R2.out).mono ?_
  rintro e w3 ⟨A3, c3, rfl, hA3, m3, rfl⟩
  have SRC := Lib.hid (fun (h0 : 0 < s.size) => show ∃ ad, A3 = some ad ∧ ∀ j u, (bcs (sbs s))[j]? = some u → (w2.drewN m3).cell? (ad.add j) = some u from ⟨_, hA3 h0, CT.out _ (D2.out.drewN m3)⟩)
  clear hA3
  go_wp2_with (at_builtin; refine wpList_append_sl rfl _ _ 35 rfl w1.heap.size 5 i0 _ 1 1 Tryd.underlying35 hi0 hz0 hz1 hz2 rfl (by decide) _ 0 [] rfl (own_drewN OW2.out m3) A3 s.size c3 (bcs (sbs s)) rfl (by rw [bcs_length, sbs_length]; omega) SRC.out (bcs_one _) (by unfold maxLen; omega) (by omega) z2 ?_; intro A1 C1 w4 hown hgrow)
  have L4 := Lib.hid (below_own (show Below w1.heap.size w1 (w2.drewN m3) from by rw [HW2.out]; exact below_drewN (later_alloc _ _) m3) (own_drewN OW2.out m3) hgrow z2)
  have R4 := Lib.hid (R.out.here L4.out)
  have B4 := Lib.hid (below_from B1.out L4.out)
  have OW4 := Lib.hid hown
  clear hown hgrow HW2 R2 D2 z2 OW2
  go_wp2_with fail
  refine (SA.out _ _ R4.out).mono ?_
  rintro e w5 ⟨rfl, m5, rfl⟩
  go_wp2_with fail
  refine (ZA.out _ _ (R4.out.drewN _)).mono ?_
  rintro e w6 ⟨rfl, m6, rfl⟩
  go_wp2_with fail
  go_ret3
  have hown := show w4.ownsRow w1.heap.size 5 1 (.slice A1 (0 + s.size) C1) (0 + s.size) ((sbs s).map (Value.int .u8)) from by have h := OW4.out; rw [List.nil_append] at h; exact h
  obtain ⟨A, c', h1, h2, h3, h4⟩ := SlI.of_own hown
  injection h1 with e1 e2 e3
  subst e1
  exact ⟨A1, C1, by simp, own_plain hown, SlI.heap h4 rfl, below_drewN B4.out _⟩
end
end Go.Proofs.YtimdaolbdgafcaaDoor
