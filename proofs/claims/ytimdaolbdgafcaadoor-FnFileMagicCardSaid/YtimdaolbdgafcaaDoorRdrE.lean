/- What a reader points at; strings, data, hashes. (printed by gen_rdre.py) -/
import Derived.Test.YtimdaolbdgafcaaDoorRdrD
namespace Go.Proofs.YtimdaolbdgafcaaDoor
open Go.RowKit

theorem run_arrayAt {P : Program} {t e : TypeId} {m : Nat} (ht : P.underlying t = some (.array m e)) (l : Nat) (h : ¬ (l < m)) (a : Addr) (c : Nat) (w : World) : (Instr.arrayAt t (.slice (some a) l c)).run P w = .ok (.pointer (some a)) w := by
  simp [Instr.arrayAt, run_underlying ht, h]
section
variable {f : FM} {ro : Bool} {g d o c : Nat} {w : World} (R : Rdr f ro g d o c w) (S : f.Small)
include R S
set_option maxRecDepth 100000 in
theorem rdHash_any (i : Nat) (hi : i < f.hs.l.length) : Calls Tryd.prog 65 #[.pointer (some ⟨g, 0, none⟩), .int .u32 i] w (RetQ (.pointer (some ⟨d, o + (f.at_ 10 + 16 * i), none⟩)) w) := by
  have c1 := R.offs 10 (by omega)
  have c0 := R.b
  have hc := R.cap
  have b1 := S.at_le 10
  have hl : f.hs.l.length ≤ 60 := by have := S.hs; have := S.hashed_le; omega
  have hle := (FM.has_hs S i hi).le (by rw [S.hsf _ (List.getElem_mem hi)]; omega)
  rw [S.hsf _ (List.getElem_mem hi)] at hle
  have hn := S.len_le.1
  generalize f.bytes.length = n at *
  generalize f.at_ 10 = x at *
  obtain ⟨p, hp⟩ : ∃ p, p = x + 16 * i := ⟨_, rfl⟩
  rw [← hp] at hle ⊢
  have HP := Lib.hid (show (x : Int) + (i : Int) * 16 = (p : Int) from by omega)
  have j1 : (0 : Int) ≤ x := by omega
  have j2 : (x : Int) ≤ 110000 := by omega
  have j3 : (0 : Int) ≤ i := by omega
  have j4 : (i : Int) ≤ 60 := by omega
  have p0 : (0 : Int) ≤ p := by omega
  have p1 : (p : Int) + 16 ≤ n := by omega
  have p2 : (n : Int) ≤ c := by omega
  have p3 : (n : Int) ≤ 110000 := by omega
  have p4 : c ≠ p := by omega
  have p5 := run_arrayAt (P := Tryd.prog) Tryd.underlying121 (n - p) (by omega)
  clear R S b1 hi hl hle hn hp hc
  go_enter Tryd.func65, Tryd.ntmps65
  go_upto_region 2 with fail
  rw [HP.out]
  go_wp2_with fail
  go_ret
  exact ⟨rfl, 0, rfl⟩
set_option maxRecDepth 100000 in
theorem rdRefFlags_any (i : Nat) (hi : i < f.rf.l.length) : Calls Tryd.prog 87 #[.pointer (some ⟨g, 0, none⟩), .int .i64 i] w (RetQ (.pointer (some ⟨d, o + (f.at_ 8 + 10 * i), none⟩)) w) := by
  have c1 := R.offs 8 (by omega)
  have c0 := R.b
  have hc := R.cap
  have b1 := S.at_le 8
  have hl : f.rf.l.length ≤ 60 := by have := S.rf; have := S.hashed_le; omega
  have hle := (FM.has_rf S i hi).le (by rw [Fl.bytes_length]; omega)
  rw [Fl.bytes_length] at hle
  have hn := S.len_le.1
  generalize f.bytes.length = n at *
  generalize f.at_ 8 = x at *
  obtain ⟨p, hp⟩ : ∃ p, p = x + 10 * i := ⟨_, rfl⟩
  rw [← hp] at hle ⊢
  have HP := Lib.hid (show (x : Int) + (i : Int) * 10 = (p : Int) from by omega)
  have j1 : (0 : Int) ≤ x := by omega
  have j2 : (x : Int) ≤ 110000 := by omega
  have j3 : (0 : Int) ≤ i := by omega
  have j4 : (i : Int) ≤ 60 := by omega
  have p0 : (0 : Int) ≤ p := by omega
  have p1 : (p : Int) + 10 ≤ n := by omega
  have p2 : (n : Int) ≤ c := by omega
  have p3 : (n : Int) ≤ 110000 := by omega
  have p4 : c ≠ p := by omega
  have p5 := run_arrayAt (P := Tryd.prog) Tryd.underlying195 (n - p) (by omega)
  clear R S b1 hi hl hle hn hp hc
  go_enter Tryd.func87, Tryd.ntmps87
  go_upto_region 2 with fail
  rw [HP.out]
  go_wp2_with fail
  go_ret
  exact ⟨rfl, 0, rfl⟩
set_option maxRecDepth 100000 in
theorem rdRefName_any (i : Nat) (hi : i < f.rn.l.length) : Calls Tryd.prog 88 #[.pointer (some ⟨g, 0, none⟩), .int .i64 i] w (RetQ (.pointer (some ⟨d, o + (f.at_ 17 + 16 * i), none⟩)) w) := by
  have c1 := R.offs 17 (by omega)
  have c0 := R.b
  have hc := R.cap
  have b1 := S.at_le 17
  have hl : f.rn.l.length ≤ 60 := by have := S.rn; have := S.hashed_le; omega
  have hle := (FM.has_rn S i hi).le (by rw [FM.nmB_length]; omega)
  rw [FM.nmB_length] at hle
  have hn := S.len_le.1
  generalize f.bytes.length = n at *
  generalize f.at_ 17 = x at *
  obtain ⟨p, hp⟩ : ∃ p, p = x + 16 * i := ⟨_, rfl⟩
  rw [← hp] at hle ⊢
  have HP := Lib.hid (show (x : Int) + (i : Int) * 16 = (p : Int) from by omega)
  have j1 : (0 : Int) ≤ x := by omega
  have j2 : (x : Int) ≤ 110000 := by omega
  have j3 : (0 : Int) ≤ i := by omega
  have j4 : (i : Int) ≤ 60 := by omega
  have p0 : (0 : Int) ≤ p := by omega
  have p1 : (p : Int) + 16 ≤ n := by omega
  have p2 : (n : Int) ≤ c := by omega
  have p3 : (n : Int) ≤ 110000 := by omega
  have p4 : c ≠ p := by omega
  have p5 := run_arrayAt (P := Tryd.prog) Tryd.underlying172 (n - p) (by omega)
  clear R S b1 hi hl hle hn hp hc
  go_enter Tryd.func88, Tryd.ntmps88
  go_upto_region 2 with fail
  rw [HP.out]
  go_wp2_with fail
  go_ret
  exact ⟨rfl, 0, rfl⟩
set_option maxRecDepth 100000 in
theorem rdAux_any (i j : Nat) (hi : i < f.all.length) (hj : j < f.all[i].xs.l.length) : Calls Tryd.prog 84 #[.pointer (some ⟨g, 0, none⟩), .int .u32 i, .int .i64 j] w (RetQ (.pointer (some ⟨d, o + (f.at_ 15 + 9 * (cntK Df.nx f.all i + j)), none⟩)) w) := by
  have c0 := R.b
  have hc := R.cap
  have hle := (FM.has_aux S i hi j hj).le (by rw [Ax.bytes_length]; omega)
  rw [Ax.bytes_length] at hle
  have hn := S.len_le.1
  have U := Lib.hid (rdAuxOff_any R S i j (by omega) (by have := (S.data _ (List.getElem_mem hi)).2.2; omega))
  generalize f.bytes.length = n at *
  generalize f.at_ 15 + 9 * (cntK Df.nx f.all i + j) = p at *
  have p0 : (0 : Int) ≤ p := by omega
  have p1 : (p : Int) + 9 ≤ n := by omega
  have p2 : (n : Int) ≤ c := by omega
  have p3 : (n : Int) ≤ 110000 := by omega
  have p4 : c ≠ p := by omega
  have p5 := run_arrayAt (P := Tryd.prog) Tryd.underlying142 (n - p) (by omega)
  clear R S hi hle hn hc hj
  go_enter Tryd.func84, Tryd.ntmps84
  go_wp2_with fail
  refine U.out.mono ?_
  rintro e w1 ⟨rfl, n1, rfl⟩
  go_wp2_with fail
  go_ret
  exact ⟨rfl, n1, rfl⟩

/-- A string that is referred to. -/
theorem rdStr (p : Nat) (s : ByteArray) (k : Has f.bytes p (sbs s)) (h : p + s.size ≤ f.bytes.length) (m : Nat) : Calls Tryd.prog 57 #[.pointer (some ⟨g, 0, none⟩), .int .u32 p, .int .u32 s.size] (w.drewN m) (RetQ (.string s) (w.drewN m)) :=
  stringAt_any (w := w.drewN m) R.b R.cap (by have := S.len_le; omega) ro R.ro (R.at_.drewN m) rfl p s k h
set_option maxRecDepth 100000 in
theorem rdStringRef_any (p : Nat) (s : ByteArray) (hs : s ∈ f.names) (k : Has f.bytes p (f.sref s)) (m : Nat) : Calls Tryd.prog 123 #[.pointer (some ⟨g, 0, none⟩), .int .u32 p] (w.drewN m) (RetQ (.string s) (w.drewN m)) := by
  have h1 := FM.has_str S s hs
  have h2 := S.names s hs
  have hp := k.le (by rw [FM.sref_length]; omega)
  rw [FM.sref_length] at hp
  have hn := S.len_le.1
  have U0 := Lib.hid (fun m => rdU32 R S p p rfl s.size k.left (by omega) (by omega) m)
  have U1 := Lib.hid (fun m => rdU32 R S (p + 4) ((p : Int) + 4) (by omega) (f.off s) (k.right (by rw [le4_len])) (by omega) (by omega) m)
  have ST := Lib.hid (fun m => rdStr R S (f.off s) s h1.1 h1.2.1 m)
  have i0 : (0 : Int) ≤ p := by omega
  have i1 : (p : Int) ≤ 110000 := by omega
  clear R S h1 h2 hp hn k hs
  go_enter Tryd.func123, Tryd.ntmps123
  go_wp2_with fail
  refine (U0.out _).mono ?_
  rintro e w1 ⟨rfl, n1, rfl⟩
  go_wp2_with fail
  refine (U1.out _).mono ?_
  rintro e w1 ⟨rfl, n2, rfl⟩
  go_wp2_with fail
  refine (ST.out _).mono ?_
  rintro e w1 ⟨rfl, n3, rfl⟩
  go_wp2_with fail
  go_ret
  exact ⟨rfl, n1 + n2 + n3, by simp [Nat.add_assoc]⟩
set_option maxRecDepth 100000 in
theorem rdPkg_any (i : Nat) (hi : i < f.pk.l.length) : Calls Tryd.prog 93 #[.pointer (some ⟨g, 0, none⟩), .int .i64 i] w (RetQ (.string f.pk.l[i]) w) := by
  have c1 := R.offs 1 (by omega)
  have b1 := S.at_le 1
  have hl := S.pk
  have SR := Lib.hid (fun m => rdStringRef_any R S (f.at_ 1 + 8 * i) f.pk.l[i] (FM.pk_name f i hi) (FM.has_pk S i hi) m)
  generalize f.pk.l[i] = s at *
  generalize f.at_ 1 = x at *
  obtain ⟨p, hp⟩ : ∃ p, p = x + 8 * i := ⟨_, rfl⟩
  rw [← hp] at SR
  have HP := Lib.hid (show (x : Int) + (i : Int) * 8 = (p : Int) from by omega)
  have j1 : (0 : Int) ≤ x := by omega
  have j2 : (x : Int) ≤ 110000 := by omega
  have j3 : (0 : Int) ≤ i := by omega
  have j4 : (i : Int) ≤ 60 := by omega
  clear R S b1 hi hl hp
  go_enter Tryd.func93, Tryd.ntmps93
  go_upto_region 2 with fail
  rw [HP.out]
  go_wp2_with fail
  refine (SR.out 0).mono ?_
  rintro e w1 ⟨rfl, n1, rfl⟩
  go_wp2_with fail
  go_ret
  exact ⟨rfl, _, rfl⟩
set_option maxRecDepth 100000 in
theorem rdFile_any (i : Nat) (hi : i < f.fi.l.length) : Calls Tryd.prog 96 #[.pointer (some ⟨g, 0, none⟩), .int .i64 i] w (RetQ (.string f.fi.l[i]) w) := by
  have c1 := R.offs 2 (by omega)
  have b1 := S.at_le 2
  have hl := S.fi
  have SR := Lib.hid (fun m => rdStringRef_any R S (f.at_ 2 + 8 * i) f.fi.l[i] (FM.fi_name f i hi) (FM.has_fi S i hi) m)
  generalize f.fi.l[i] = s at *
  generalize f.at_ 2 = x at *
  obtain ⟨p, hp⟩ : ∃ p, p = x + 8 * i := ⟨_, rfl⟩
  rw [← hp] at SR
  have HP := Lib.hid (show (x : Int) + (i : Int) * 8 = (p : Int) from by omega)
  have j1 : (0 : Int) ≤ x := by omega
  have j2 : (x : Int) ≤ 110000 := by omega
  have j3 : (0 : Int) ≤ i := by omega
  have j4 : (i : Int) ≤ 60 := by omega
  clear R S b1 hi hl hp
  go_enter Tryd.func96, Tryd.ntmps96
  go_upto_region 2 with fail
  rw [HP.out]
  go_wp2_with fail
  refine (SR.out 0).mono ?_
  rintro e w1 ⟨rfl, n1, rfl⟩
  go_wp2_with fail
  go_ret
  exact ⟨rfl, _, rfl⟩
end
end Go.Proofs.YtimdaolbdgafcaaDoor
