/- What a reader points at; strings, data, hashes. (printed by gen_rdre.py) -/
import Derived.Test.YtajeinkkfggcbaaGreatDoorRdrD
namespace Go.Proofs.YtajeinkkfggcbaaGreatDoor
open Go.RowKit

theorem run_arrayAt {P : Program} {t e : TypeId} {m : Nat} (ht : P.underlying t = some (.array m e)) (l : Nat) (h : ¬ (l < m)) (a : Addr) (c : Nat) (w : World) : (Instr.arrayAt t (.slice (some a) l c)).run P w = .ok (.pointer (some a)) w := by
  simp [Instr.arrayAt, run_underlying ht, h]
section
variable {f : FM} {ro : Bool} {g d o c : Nat} {w : World} (R : Rdr f ro g d o c w) (S : f.Small)
include R S
set_option maxRecDepth 100000 in
theorem rdSym_any (i : Nat) (hi : i < f.syms.length) : Calls Tryz.prog 23 #[.pointer (some ⟨g, 0, none⟩), .int .u32 i] w (RetQ (.pointer (some ⟨d, o + (f.at_ 3 + 21 * i), none⟩)) w) := by
  have c0 := R.b
  have hc := R.cap
  have hle := (FM.has_sym S i hi).le (by rw [FM.syB_length]; omega)
  rw [FM.syB_length] at hle
  have hn := S.len_le.1
  have U := Lib.hid (rdSymOff_any R S i (by have := S.all; have := S.refs; have h2 : f.syms.length = f.all.length + f.refs.l.length := (by simp [FM.syms]); omega))
  generalize f.bytes.length = n at *
  generalize f.at_ 3 + 21 * i = p at *
  have p0 : (0 : Int) ≤ p := by omega
  have p1 : (p : Int) + 21 ≤ n := by omega
  have p2 : (n : Int) ≤ c := by omega
  have p3 : (n : Int) ≤ 110000 := by omega
  have p4 : c ≠ p := by omega
  have p5 := run_arrayAt (P := Tryz.prog) Tryz.underlying168 (n - p) (by omega)
  clear R S hi hle hn hc
  go_enter Tryz.func23, Tryz.ntmps23
  go_wp2_with fail
  refine U.out.mono ?_
  rintro e w1 ⟨rfl, n1, rfl⟩
  go_wp2_with fail
  go_ret
  exact ⟨rfl, n1, rfl⟩
set_option maxRecDepth 100000 in
theorem rdReloc_any (i j : Nat) (hi : i < f.all.length) (hj : j < f.all[i].rs.l.length) : Calls Tryz.prog 29 #[.pointer (some ⟨g, 0, none⟩), .int .u32 i, .int .i64 j] w (RetQ (.pointer (some ⟨d, o + (f.at_ 14 + 23 * (cntK Df.nr f.all i + j)), none⟩)) w) := by
  have c0 := R.b
  have hc := R.cap
  have hle := (FM.has_rel S i hi j hj).le (by rw [Rl.bytes_length]; omega)
  rw [Rl.bytes_length] at hle
  have hn := S.len_le.1
  have U := Lib.hid (rdRelocOff_any R S i j (by omega) (by have := (S.data _ (List.getElem_mem hi)).2.1; omega))
  generalize f.bytes.length = n at *
  generalize f.at_ 14 + 23 * (cntK Df.nr f.all i + j) = p at *
  have p0 : (0 : Int) ≤ p := by omega
  have p1 : (p : Int) + 23 ≤ n := by omega
  have p2 : (n : Int) ≤ c := by omega
  have p3 : (n : Int) ≤ 110000 := by omega
  have p4 : c ≠ p := by omega
  have p5 := run_arrayAt (P := Tryz.prog) Tryz.underlying93 (n - p) (by omega)
  clear R S hi hle hn hc hj
  go_enter Tryz.func29, Tryz.ntmps29
  go_wp2_with fail
  refine U.out.mono ?_
  rintro e w1 ⟨rfl, n1, rfl⟩
  go_wp2_with fail
  go_ret
  exact ⟨rfl, n1, rfl⟩

/-- A string that is referred to. -/
theorem rdStr (p : Nat) (s : ByteArray) (k : Has f.bytes p (sbs s)) (h : p + s.size ≤ f.bytes.length) (m : Nat) : Calls Tryz.prog 56 #[.pointer (some ⟨g, 0, none⟩), .int .u32 p, .int .u32 s.size] (w.drewN m) (RetQ (.string s) (w.drewN m)) :=
  stringAt_any (w := w.drewN m) R.b R.cap (by have := S.len_le; omega) ro R.ro (R.at_.drewN m) rfl p s k h
end
end Go.Proofs.YtajeinkkfggcbaaGreatDoor
