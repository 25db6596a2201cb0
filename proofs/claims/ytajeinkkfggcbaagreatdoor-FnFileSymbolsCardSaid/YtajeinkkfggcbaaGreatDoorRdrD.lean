/- What a reader tells of each symbol: where its data, its relocations, its auxiliary symbols stand. (printed by gen_rdrd.py) -/
import Derived.Test.YtajeinkkfggcbaaGreatDoorRdrC
namespace Go.Proofs.YtajeinkkfggcbaaGreatDoor
open Go.RowKit

section
variable {f : FM} {ro : Bool} {g d o c : Nat} {w : World} (R : Rdr f ro g d o c w) (S : f.Small)
include R S
/-- A number of four bytes, read by a reader. -/
theorem rdU32 (p : Nat) (q : Int) (hq : q = (p : Int)) (v : Int) (k : Has f.bytes p (le4 v)) (v0 : 0 ≤ v) (v1 : v < 4294967296) (m : Nat) : Calls Tryz.prog 63 #[.pointer (some ⟨g, 0, none⟩), .int .u32 q] (w.drewN m) (RetQ (.int .u32 v) (w.drewN m)) := by
  subst hq
  exact uint32At_any (w := w.drewN m) R.b R.cap (by have := S.len_le; omega) (R.at_.drewN m) rfl p v k v0 v1
theorem rdU32q (p : Nat) (q : Int) (hq : q = (p : Int)) (v : Int) (k : Has f.bytes p (le4 v)) (v0 : 0 ≤ v) (v1 : v < 4294967296) (m : Nat) : Calls Tryz.prog 63 #[.pointer (some ⟨g, 0, none⟩), .int .u32 q] (w.drewN m) fun e w' => e = .returned (.int .u32 v) ∧ ∃ n, w' = w.drewN n :=
  Calls.quiet_of (rdU32 R S p q hq v k v0 v1 m)
set_option maxRecDepth 100000 in
theorem rdNReloc_any (i : Nat) (hi : i < f.all.length) : Calls Tryz.prog 27 #[.pointer (some ⟨g, 0, none⟩), .int .u32 i] w (RetQ (.int .i64 (Df.nr f.all[i] : Nat)) w) := by
  have c1 := R.offs 11 (by omega)
  have b1 := S.at_le 11
  have i3 : (0 : Int) ≤ i := by omega
  have i4 : (i : Int) ≤ 60 := by have := S.all; omega
  have hv := S.cnt_le Df.nr S.nr_le i
  have hv' := S.cnt_le Df.nr S.nr_le (i + 1)
  have hs := cntK_succ Df.nr f.all i hi
  have U0 := Lib.hid (fun m => rdU32 R S (f.at_ 11 + 4 * (i + 1)) ((f.at_ 11 : Int) + (i : Int) * 4 + 4) (by omega) (cntK Df.nr f.all (i + 1)) (FM.has_idx S 11 (by omega) Df.nr rfl (i + 1) (by omega)) (by omega) (by omega) m)
  have U1 := Lib.hid (fun m => rdU32 R S (f.at_ 11 + 4 * i) ((f.at_ 11 : Int) + (i : Int) * 4) (by omega) (cntK Df.nr f.all i) (FM.has_idx S 11 (by omega) Df.nr rfl i (by omega)) (by omega) (by omega) m)
  generalize Df.nr f.all[i] = n at *
  generalize f.at_ 11 = x at *
  generalize cntK Df.nr f.all i = v at *
  generalize cntK Df.nr f.all (i + 1) = u at *
  have HS := Lib.hid hs
  have j1 : (0 : Int) ≤ x := by omega
  have j2 : (x : Int) ≤ 110000 := by omega
  have j5 : (0 : Int) ≤ v := by omega
  have j6 : (v : Int) ≤ u := by omega
  have j7 : (u : Int) ≤ 12000 := by omega
  clear R S b1 hv hv' hi hs
  go_enter Tryz.func27, Tryz.ntmps27
  go_wp2_with fail
  refine (U0.out 0).mono ?_
  rintro e w1 ⟨rfl, n1, rfl⟩
  go_wp2_with fail
  refine (U1.out _).mono ?_
  rintro e w1 ⟨rfl, n2, rfl⟩
  go_wp2_with fail
  go_ret
  exact ⟨by simp; have := HS.out; omega, _, rfl⟩
set_option maxRecDepth 100000 in
theorem rdRelocOff_any (i j : Nat) (hi : i ≤ f.all.length) (hj : j ≤ 60) : Calls Tryz.prog 70 #[.pointer (some ⟨g, 0, none⟩), .int .u32 i, .int .i64 j] w (RetQ (.int .u32 ((f.at_ 14 + 23 * (cntK Df.nr f.all i + j) : Nat) : Int)) w) := by
  have c1 := R.offs 11 (by omega)
  have b1 := S.at_le 11
  have c2 := R.offs 14 (by omega)
  have b2 := S.at_le 14
  have i3 : (0 : Int) ≤ i := by omega
  have i4 : (i : Int) ≤ 60 := by have := S.all; omega
  have hv := S.cnt_le Df.nr S.nr_le i
  have U1 := Lib.hid (fun m => rdU32 R S (f.at_ 11 + 4 * i) ((f.at_ 11 : Int) + (i : Int) * 4) (by omega) (cntK Df.nr f.all i) (FM.has_idx S 11 (by omega) Df.nr rfl i (by omega)) (by omega) (by omega) m)
  generalize f.at_ 11 = x at *
  generalize f.at_ 14 = y at *
  generalize cntK Df.nr f.all i = v at *
  have j1 : (0 : Int) ≤ x := by omega
  have j2 : (x : Int) ≤ 110000 := by omega
  have j3 : (0 : Int) ≤ y := by omega
  have j4 : (y : Int) ≤ 110000 := by omega
  have j5 : (0 : Int) ≤ v := by omega
  have j6 : (v : Int) ≤ 12000 := by omega
  have j7 : (0 : Int) ≤ j := by omega
  have j8 : (j : Int) ≤ 60 := by omega
  clear R S b1 b2 hv hi hj
  go_enter Tryz.func70, Tryz.ntmps70
  go_wp2_with fail
  refine (U1.out 0).mono ?_
  rintro e w1 ⟨rfl, n1, rfl⟩
  go_wp2_with fail
  go_ret
  exact ⟨by simp; omega, _, rfl⟩
end
end Go.Proofs.YtajeinkkfggcbaaGreatDoor
