/- A reader over bytes: what it reads where. -/
import Derived.Laws.BytesArg
import Derived.Test.YtajeinkkfggcbaaGreatDoorFmR
import Derived.Test.YtajeinkkfggcbaaGreatDoorFin
namespace Go.Proofs.YtajeinkkfggcbaaGreatDoor
open Go.RowKit

/-- Bytes as a string. -/
theorem sbs_size {xs : List Int} {s : ByteArray} (h : xs = sbs s) : xs.length = s.size := by rw [h, sbs_length]
theorem At.getD {w : World} {g o : Nat} {xs : List Int} (h : At w g o xs) (i : Nat) (hi : i < xs.length) : w.cell? ⟨g, o + i, none⟩ = some (.int .u8 (xs.getD i 0)) :=
  h i _ (by simp [hi])
theorem run_str {w : World} {g o c : Nat} {s : ByteArray} (h : At w g o (sbs s)) : (convert 35 9 (.slice (some ⟨g, o, none⟩) s.size c)).run Tryz.prog w = .ok (.string s) w := by
  have h1 := run_convert_bytes_arg (P := Tryz.prog) w 35 5 Tryz.underlying35 Tryz.underlying5 g o s.size c (sbs s) (sbs_length s) (fun i hi => h.getD i (by rw [sbs_length]; exact hi)) 9 Tryz.underlying9
  rw [h1]
  have h2 := str_sbs s
  unfold strOfNums
  rw [h2]

/-- A reader's cells. -/
structure Rdr (f : FM) (ro : Bool) (g d o c : Nat) (w : World) : Prop where
  b : w.cell? ⟨g, 0, none⟩ = some (.slice (some ⟨d, o, none⟩) f.bytes.length c)
  cap : f.bytes.length ≤ c
  ro : w.cell? ⟨g, 1, none⟩ = some (.bool ro)
  fp : ∀ i z, f.fp[i]? = some z → w.cell? ⟨g, 4 + i, none⟩ = some (.int .u8 z)
  flags : w.cell? ⟨g, 12, none⟩ = some (.int .u32 f.flags)
  offs : ∀ i, i < 19 → w.cell? ⟨g, 13 + i, none⟩ = some (.int .u32 (f.at_ i))
  at_ : At w d o f.bytes
section
variable {f : FM} {ro : Bool} {g d o c : Nat} {w w' : World}
theorem Rdr.here (R : Rdr f ro g d o c w) (hb : Below w.heap.size w w') : Rdr f ro g d o c w' :=
  ⟨keep_cell hb R.b, R.cap, keep_cell hb R.ro, fun i z h => keep_cell hb (R.fp i z h), keep_cell hb R.flags, fun i h => keep_cell hb (R.offs i h), R.at_.here hb⟩
theorem Rdr.drewN (R : Rdr f ro g d o c w) (n : Nat) : Rdr f ro g d o c (w.drewN n) := R.here (below_drewN (Below.refl _ _) n)
theorem Rdr.lt (R : Rdr f ro g d o c w) : g < w.heap.size := World.block_lt_of_cell? w _ R.b
end

/-- toString: of bytes that read as s. -/
theorem str_empty {s : ByteArray} (h : s.size = 0) : s = ⟨#[]⟩ := by
  obtain ⟨⟨l⟩⟩ := s
  have : l = [] := by simpa [ByteArray.size] using h
  rw [this]
set_option maxRecDepth 100000 in
theorem toString_any (A : Option Addr) (s : ByteArray) (c : Nat) (w : World) (hs : s.size ≤ 200000) (h : (convert 35 9 (.slice A s.size c)).run Tryz.prog w = .ok (.string s) w) : Calls Tryz.prog 88 #[.slice A s.size c] w (RetQ (.string s) w) := by
  by_cases h0 : s.size = 0
  · have e := str_empty h0
    subst e
    clear h0 hs
    go_enter Tryz.func88, Tryz.ntmps88
    go_wp2_with fail
    go_ret
    exact ⟨rfl, 0, rfl⟩
  · have hz : ((s.size : Int) == 0) = false := beq_eq_false_iff_ne.2 (by omega)
    have i1 : (s.size : Int) ≤ 200000 := by omega
    have i0 : (0 : Int) < s.size := by omega
    clear h0 hs
    go_enter Tryz.func88, Tryz.ntmps88
    go_wp2_with fail
    go_ret
    exact ⟨rfl, 0, rfl⟩

section
variable {g d o n c : Nat} {w : World} (hb : w.cell? ⟨g, 0, none⟩ = some (.slice (some ⟨d, o, none⟩) n c)) (hn : n ≤ c) (hc : n ≤ 200000)
include hb hn hc
theorem bytesAt_any (p m : Nat) (h0 : 0 < m) (h : p + m ≤ n) : Calls Tryz.prog 86 #[.pointer (some ⟨g, 0, none⟩), .int .u32 p, .int .i64 m] w (RetQ (.slice (some ⟨d, o + p, none⟩) m m) w) := by
  have i0 : (0 : Int) < m := by omega
  have i1 : (p : Int) + m ≤ n := by omega
  have i2 : (n : Int) ≤ c := by omega
  have i3 : (0 : Int) ≤ p := by omega
  have i4 : (n : Int) ≤ 200000 := by omega
  have mz : ((m : Int) == 0) = false := by simp; omega
  clear hc h
  go_enter Tryz.func86, Tryz.ntmps86
  go_wp2_with fail
  go_ret
  refine ⟨?_, 0, rfl⟩
  simp
theorem uint32At_any {xs : List Int} (h : At w d o xs) (hl : n = xs.length) (p : Nat) (v : Int) (k : Has xs p (le4 v)) (v0 : 0 ≤ v) (v1 : v < 4294967296) : Calls Tryz.prog 63 #[.pointer (some ⟨g, 0, none⟩), .int .u32 p] w (RetQ (.int .u32 v) w) := by
  have hp : p + 4 ≤ n := by have := k.le (by rw [le4_len]; omega); rw [le4_len] at this; omega
  have L := Lib.hid (fun m => le32_rd (h.drewN m) k v0 v1 4 4 (by omega))
  have B := Lib.hid (bytesAt_any hb hn hc p 4 (by omega) hp)
  clear h k hb hl hn hc hp
  go_enter Tryz.func63, Tryz.ntmps63
  go_wp2_with fail
  refine B.out.mono ?_
  rintro e w1 ⟨rfl, n1, rfl⟩
  go_wp2_with fail
  refine (L.out n1).mono ?_
  rintro e w1 ⟨rfl, n2, rfl⟩
  go_wp2_with fail
  go_ret
  exact ⟨rfl, n1 + n2, rfl⟩
set_option maxRecDepth 100000 in
theorem stringAt_any (ro : Bool) (hr : w.cell? ⟨g, 1, none⟩ = some (.bool ro)) {xs : List Int} (h : At w d o xs) (hl : n = xs.length) (p : Nat) (s : ByteArray) (k : Has xs p (sbs s)) (hs : p + s.size ≤ n) : Calls Tryz.prog 56 #[.pointer (some ⟨g, 0, none⟩), .int .u32 p, .int .u32 s.size] w (RetQ (.string s) w) := by
  have A := h.has k
  have i1 : (p : Int) + s.size ≤ n := by omega
  have i2 : (n : Int) ≤ c := by omega
  have i3 : (0 : Int) ≤ p := by omega
  have i4 : (n : Int) ≤ 200000 := by omega
  have i5 : (0 : Int) ≤ s.size := by omega
  by_cases hpc : c = p
  · obtain rfl : p = c := hpc.symm
    have e := str_empty (show s.size = 0 by omega)
    subst e
    have hst : ∀ c', (convert 35 9 (.slice (some ⟨d, o, none⟩) 0 c')).run Tryz.prog w = .ok (.string ⟨#[]⟩) w := fun c' => run_str (s := ⟨#[]⟩) (g := d) (o := o) (fun j z hz => by simp [sbs] at hz)
    have T := Lib.hid (fun c' => toString_any (some ⟨d, o, none⟩) ⟨#[]⟩ c' w (by show 0 ≤ _; omega) (hst c'))
    clear h k hl A hs
    cases ro
    · go_enter Tryz.func56, Tryz.ntmps56
      go_wp2_with fail
      go_ret
      exact ⟨rfl, 0, rfl⟩
    · go_enter Tryz.func56, Tryz.ntmps56
      go_wp2_with fail
      refine (T.out _).mono ?_
      rintro e w1 ⟨rfl, n1, rfl⟩
      go_wp2_with fail
      go_ret
      exact ⟨rfl, n1, rfl⟩
  · have hst : ∀ c', (convert 35 9 (.slice (some ⟨d, o + p, none⟩) s.size c')).run Tryz.prog w = .ok (.string s) w := fun c' => run_str A
    have T := Lib.hid (fun c' => toString_any (some ⟨d, o + p, none⟩) s c' w (by omega) (hst c'))
    have hcp : ¬ c < p + s.size := by omega
    have hpc' : c ≠ p := hpc
    clear h k hl A hs
    cases ro
    · go_enter Tryz.func56, Tryz.ntmps56
      go_wp2_with fail
      go_ret
      exact ⟨rfl, 0, rfl⟩
    · go_enter Tryz.func56, Tryz.ntmps56
      go_wp2_with fail
      refine (T.out _).mono ?_
      rintro e w1 ⟨rfl, n1, rfl⟩
      go_wp2_with fail
      go_ret
      exact ⟨rfl, n1, rfl⟩
end
end Go.Proofs.YtajeinkkfggcbaaGreatDoor
