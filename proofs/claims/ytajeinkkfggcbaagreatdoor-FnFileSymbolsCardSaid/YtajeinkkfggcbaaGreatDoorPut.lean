/- Numbers laid into a block that is known whole, and read out of one. -/
import Derived.Test.YtajeinkkfggcbaaGreatDoorLe
namespace Go.Proofs.YtajeinkkfggcbaaGreatDoor
open Go.RowKit

abbrev u8 (v : Int) : Value := .int .u8 v
abbrev set2 (cs : Array Value) (o : Nat) (v : Int) : Array Value := (cs.setIfInBounds o (u8 (v % 256))).setIfInBounds (o + 1) (u8 (v / 256 % 256))
abbrev set4 (cs : Array Value) (o : Nat) (v : Int) : Array Value := (((cs.setIfInBounds o (u8 (v % 256))).setIfInBounds (o + 1) (u8 (v / 256 % 256))).setIfInBounds (o + 2) (u8 (v / 65536 % 256))).setIfInBounds (o + 3) (u8 (v / 16777216 % 256))
abbrev set8 (cs : Array Value) (o : Nat) (v : Int) : Array Value := set4 (set4 cs o v) (o + 4) (v / 4294967296)

theorem cell_in {w : World} {g : Nat} {t : TypeId} {cs : Array Value} (hb : Blk w g t cs) {i : Nat} (h : i < cs.size) : ∃ x, w.cell? ⟨g, i, none⟩ = some x := ⟨cs[i], by rw [hb.cell, Array.getElem?_eq_getElem h]⟩

section
variable (g o len cap : Nat) (t : TypeId) (cs : Array Value) (v : Int) (w : World) (hb : Blk w g t cs)
include hb
theorem putLe16_blk (hl : 2 ≤ len) (ho : o + 2 ≤ cs.size) (h0 : 0 ≤ v) (h1 : v < 65536) : Calls Tryz.prog 105 #[.slice (some ⟨g, o, none⟩) len cap, .int .u16 v] w (Wr g t (set2 cs o v) w) := by
  obtain ⟨x0, c0⟩ := cell_in hb (i := o) (by omega)
  obtain ⟨x1, c1⟩ := cell_in hb (i := o + 1) (by omega)
  have hf := hb.frozen
  have hr := Lib.hid ((hb.set_ o (u8 (v % 256))).set_ (o + 1) (u8 (v / 256 % 256)))
  have e : v / 256 % 256 = v / 256 := by omega
  rw [e] at hr
  have e' := Lib.hid e
  clear e hb
  go_enter Tryz.func105, Tryz.ntmps105
  go_wp2
  go_end0
  exact ⟨rfl, by unfold set2; rw [e'.out]; exact hr.out, by (repeat' (first | (with_reducible exact Fr.refl _ _) | (with_reducible assumption) | (with_reducible refine Fr.drewN ?_ _) | (with_reducible refine Fr.alloc ?_ _) | (with_reducible refine Fr.drew ?_) | (with_reducible refine Fr.setCell ?_ (.inl (by simp)) _) | (with_reducible refine Fr.setCell ?_ (.inr ?_) _) | go_size))⟩
theorem putLe32_blk (hl : 4 ≤ len) (ho : o + 4 ≤ cs.size) (h0 : 0 ≤ v) (h1 : v < 4294967296) : Calls Tryz.prog 73 #[.slice (some ⟨g, o, none⟩) len cap, .int .u32 v] w (Wr g t (set4 cs o v) w) := by
  obtain ⟨x0, c0⟩ := cell_in hb (i := o) (by omega)
  obtain ⟨x1, c1⟩ := cell_in hb (i := o + 1) (by omega)
  obtain ⟨x2, c2⟩ := cell_in hb (i := o + 2) (by omega)
  obtain ⟨x3, c3⟩ := cell_in hb (i := o + 3) (by omega)
  have hf := hb.frozen
  have hr := Lib.hid ((((hb.set_ o (u8 (v % 256))).set_ (o + 1) (u8 (v / 256 % 256))).set_ (o + 2) (u8 (v / 65536 % 256))).set_ (o + 3) (u8 (v / 16777216 % 256)))
  have e : v / 16777216 % 256 = v / 16777216 := by omega
  rw [e] at hr
  have e' := Lib.hid e
  clear e hb
  go_enter Tryz.func73, Tryz.ntmps73
  go_wp2
  go_end0
  exact ⟨rfl, by unfold set4; rw [e'.out]; exact hr.out, by (repeat' (first | (with_reducible exact Fr.refl _ _) | (with_reducible assumption) | (with_reducible refine Fr.drewN ?_ _) | (with_reducible refine Fr.alloc ?_ _) | (with_reducible refine Fr.drew ?_) | (with_reducible refine Fr.setCell ?_ (.inl (by simp)) _) | (with_reducible refine Fr.setCell ?_ (.inr ?_) _) | go_size))⟩
theorem putLe64_blk (hl : 8 ≤ len) (hl' : len ≤ cap) (ho : o + 8 ≤ cs.size) (h0 : 0 ≤ v) (h1 : v < 18446744073709551616) : Calls Tryz.prog 81 #[.slice (some ⟨g, o, none⟩) len cap, .int .u64 v] w (Wr g t (set8 cs o v) w) := by
  have e1 : set4 cs o (v % 4294967296) = set4 cs o v := by
    have a0 : v % 4294967296 % 256 = v % 256 := by omega
    have a1 : v % 4294967296 / 256 % 256 = v / 256 % 256 := by omega
    have a2 : v % 4294967296 / 65536 % 256 = v / 65536 % 256 := by omega
    have a3 : v % 4294967296 / 16777216 % 256 = v / 16777216 % 256 := by omega
    unfold set4
    rw [a0, a1, a2, a3]
  have E1 := Lib.hid e1
  clear e1
  obtain ⟨x7, c7⟩ := cell_in hb (i := o + 7) (by omega)
  have hf := hb.frozen
  have q0 : 0 ≤ v / 4294967296 := by omega
  have q1 : v / 4294967296 < 4294967296 := by omega
  go_enter Tryz.func81, Tryz.ntmps81
  go_wp2_with fail
  refine (putLe32_blk g o len cap t cs _ _ hb (by omega) (by omega) (by omega) (by omega)).mono ?_
  rintro e w1 ⟨rfl, hb1, hf1⟩
  rw [E1.out] at hb1
  go_wp2_with fail
  refine (putLe32_blk g (o + 4) _ _ t _ _ _ hb1 (by omega) (by simp; omega) (by omega) (by omega)).mono ?_
  rintro e w2 ⟨rfl, hb2, hf2⟩
  go_wp2_with fail
  go_end0
  exact ⟨rfl, hb2, hf1.trans1 hf2⟩
end

/-! Numbers read where they stand. -/
section
variable (g o len cap : Nat) (v : Int) (w : World)
theorem le16_at (hl : 2 ≤ len) (c0 : w.cell? ⟨g, o, none⟩ = some (u8 (v % 256))) (c1 : w.cell? ⟨g, o + 1, none⟩ = some (u8 (v / 256 % 256))) :
    Calls Tryz.prog 89 #[.slice (some ⟨g, o, none⟩) len cap] w (RetQ (.int .u16 (v % 65536)) w) :=
  le16_of g o len cap (v % 65536) w hl (by omega) (by omega) (by rw [c0, show v % 65536 % 256 = v % 256 from by omega]) (by rw [c1, show v % 65536 / 256 = v / 256 % 256 from by omega])
theorem le32_at (hl : 4 ≤ len) (c0 : w.cell? ⟨g, o, none⟩ = some (u8 (v % 256))) (c1 : w.cell? ⟨g, o + 1, none⟩ = some (u8 (v / 256 % 256))) (c2 : w.cell? ⟨g, o + 2, none⟩ = some (u8 (v / 65536 % 256))) (c3 : w.cell? ⟨g, o + 3, none⟩ = some (u8 (v / 16777216 % 256))) :
    Calls Tryz.prog 55 #[.slice (some ⟨g, o, none⟩) len cap] w (RetQ (.int .u32 (v % 4294967296)) w) :=
  le32_of g o len cap (v % 4294967296) w hl (by omega) (by omega) (by rw [c0, show v % 4294967296 % 256 = v % 256 from by omega]) (by rw [c1, show v % 4294967296 / 256 % 256 = v / 256 % 256 from by omega])
    (by rw [c2, show v % 4294967296 / 65536 % 256 = v / 65536 % 256 from by omega]) (by rw [c3, show v % 4294967296 / 16777216 = v / 16777216 % 256 from by omega])
theorem le64_at (hl : 8 ≤ len) (hl' : len ≤ cap) (c0 : w.cell? ⟨g, o, none⟩ = some (u8 (v % 256))) (c1 : w.cell? ⟨g, o + 1, none⟩ = some (u8 (v / 256 % 256))) (c2 : w.cell? ⟨g, o + 2, none⟩ = some (u8 (v / 65536 % 256))) (c3 : w.cell? ⟨g, o + 3, none⟩ = some (u8 (v / 16777216 % 256)))
    (c4 : w.cell? ⟨g, o + 4, none⟩ = some (u8 (v / 4294967296 % 256))) (c5 : w.cell? ⟨g, o + 4 + 1, none⟩ = some (u8 (v / 4294967296 / 256 % 256))) (c6 : w.cell? ⟨g, o + 4 + 2, none⟩ = some (u8 (v / 4294967296 / 65536 % 256))) (c7 : w.cell? ⟨g, o + 4 + 3, none⟩ = some (u8 (v / 4294967296 / 16777216 % 256))) :
    Calls Tryz.prog 90 #[.slice (some ⟨g, o, none⟩) len cap] w (RetQ (.int .u64 (v % 18446744073709551616)) w) := by
  have L0 : ∀ n, Calls Tryz.prog 55 #[.slice (some ⟨g, o, none⟩) len cap] (w.drewN n) fun e w' => e = .returned (.int .u32 (v % 4294967296)) ∧ ∃ m, w' = w.drewN m := fun n => Calls.quiet_of (le32_at g o len cap v (w.drewN n) (by omega) c0 c1 c2 c3)
  have L1 : ∀ n, Calls Tryz.prog 55 #[.slice (some ⟨g, o + 4, none⟩) (len - 4) (cap - 4)] (w.drewN n) fun e w' => e = .returned (.int .u32 (v / 4294967296 % 4294967296)) ∧ ∃ m, w' = w.drewN m := fun n => Calls.quiet_of (le32_at g (o + 4) (len - 4) (cap - 4) (v / 4294967296) (w.drewN n) (by omega) c4 c5 c6 c7)
  have hj := Lib.hid (show bits BinOp.or IntKind.u64 (v % 4294967296) (v / 4294967296 % 4294967296 * 4294967296) = v % 18446744073709551616 from by
    have h := join64 (v % 18446744073709551616) (by omega) (by omega)
    rw [show v % 18446744073709551616 % 4294967296 = v % 4294967296 from by omega, show v % 18446744073709551616 / 4294967296 = v / 4294967296 % 4294967296 from by omega] at h
    exact h)
  have c7' : w.cell? ⟨g, o + 7, none⟩ = some (u8 (v / 4294967296 / 16777216 % 256)) := c7
  clear c0 c1 c2 c3 c4 c5 c6 c7
  have H0 := Lib.hid L0
  have H1 := Lib.hid L1
  clear L0 L1
  have b0 : 0 ≤ v % 4294967296 := by omega
  have b1 : v % 4294967296 < 4294967296 := by omega
  have b2 : 0 ≤ v / 4294967296 % 4294967296 := by omega
  have b3 : v / 4294967296 % 4294967296 < 4294967296 := by omega
  go_enter Tryz.func90, Tryz.ntmps90
  go_wp2_with fail
  go_quiet ((go_at_call 55; first | (with_reducible exact H0.out _) | (with_reducible exact H1.out _)))
  go_wp2_with fail
  go_ret
  exact ⟨by simp [hj.out], _, rfl⟩
end

theorem set4_mod (cs : Array Value) (o : Nat) (v : Int) : set4 cs o (v % 4294967296) = set4 cs o v := by
  have a0 : v % 4294967296 % 256 = v % 256 := by omega
  have a1 : v % 4294967296 / 256 % 256 = v / 256 % 256 := by omega
  have a2 : v % 4294967296 / 65536 % 256 = v / 65536 % 256 := by omega
  have a3 : v % 4294967296 / 16777216 % 256 = v / 16777216 % 256 := by omega
  unfold set4
  rw [a0, a1, a2, a3]
theorem set8_mod (cs : Array Value) (o : Nat) (v : Int) : set8 cs o (v % 18446744073709551616) = set8 cs o v := by
  unfold set8
  rw [← set4_mod cs o (v % 18446744073709551616), ← set4_mod cs o v, ← set4_mod _ (o + 4) (v % 18446744073709551616 / 4294967296), ← set4_mod _ (o + 4) (v / 4294967296), show v % 18446744073709551616 % 4294967296 = v % 4294967296 from by omega, show v % 18446744073709551616 / 4294967296 % 4294967296 = v / 4294967296 % 4294967296 from by omega]
end Go.Proofs.YtajeinkkfggcbaaGreatDoor
