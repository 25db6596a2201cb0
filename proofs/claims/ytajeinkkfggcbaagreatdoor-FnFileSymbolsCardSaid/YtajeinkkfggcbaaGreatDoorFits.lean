/- Whether a file fits: a truth value in every case. (printed by gen_fits.py) -/
import Derived.Test.YtajeinkkfggcbaaGreatDoorFileS
namespace Go.Proofs.YtajeinkkfggcbaaGreatDoor
open Go.RowKit

/-- A truth value; where it is true, P. Nothing that was there has turned. -/
def RetIf (P : Prop) (w : World) (e : Ending) (w' : World) : Prop := ∃ b, e = .returned (.bool b) ∧ (b = true → P) ∧ Below w.heap.size w w'

theorem zz8_any (s : ByteArray) (z0 z1 z2 z3 z4 z5 z6 z7 : Int) (w : World) (h : s.size ≤ maxLen) : Calls Tryz.prog 31 #[.agg #[.string s, .int .u8 z0, .int .u8 z1, .int .u8 z2, .int .u8 z3, .int .u8 z4, .int .u8 z5, .int .u8 z6, .int .u8 z7]] w (RetIf True w) := by
  unfold maxLen at h
  have h' : (s.size : Int) ≤ 9223372036854775807 := by omega
  clear h
  go_enter Tryz.func31, Tryz.ntmps31
  go_wp2_with fail
  all_goals (go_returns; exact ⟨_, rfl, fun _ => trivial, by (repeat' (first | (with_reducible exact Below.refl _ _) | (with_reducible assumption) | (with_reducible refine below_drewN ?_ _) | (with_reducible refine Below.alloc ?_ ?_ _) | (with_reducible refine Below.drew ?_) | (with_reducible refine Below.setCell ?_ ?_ _) | go_size))⟩)
theorem zz12_any (s : ByteArray) (a k f g z l : Int) (w : World) (h : s.size ≤ maxLen) : Calls Tryz.prog 33 #[.agg #[.string s, .int .u16 a, .int .u8 k, .int .u8 f, .int .u8 g, .int .u32 z, .int .u32 l]] w (RetIf True w) := by
  unfold maxLen at h
  have h' : (s.size : Int) ≤ 9223372036854775807 := by omega
  clear h
  go_enter Tryz.func33, Tryz.ntmps33
  go_wp2_with fail
  all_goals (go_returns; exact ⟨_, rfl, fun _ => trivial, by (repeat' (first | (with_reducible exact Below.refl _ _) | (with_reducible assumption) | (with_reducible refine below_drewN ?_ _) | (with_reducible refine Below.alloc ?_ ?_ _) | (with_reducible refine Below.drew ?_) | (with_reducible refine Below.setCell ?_ ?_ _) | go_size))⟩)
theorem zz14_any (s : ByteArray) (p y : Int) (w : World) (h : s.size ≤ maxLen) : Calls Tryz.prog 34 #[.agg #[.int .u32 p, .int .u32 y, .string s]] w (RetIf True w) := by
  unfold maxLen at h
  have h' : (s.size : Int) ≤ 9223372036854775807 := by omega
  clear h
  go_enter Tryz.func34, Tryz.ntmps34
  go_wp2_with fail
  all_goals (go_returns; exact ⟨_, rfl, fun _ => trivial, by (repeat' (first | (with_reducible exact Below.refl _ _) | (with_reducible assumption) | (with_reducible refine below_drewN ?_ _) | (with_reducible refine Below.alloc ?_ ?_ _) | (with_reducible refine Below.drew ?_) | (with_reducible refine Below.setCell ?_ ?_ _) | go_size))⟩)
theorem zz10_any (s t : ByteArray) (a k f g z l : Int) (RA XA : Option Addr) (rn rc xn xc : Nat) (w : World) (h : s.size ≤ maxLen) (ht : t.size ≤ maxLen) (hr : rn ≤ maxLen) (hx : xn ≤ maxLen) : Calls Tryz.prog 32 #[.agg #[.string s, .int .u16 a, .int .u8 k, .int .u8 f, .int .u8 g, .int .u32 z, .int .u32 l, .slice RA rn rc, .slice XA xn xc, .string t]] w (RetIf True w) := by
  unfold maxLen at h ht hr hx
  have h1 : (s.size : Int) ≤ 9223372036854775807 := by omega
  have h2 : (t.size : Int) ≤ 9223372036854775807 := by omega
  have h3 : (rn : Int) ≤ 9223372036854775807 := by omega
  have h4 : (xn : Int) ≤ 9223372036854775807 := by omega
  clear h ht hr hx
  go_enter Tryz.func32, Tryz.ntmps32
  go_wp2_with fail
  all_goals (go_returns; exact ⟨_, rfl, fun _ => trivial, by (repeat' (first | (with_reducible exact Below.refl _ _) | (with_reducible assumption) | (with_reducible refine below_drewN ?_ _) | (with_reducible refine Below.alloc ?_ ?_ _) | (with_reducible refine Below.drew ?_) | (with_reducible refine Below.setCell ?_ ?_ _) | go_size))⟩)

set_option maxRecDepth 100000 in
set_option maxHeartbeats 1000000 in
theorem zz5_any (A : Option Addr) (c : Nat) (xs : List ByteArray) (w : World) (hs : SlR 1 w A (xs.map strCells)) (ok : ∀ x ∈ xs, x.size ≤ maxLen) (hm : xs.length ≤ maxLen) : Calls Tryz.prog 13 #[.slice A xs.length c] w (RetIf (xs.length ≤ 2147483647) w) := by
  unfold maxLen at hm
  have n0 : (0 : Int) ≤ xs.length := by omega
  have n1 : (xs.length : Int) ≤ 9223372036854775807 := by omega
  have HS := Lib.hid hs
  have OKA := Lib.hid ok
  clear hs hm ok
  go_enter Tryz.func13, Tryz.ntmps13
  by_cases hbig : (2147483647 : Int) < xs.length
  · go_wp2_with fail
    go_returns
    exact ⟨_, rfl, fun h => (by simp at h), by (repeat' (first | (with_reducible exact Below.refl _ _) | (with_reducible assumption) | (with_reducible refine below_drewN ?_ _) | (with_reducible refine Below.alloc ?_ ?_ _) | (with_reducible refine Below.drew ?_) | (with_reducible refine Below.setCell ?_ ?_ _) | go_size))⟩
  go_wp2_with fail
  go_loopw [4, 10] (fun _ i wr => ∃ k : Nat, k ≤ xs.length ∧ i = .int .i64 k ∧ Below w.heap.size w wr) (fun _ i _ => xs.length - (intOf i).toNat)
  case atStart => exact ⟨0, by omega, rfl, Below.refl _ _⟩
  case round =>
    obtain ⟨k, hk, rfl, hb⟩ := hrel
    have HB := Lib.hid hb
    have zb := hb.size
    by_cases hlt : k < xs.length
    · obtain ⟨b, oo, rfl, hc⟩ := SlR.at_ (HS.out.here hb) k hlt
      have OK := Lib.hid (OKA.out xs[k] (List.getElem_mem hlt))
      have sb : (xs[k].size : Int) ≤ 9223372036854775807 := by have := OK.out; unfold maxLen at this; omega
      have q0 := hc 0 _ rfl
      rw [Nat.add_zero, Nat.mul_one] at q0
      clear hb hc
      generalize xs[k] = x at *
      go_wp2_with fail
      all_goals first
        | (go_returns; exact ⟨_, rfl, fun h => (by simp at h), HB.out⟩)
        | (go_roundw
           case rel => exact ⟨k + 1, by omega, by go_num, HB.out⟩
           case measure => simp [intOf]; omega)
    · go_wp2_with fail
      go_returns
      exact ⟨_, rfl, fun _ => by omega, HB.out⟩

set_option maxRecDepth 100000 in
set_option maxHeartbeats 1000000 in
theorem zz7_any (A : Option Addr) (c : Nat) (xs : List Im) (w : World) (hs : SlR 9 w A (xs.map Im.cells)) (ok : ∀ x ∈ xs, x.pkg.size ≤ maxLen ∧ x.fp.length = 8) (hm : xs.length ≤ maxLen) : Calls Tryz.prog 12 #[.slice A xs.length c] w (RetIf (xs.length ≤ 2147483647) w) := by
  unfold maxLen at hm
  have n0 : (0 : Int) ≤ xs.length := by omega
  have n1 : (xs.length : Int) ≤ 9223372036854775807 := by omega
  have HS := Lib.hid hs
  have OKA := Lib.hid ok
  clear hs hm ok
  go_enter Tryz.func12, Tryz.ntmps12
  by_cases hbig : (2147483647 : Int) < xs.length
  · go_wp2_with fail
    go_returns
    exact ⟨_, rfl, fun h => (by simp at h), by (repeat' (first | (with_reducible exact Below.refl _ _) | (with_reducible assumption) | (with_reducible refine below_drewN ?_ _) | (with_reducible refine Below.alloc ?_ ?_ _) | (with_reducible refine Below.drew ?_) | (with_reducible refine Below.setCell ?_ ?_ _) | go_size))⟩
  go_wp2_with fail
  go_loopw [4, 10] (fun _ i wr => ∃ k : Nat, k ≤ xs.length ∧ i = .int .i64 k ∧ Below w.heap.size w wr) (fun _ i _ => xs.length - (intOf i).toNat)
  case atStart => exact ⟨0, by omega, rfl, Below.refl _ _⟩
  case round =>
    obtain ⟨k, hk, rfl, hb⟩ := hrel
    have HB := Lib.hid hb
    have zb := hb.size
    by_cases hlt : k < xs.length
    · obtain ⟨b, oo, rfl, hc⟩ := SlR.at_ (HS.out.here hb) k hlt
      have OK := Lib.hid (OKA.out xs[k] (List.getElem_mem hlt))
      obtain ⟨z0, z1, z2, z3, z4, z5, z6, z7, hz⟩ := list8 OK.out.2
      rw [show Im.cells xs[k] = [.string xs[k].pkg, .int .u8 z0, .int .u8 z1, .int .u8 z2, .int .u8 z3, .int .u8 z4, .int .u8 z5, .int .u8 z6, .int .u8 z7] from by unfold Im.cells; rw [hz]; rfl] at hc
      clear hz
      have q0 := hc 0 _ rfl
      have q1 := hc 1 _ rfl
      have q2 := hc 2 _ rfl
      have q3 := hc 3 _ rfl
      have q4 := hc 4 _ rfl
      have q5 := hc 5 _ rfl
      have q6 := hc 6 _ rfl
      have q7 := hc 7 _ rfl
      have q8 := hc 8 _ rfl
      rw [Nat.add_zero] at q0
      clear hb hc
      generalize xs[k] = x at *
      go_wp2_with fail
      refine (zz8_any _ _ _ _ _ _ _ _ _ _ OK.out.1).mono ?_
      rintro e w1 ⟨b1, rfl, _, hb1⟩
      have B1 : Below w.heap.size w w1 := (HB.out.alloc zb _).trans (hb1.mono (by simp; omega))
      clear hb1
      rcases b1 with _ | _
      · go_wp2_with fail
        go_returns
        exact ⟨_, rfl, fun h => (by simp at h), B1⟩
      · go_wp2_with fail
        go_roundw
        case rel => exact ⟨k + 1, by omega, by go_num, B1⟩
        case measure => simp [intOf]; omega
    · go_wp2_with fail
      go_returns
      exact ⟨_, rfl, fun _ => by omega, HB.out⟩

set_option maxRecDepth 100000 in
set_option maxHeartbeats 1000000 in
theorem zz9_any (A : Option Addr) (c : Nat) (xs : List Df) (w : World) (hs : SlR 10 w A (xs.map Df.cells)) (ok : ∀ x ∈ xs, x.Ok) (hm : xs.length ≤ maxLen) : Calls Tryz.prog 14 #[.slice A xs.length c] w (RetIf (xs.length ≤ 2147483647) w) := by
  unfold maxLen at hm
  have n0 : (0 : Int) ≤ xs.length := by omega
  have n1 : (xs.length : Int) ≤ 9223372036854775807 := by omega
  have HS := Lib.hid hs
  have OKA := Lib.hid ok
  clear hs hm ok
  go_enter Tryz.func14, Tryz.ntmps14
  by_cases hbig : (2147483647 : Int) < xs.length
  · go_wp2_with fail
    go_returns
    exact ⟨_, rfl, fun h => (by simp at h), by (repeat' (first | (with_reducible exact Below.refl _ _) | (with_reducible assumption) | (with_reducible refine below_drewN ?_ _) | (with_reducible refine Below.alloc ?_ ?_ _) | (with_reducible refine Below.drew ?_) | (with_reducible refine Below.setCell ?_ ?_ _) | go_size))⟩
  go_wp2_with fail
  go_loopw [4, 10] (fun _ i wr => ∃ k : Nat, k ≤ xs.length ∧ i = .int .i64 k ∧ Below w.heap.size w wr) (fun _ i _ => xs.length - (intOf i).toNat)
  case atStart => exact ⟨0, by omega, rfl, Below.refl _ _⟩
  case round =>
    obtain ⟨k, hk, rfl, hb⟩ := hrel
    have HB := Lib.hid hb
    have zb := hb.size
    by_cases hlt : k < xs.length
    · obtain ⟨b, oo, rfl, hc⟩ := SlR.at_ (HS.out.here hb) k hlt
      have OK := Lib.hid (OKA.out xs[k] (List.getElem_mem hlt))
      have q0 := hc 0 _ rfl
      have q1 := hc 1 _ rfl
      have q2 := hc 2 _ rfl
      have q3 := hc 3 _ rfl
      have q4 := hc 4 _ rfl
      have q5 := hc 5 _ rfl
      have q6 := hc 6 _ rfl
      have q7 := hc 7 _ rfl
      have q8 := hc 8 _ rfl
      have q9 := hc 9 _ rfl
      rw [Nat.add_zero] at q0
      clear hb hc
      generalize xs[k] = x at *
      go_wp2_with fail
      refine (zz10_any _ _ _ _ _ _ _ _ _ _ _ _ _ _ _ OK.out.name OK.out.data OK.out.rl OK.out.xl).mono ?_
      rintro e w1 ⟨b1, rfl, _, hb1⟩
      have B1 : Below w.heap.size w w1 := (HB.out.alloc zb _).trans (hb1.mono (by simp; omega))
      clear hb1
      rcases b1 with _ | _
      · go_wp2_with fail
        go_returns
        exact ⟨_, rfl, fun h => (by simp at h), B1⟩
      · go_wp2_with fail
        go_roundw
        case rel => exact ⟨k + 1, by omega, by go_num, B1⟩
        case measure => simp [intOf]; omega
    · go_wp2_with fail
      go_returns
      exact ⟨_, rfl, fun _ => by omega, HB.out⟩

set_option maxRecDepth 100000 in
set_option maxHeartbeats 1000000 in
theorem zz11_any (A : Option Addr) (c : Nat) (xs : List Rf) (w : World) (hs : SlR 7 w A (xs.map Rf.cells)) (ok : ∀ x ∈ xs, x.name.size ≤ maxLen) (hm : xs.length ≤ maxLen) : Calls Tryz.prog 15 #[.slice A xs.length c] w (RetIf (xs.length ≤ 2147483647) w) := by
  unfold maxLen at hm
  have n0 : (0 : Int) ≤ xs.length := by omega
  have n1 : (xs.length : Int) ≤ 9223372036854775807 := by omega
  have HS := Lib.hid hs
  have OKA := Lib.hid ok
  clear hs hm ok
  go_enter Tryz.func15, Tryz.ntmps15
  by_cases hbig : (2147483647 : Int) < xs.length
  · go_wp2_with fail
    go_returns
    exact ⟨_, rfl, fun h => (by simp at h), by (repeat' (first | (with_reducible exact Below.refl _ _) | (with_reducible assumption) | (with_reducible refine below_drewN ?_ _) | (with_reducible refine Below.alloc ?_ ?_ _) | (with_reducible refine Below.drew ?_) | (with_reducible refine Below.setCell ?_ ?_ _) | go_size))⟩
  go_wp2_with fail
  go_loopw [4, 10] (fun _ i wr => ∃ k : Nat, k ≤ xs.length ∧ i = .int .i64 k ∧ Below w.heap.size w wr) (fun _ i _ => xs.length - (intOf i).toNat)
  case atStart => exact ⟨0, by omega, rfl, Below.refl _ _⟩
  case round =>
    obtain ⟨k, hk, rfl, hb⟩ := hrel
    have HB := Lib.hid hb
    have zb := hb.size
    by_cases hlt : k < xs.length
    · obtain ⟨b, oo, rfl, hc⟩ := SlR.at_ (HS.out.here hb) k hlt
      have OK := Lib.hid (OKA.out xs[k] (List.getElem_mem hlt))
      have q0 := hc 0 _ rfl
      have q1 := hc 1 _ rfl
      have q2 := hc 2 _ rfl
      have q3 := hc 3 _ rfl
      have q4 := hc 4 _ rfl
      have q5 := hc 5 _ rfl
      have q6 := hc 6 _ rfl
      rw [Nat.add_zero] at q0
      clear hb hc
      generalize xs[k] = x at *
      go_wp2_with fail
      refine (zz12_any _ _ _ _ _ _ _ _ OK.out).mono ?_
      rintro e w1 ⟨b1, rfl, _, hb1⟩
      have B1 : Below w.heap.size w w1 := (HB.out.alloc zb _).trans (hb1.mono (by simp; omega))
      clear hb1
      rcases b1 with _ | _
      · go_wp2_with fail
        go_returns
        exact ⟨_, rfl, fun h => (by simp at h), B1⟩
      · go_wp2_with fail
        go_roundw
        case rel => exact ⟨k + 1, by omega, by go_num, B1⟩
        case measure => simp [intOf]; omega
    · go_wp2_with fail
      go_returns
      exact ⟨_, rfl, fun _ => by omega, HB.out⟩

set_option maxRecDepth 100000 in
set_option maxHeartbeats 1000000 in
theorem zz13_any (A : Option Addr) (c : Nat) (xs : List Nm) (w : World) (hs : SlR 3 w A (xs.map Nm.cells)) (ok : ∀ x ∈ xs, x.name.size ≤ maxLen) (hm : xs.length ≤ maxLen) : Calls Tryz.prog 16 #[.slice A xs.length c] w (RetIf (xs.length ≤ 2147483647) w) := by
  unfold maxLen at hm
  have n0 : (0 : Int) ≤ xs.length := by omega
  have n1 : (xs.length : Int) ≤ 9223372036854775807 := by omega
  have HS := Lib.hid hs
  have OKA := Lib.hid ok
  clear hs hm ok
  go_enter Tryz.func16, Tryz.ntmps16
  by_cases hbig : (2147483647 : Int) < xs.length
  · go_wp2_with fail
    go_returns
    exact ⟨_, rfl, fun h => (by simp at h), by (repeat' (first | (with_reducible exact Below.refl _ _) | (with_reducible assumption) | (with_reducible refine below_drewN ?_ _) | (with_reducible refine Below.alloc ?_ ?_ _) | (with_reducible refine Below.drew ?_) | (with_reducible refine Below.setCell ?_ ?_ _) | go_size))⟩
  go_wp2_with fail
  go_loopw [4, 10] (fun _ i wr => ∃ k : Nat, k ≤ xs.length ∧ i = .int .i64 k ∧ Below w.heap.size w wr) (fun _ i _ => xs.length - (intOf i).toNat)
  case atStart => exact ⟨0, by omega, rfl, Below.refl _ _⟩
  case round =>
    obtain ⟨k, hk, rfl, hb⟩ := hrel
    have HB := Lib.hid hb
    have zb := hb.size
    by_cases hlt : k < xs.length
    · obtain ⟨b, oo, rfl, hc⟩ := SlR.at_ (HS.out.here hb) k hlt
      have OK := Lib.hid (OKA.out xs[k] (List.getElem_mem hlt))
      have q0 := hc 0 _ rfl
      have q1 := hc 1 _ rfl
      have q2 := hc 2 _ rfl
      rw [Nat.add_zero] at q0
      clear hb hc
      generalize xs[k] = x at *
      go_wp2_with fail
      refine (zz14_any _ _ _ _ OK.out).mono ?_
      rintro e w1 ⟨b1, rfl, _, hb1⟩
      have B1 : Below w.heap.size w w1 := (HB.out.alloc zb _).trans (hb1.mono (by simp; omega))
      clear hb1
      rcases b1 with _ | _
      · go_wp2_with fail
        go_returns
        exact ⟨_, rfl, fun h => (by simp at h), B1⟩
      · go_wp2_with fail
        go_roundw
        case rel => exact ⟨k + 1, by omega, by go_num, B1⟩
        case measure => simp [intOf]; omega
    · go_wp2_with fail
      go_returns
      exact ⟨_, rfl, fun _ => by omega, HB.out⟩

set_option maxRecDepth 100000 in
set_option maxHeartbeats 2000000 in
theorem zz6_any (f : FM) (w : World) (hI : f.In w) : Calls Tryz.prog 5 #[f.val] w (RetIf (∀ L ∈ f.lists, L.l.length ≤ 2147483647) w) := by
  obtain ⟨p0, p1, p2, p3, p4, p5, p6, p7, a0, a1, a2, a3, a4, a5, a6, a7, a8, a9, a10, a11, _, hA, e⟩ := FM.val_eq hI.fp.1
  rw [e]
  clear e
  have HI := Lib.hid hI
  have HA0 := Lib.hid hA.im
  have HA1 := Lib.hid hA.pk
  have HA2 := Lib.hid hA.fi
  have HA3 := Lib.hid hA.own
  have HA4 := Lib.hid hA.short
  have HA5 := Lib.hid hA.hashed
  have HA6 := Lib.hid hA.other
  have HA7 := Lib.hid hA.refs
  have HA8 := Lib.hid hA.rf
  have HA9 := Lib.hid hA.h64
  have HA10 := Lib.hid hA.hs
  have HA11 := Lib.hid hA.rn
  have m8 : (f.rf.l.length : Int) ≤ 9223372036854775807 := by have := hI.rfl_; unfold maxLen at this; omega
  have m9 : (f.h64.l.length : Int) ≤ 9223372036854775807 := by have := hI.h64l; unfold maxLen at this; omega
  have m10 : (f.hs.l.length : Int) ≤ 9223372036854775807 := by have := hI.hsl; unfold maxLen at this; omega
  obtain ⟨w0, hw0⟩ : ∃ w0, w0 = w.alloc (.cells (fileArr p0 p1 p2 p3 p4 p5 p6 p7 a0 a1 a2 a3 a4 a5 a6 a7 a8 a9 a10 a11 f) 33) := ⟨_, rfl⟩
  have BX0 := Lib.hid (show Blk w0 w.heap.size 33 (fileArr p0 p1 p2 p3 p4 p5 p6 p7 a0 a1 a2 a3 a4 a5 a6 a7 a8 a9 a10 a11 f) from by rw [hw0]; exact Blk.new _ _ _)
  have B0 := Lib.hid (show Below w.heap.size w w0 from by rw [hw0]; exact later_alloc _ _)
  have HW := Lib.hid hw0
  clear hI hA hw0
  go_enter Tryz.func5, Tryz.ntmps5
  go_upto_region 1 with fail
  rw [← HW.out]
  have cc0im := BX0.out.cell 9
  go_wp2_with fail
  refine (zz7_any a0 f.im.c f.im.l w0 (by rw [← HA0.out]; exact HI.out.im.here B0.out) (fun x hx => ⟨(HI.out.imk x hx).1, (HI.out.imk x hx).2.1⟩) (HI.out.iml)).mono ?_
  rintro e w1 ⟨b1, rfl, hp1, hb1⟩
  have BX1 := Lib.hid (BX0.out.here hb1)
  have B1 := Lib.hid (below_from B0.out hb1)
  clear hb1 cc0im
  rcases b1 with _ | _
  · go_wp2_with fail
    go_returns
    exact ⟨_, rfl, fun h => (by simp at h), B1.out⟩
  have P0 := Lib.hid (hp1 rfl)
  clear hp1
  have cc1pk := BX1.out.cell 10
  go_wp2_with fail
  refine (zz5_any a1 f.pk.c f.pk.l w1 (by rw [← HA1.out]; exact HI.out.pk.here B1.out) HI.out.pkk (HI.out.pkl)).mono ?_
  rintro e w2 ⟨b1, rfl, hp1, hb1⟩
  have BX2 := Lib.hid (BX1.out.here hb1)
  have B2 := Lib.hid (below_from B1.out hb1)
  clear hb1 cc1pk
  rcases b1 with _ | _
  · go_wp2_with fail
    go_returns
    exact ⟨_, rfl, fun h => (by simp at h), B2.out⟩
  have P1 := Lib.hid (hp1 rfl)
  clear hp1
  have cc2fi := BX2.out.cell 11
  go_wp2_with fail
  refine (zz5_any a2 f.fi.c f.fi.l w2 (by rw [← HA2.out]; exact HI.out.fi.here B2.out) HI.out.fik (HI.out.fil)).mono ?_
  rintro e w3 ⟨b1, rfl, hp1, hb1⟩
  have BX3 := Lib.hid (BX2.out.here hb1)
  have B3 := Lib.hid (below_from B2.out hb1)
  clear hb1 cc2fi
  rcases b1 with _ | _
  · go_wp2_with fail
    go_returns
    exact ⟨_, rfl, fun h => (by simp at h), B3.out⟩
  have P2 := Lib.hid (hp1 rfl)
  clear hp1
  have cc3own := BX3.out.cell 12
  go_wp2_with fail
  refine (zz9_any a3 f.own.c f.own.l w3 (by rw [← HA3.out]; exact (HI.out.dfs f.own (by simp [FM.lists])).l.here B3.out) (HI.out.dfs f.own (by simp [FM.lists])).ok ((HI.out.dfs f.own (by simp [FM.lists])).len)).mono ?_
  rintro e w4 ⟨b1, rfl, hp1, hb1⟩
  have BX4 := Lib.hid (BX3.out.here hb1)
  have B4 := Lib.hid (below_from B3.out hb1)
  clear hb1 cc3own
  rcases b1 with _ | _
  · go_wp2_with fail
    go_returns
    exact ⟨_, rfl, fun h => (by simp at h), B4.out⟩
  have P3 := Lib.hid (hp1 rfl)
  clear hp1
  have cc4short := BX4.out.cell 13
  go_wp2_with fail
  refine (zz9_any a4 f.short.c f.short.l w4 (by rw [← HA4.out]; exact (HI.out.dfs f.short (by simp [FM.lists])).l.here B4.out) (HI.out.dfs f.short (by simp [FM.lists])).ok ((HI.out.dfs f.short (by simp [FM.lists])).len)).mono ?_
  rintro e w5 ⟨b1, rfl, hp1, hb1⟩
  have BX5 := Lib.hid (BX4.out.here hb1)
  have B5 := Lib.hid (below_from B4.out hb1)
  clear hb1 cc4short
  rcases b1 with _ | _
  · go_wp2_with fail
    go_returns
    exact ⟨_, rfl, fun h => (by simp at h), B5.out⟩
  have P4 := Lib.hid (hp1 rfl)
  clear hp1
  have cc5hashed := BX5.out.cell 14
  go_wp2_with fail
  refine (zz9_any a5 f.hashed.c f.hashed.l w5 (by rw [← HA5.out]; exact (HI.out.dfs f.hashed (by simp [FM.lists])).l.here B5.out) (HI.out.dfs f.hashed (by simp [FM.lists])).ok ((HI.out.dfs f.hashed (by simp [FM.lists])).len)).mono ?_
  rintro e w6 ⟨b1, rfl, hp1, hb1⟩
  have BX6 := Lib.hid (BX5.out.here hb1)
  have B6 := Lib.hid (below_from B5.out hb1)
  clear hb1 cc5hashed
  rcases b1 with _ | _
  · go_wp2_with fail
    go_returns
    exact ⟨_, rfl, fun h => (by simp at h), B6.out⟩
  have P5 := Lib.hid (hp1 rfl)
  clear hp1
  have cc6other := BX6.out.cell 15
  go_wp2_with fail
  refine (zz9_any a6 f.other.c f.other.l w6 (by rw [← HA6.out]; exact (HI.out.dfs f.other (by simp [FM.lists])).l.here B6.out) (HI.out.dfs f.other (by simp [FM.lists])).ok ((HI.out.dfs f.other (by simp [FM.lists])).len)).mono ?_
  rintro e w7 ⟨b1, rfl, hp1, hb1⟩
  have BX7 := Lib.hid (BX6.out.here hb1)
  have B7 := Lib.hid (below_from B6.out hb1)
  clear hb1 cc6other
  rcases b1 with _ | _
  · go_wp2_with fail
    go_returns
    exact ⟨_, rfl, fun h => (by simp at h), B7.out⟩
  have P6 := Lib.hid (hp1 rfl)
  clear hp1
  have cc7refs := BX7.out.cell 16
  go_wp2_with fail
  refine (zz11_any a7 f.refs.c f.refs.l w7 (by rw [← HA7.out]; exact HI.out.refs.here B7.out) (fun x hx => (HI.out.refk x hx).1) (HI.out.refl)).mono ?_
  rintro e w8 ⟨b1, rfl, hp1, hb1⟩
  have BX8 := Lib.hid (BX7.out.here hb1)
  have B8 := Lib.hid (below_from B7.out hb1)
  clear hb1 cc7refs
  rcases b1 with _ | _
  · go_wp2_with fail
    go_returns
    exact ⟨_, rfl, fun h => (by simp at h), B8.out⟩
  have P7 := Lib.hid (hp1 rfl)
  clear hp1
  have cc8rf := BX8.out.cell 17
  have cc8h64 := BX8.out.cell 18
  have cc8hs := BX8.out.cell 19
  have cc8rn := BX8.out.cell 20
  by_cases hb8 : (2147483647 : Int) < f.rf.l.length
  · go_wp2_with fail
    go_returns
    exact ⟨_, rfl, fun h => (by simp at h), B8.out⟩
  by_cases hb9 : (2147483647 : Int) < f.h64.l.length
  · go_wp2_with fail
    go_returns
    exact ⟨_, rfl, fun h => (by simp at h), B8.out⟩
  by_cases hb10 : (2147483647 : Int) < f.hs.l.length
  · go_wp2_with fail
    go_returns
    exact ⟨_, rfl, fun h => (by simp at h), B8.out⟩
  go_wp2_with fail
  refine (zz13_any a11 f.rn.c f.rn.l w8 (by rw [← HA11.out]; exact HI.out.rn.here B8.out) (fun x hx => (HI.out.rnk x hx).2.2) (HI.out.rnl)).mono ?_
  rintro e w9 ⟨b1, rfl, hp1, hb1⟩
  have BX9 := Lib.hid (BX8.out.here hb1)
  have B9 := Lib.hid (below_from B8.out hb1)
  clear hb1 cc8rf cc8h64 cc8hs cc8rn
  rcases b1 with _ | _
  · go_wp2_with fail
    go_returns
    exact ⟨_, rfl, fun h => (by simp at h), B9.out⟩
  have P8 := Lib.hid (hp1 rfl)
  clear hp1
  go_wp2_with fail
  go_returns
  exact ⟨_, rfl, fun _ L hL => (by simp only [FM.lists, List.mem_cons, List.not_mem_nil, or_false] at hL; rcases hL with rfl | rfl | rfl | rfl; exact P3.out; exact P4.out; exact P5.out; exact P6.out), B9.out⟩
end Go.Proofs.YtajeinkkfggcbaaGreatDoor
