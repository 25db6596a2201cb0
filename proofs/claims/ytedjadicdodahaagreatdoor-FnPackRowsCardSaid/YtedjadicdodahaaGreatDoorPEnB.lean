/- An element's encoder: its numbers. (printed by gen_pen.py) -/
import Derived.Test.YtedjadicdodahaaGreatDoorPEnA
namespace Go.Proofs.YtedjadicdodahaaGreatDoor
open Go.RowKit

theorem assert_true (w : World) : Calls Tryz.prog 67 #[.bool true] w (RetQ (.tuple #[]) w) := by
  go_enter Tryz.func67, Tryz.ntmps67
  go_wp2
  go_end0
  exact ⟨rfl, 0, rfl⟩
theorem Es.put_len {e : Es} {b : List UInt8} {n m : Nat} (h : e.ds.length ≤ n) (hb : b.length ≤ m) : (e.put b).ds.length ≤ n + m := by
  show (e.ds ++ b).length ≤ _
  rw [List.length_append]
  omega
set_option maxRecDepth 100000 in
set_option maxHeartbeats 1000000 in
theorem rawVarint_any {own : Nat → Prop} {pb eb mb : Nat} {ver : Int} {s : Bool} {p : Pk} {e : Es} {k idx : Int} {hd : Bool} {w : World} (h : En own pb eb mb ver s p e k idx hd w) (x : Int) (h0 : -9223372036854775808 ≤ x) (h1 : x < 9223372036854775808) (hl : e.ds.length ≤ 95000000) :
    Calls Tryz.prog 92 #[.pointer (some ⟨eb, 0, none⟩), .int .i64 x] w (Met own w (.tuple #[]) fun o w' => En o pb eb mb ver s p (e.put (uv (Lib.zigzag x))) k idx hd w') := by
  have hU := rawUvarint_any h (Lib.zigzag x) (zigzag_lt h0 h1) (by omega)
  by_cases hneg : x < 0
  · rw [← Lib.zigzag_neg h0 hneg] at hU
    have HU := Lib.hid hU
    clear hU h
    go_enter Tryz.func92, Tryz.ntmps92
    go_wp2_with fail
    refine HU.out.mono ?_
    intro e' w1 k1
    obtain ⟨rfl, s1, k1⟩ := k1
    go_wp2_with fail
    go_end0
    exact ⟨rfl, s1, k1⟩
  · rw [Lib.zigzag_nonneg (by omega)] at hU
    have HU := Lib.hid hU
    clear hU h
    have hx : 0 ≤ x := by omega
    go_enter Tryz.func92, Tryz.ntmps92
    go_wp2_with fail
    refine HU.out.mono ?_
    intro e' w1 k1
    obtain ⟨rfl, s1, k1⟩ := k1
    go_wp2_with fail
    go_end0
    exact ⟨rfl, s1, k1⟩
set_option maxRecDepth 100000 in
set_option maxHeartbeats 1000000 in
theorem encInt64_any {own : Nat → Prop} {pb eb mb : Nat} {ver : Int} {s : Bool} {p : Pk} {e : Es} {k idx : Int} {hd : Bool} {w : World} (h : En own pb eb mb ver s p e k idx hd w) (x : Int) (h0 : -9223372036854775808 ≤ x) (h1 : x < 9223372036854775808) (hl : e.ds.length ≤ 80000000) :
    Calls Tryz.prog 51 #[.pointer (some ⟨eb, 0, none⟩), .int .i64 x] w (Met own w (.tuple #[]) fun o w' => En o pb eb mb ver s p (e.put (eI s x)) k idx hd w') := by
  have h2 := Es.put_len hl (sy_len s (m := 3) (by decide))
  have HS := Lib.hid (sync_any h 3 (by decide) (by omega))
  clear h
  go_enter Tryz.func51, Tryz.ntmps51
  go_wp2_with fail
  refine (HS.out).mono ?_
  intro e' w1 k10
  obtain ⟨rfl, s1, k1⟩ := k10
  have S1 := Lib.hid s1
  have K1 := Lib.hid k1
  clear s1 k1
  go_wp2_with fail
  refine (rawVarint_any S1.out x h0 h1 (by omega)).mono ?_
  intro e' w2 k20
  obtain ⟨rfl, s2, k2⟩ := k20.from K1.out (fun _ _ h S => S.mono h)
  have S2 := Lib.hid s2
  have K2 := Lib.hid k2
  clear k20 s2 k2
  go_wp2_with fail
  go_end0
  have e0 : (e.put (eI s x)) = (e.put (sy s 3)).put (uv (Lib.zigzag x)) := by simp [Es.put, eI, List.append_assoc]
  rw [e0]
  exact ⟨rfl, S2.out, K2.out⟩
set_option maxRecDepth 100000 in
set_option maxHeartbeats 1000000 in
theorem encUint64_any {own : Nat → Prop} {pb eb mb : Nat} {ver : Int} {s : Bool} {p : Pk} {e : Es} {k idx : Int} {hd : Bool} {w : World} (h : En own pb eb mb ver s p e k idx hd w) (x : Nat) (hx : x < 18446744073709551616) (hl : e.ds.length ≤ 80000000) :
    Calls Tryz.prog 52 #[.pointer (some ⟨eb, 0, none⟩), .int .u64 x] w (Met own w (.tuple #[]) fun o w' => En o pb eb mb ver s p (e.put (eU s x)) k idx hd w') := by
  have h2 := Es.put_len hl (sy_len s (m := 4) (by decide))
  have HS := Lib.hid (sync_any h 4 (by decide) (by omega))
  clear h
  go_enter Tryz.func52, Tryz.ntmps52
  go_wp2_with fail
  refine (HS.out).mono ?_
  intro e' w1 k10
  obtain ⟨rfl, s1, k1⟩ := k10
  have S1 := Lib.hid s1
  have K1 := Lib.hid k1
  clear s1 k1
  go_wp2_with fail
  refine (rawUvarint_any S1.out x hx (by omega)).mono ?_
  intro e' w2 k20
  obtain ⟨rfl, s2, k2⟩ := k20.from K1.out (fun _ _ h S => S.mono h)
  have S2 := Lib.hid s2
  have K2 := Lib.hid k2
  clear k20 s2 k2
  go_wp2_with fail
  go_end0
  have e0 : (e.put (eU s x)) = (e.put (sy s 4)).put (uv x) := by simp [Es.put, eU, List.append_assoc]
  rw [e0]
  exact ⟨rfl, S2.out, K2.out⟩
set_option maxRecDepth 100000 in
set_option maxHeartbeats 1000000 in
theorem encInt_any {own : Nat → Prop} {pb eb mb : Nat} {ver : Int} {s : Bool} {p : Pk} {e : Es} {k idx : Int} {hd : Bool} {w : World} (h : En own pb eb mb ver s p e k idx hd w) (x : Int) (h0 : -9223372036854775808 ≤ x) (h1 : x < 9223372036854775808) (hl : e.ds.length ≤ 80000000) :
    Calls Tryz.prog 54 #[.pointer (some ⟨eb, 0, none⟩), .int .i64 x] w (Met own w (.tuple #[]) fun o w' => En o pb eb mb ver s p (e.put (eI s x)) k idx hd w') := by
  have HS := Lib.hid (encInt64_any h x h0 h1 hl)
  clear h
  go_enter Tryz.func54, Tryz.ntmps54
  go_wp2_with fail
  refine (HS.out).mono ?_
  intro e' w1 k10
  obtain ⟨rfl, s1, k1⟩ := k10
  have S1 := Lib.hid s1
  have K1 := Lib.hid k1
  clear s1 k1
  go_wp2_with fail
  go_end0
  exact ⟨rfl, S1.out, K1.out⟩
set_option maxRecDepth 100000 in
set_option maxHeartbeats 1000000 in
theorem encUint_any {own : Nat → Prop} {pb eb mb : Nat} {ver : Int} {s : Bool} {p : Pk} {e : Es} {k idx : Int} {hd : Bool} {w : World} (h : En own pb eb mb ver s p e k idx hd w) (x : Nat) (hx : x < 18446744073709551616) (hl : e.ds.length ≤ 80000000) :
    Calls Tryz.prog 55 #[.pointer (some ⟨eb, 0, none⟩), .int .u64 x] w (Met own w (.tuple #[]) fun o w' => En o pb eb mb ver s p (e.put (eU s x)) k idx hd w') := by
  have HS := Lib.hid (encUint64_any h x hx hl)
  clear h
  go_enter Tryz.func55, Tryz.ntmps55
  go_wp2_with fail
  refine (HS.out).mono ?_
  intro e' w1 k10
  obtain ⟨rfl, s1, k1⟩ := k10
  have S1 := Lib.hid s1
  have K1 := Lib.hid k1
  clear s1 k1
  go_wp2_with fail
  go_end0
  exact ⟨rfl, S1.out, K1.out⟩
set_option maxRecDepth 100000 in
set_option maxHeartbeats 1000000 in
theorem encLen_any {own : Nat → Prop} {pb eb mb : Nat} {ver : Int} {s : Bool} {p : Pk} {e : Es} {k idx : Int} {hd : Bool} {w : World} (h : En own pb eb mb ver s p e k idx hd w) (x : Nat) (hx : x < 9223372036854775808) (hl : e.ds.length ≤ 80000000) :
    Calls Tryz.prog 53 #[.pointer (some ⟨eb, 0, none⟩), .int .i64 x] w (Met own w (.tuple #[]) fun o w' => En o pb eb mb ver s p (e.put (eU s x)) k idx hd w') := by
  have H := Lib.hid h
  have x0 : (0 : Int) ≤ x := by omega
  have x1 : (x : Int) < 9223372036854775808 := by omega
  clear h
  go_enter Tryz.func53, Tryz.ntmps53
  go_wp2_with (go_at_call 67; refine (assert_true _).mono ?_; rintro e' w0 ⟨rfl, n0, rfl⟩)
  refine (encUint64_any (H.out.here (below_drewN (Below.refl _ _) n0)) x (by omega) hl).mono ?_
  intro e' w1 k10
  obtain ⟨rfl, s1, k1⟩ := k10
  have S1 := Lib.hid (s1.mono (own' := grow own w) fun _ h => h)
  have K1 := Lib.hid (((Kp.refl own w).drewN n0).trans' k1)
  clear s1 k1
  go_wp2_with fail
  go_end0
  exact ⟨rfl, S1.out, K1.out⟩
set_option maxRecDepth 100000 in
set_option maxHeartbeats 1000000 in
theorem encByte_any {own : Nat → Prop} {pb eb mb : Nat} {ver : Int} {s : Bool} {p : Pk} {e : Es} {k idx : Int} {hd : Bool} {w : World} (h : En own pb eb mb ver s p e k idx hd w) (z : UInt8) (hl : e.ds.length ≤ 95000000) :
    Calls Tryz.prog 60 #[.pointer (some ⟨eb, 3, none⟩), .int .u8 (z.toNat : Int)] w (Met own w .nilIface fun o w' => En o pb eb mb ver s p (e.put [z]) k idx hd w') := by
  obtain ⟨F, rs, rm, hb, hF, h3, h4⟩ := h.en.is
  refine (buf_WriteByte _ _ eb 3 F e.ds z w hb (by omega)).mono ?_
  rintro e' w' ⟨r, F', r1, r2⟩
  obtain ⟨q1, q2⟩ := h.wrote hF h3 h4 r1 r2
  exact ⟨r, q1, q2⟩
theorem encBool_any {own : Nat → Prop} {pb eb mb : Nat} {ver : Int} {s : Bool} {p : Pk} {e : Es} {k idx : Int} {hd : Bool} {w : World} (h : En own pb eb mb ver s p e k idx hd w) (b : Bool) (hl : e.ds.length ≤ 80000000) :
    Calls Tryz.prog 28 #[.pointer (some ⟨eb, 0, none⟩), .bool b] w (Met own w (.bool b) fun o w' => En o pb eb mb ver s p (e.put (eB s b)) k idx hd w') := by
  have h2 := Es.put_len hl (sy_len s (m := 2) (by decide))
  have HS := Lib.hid (sync_any h 2 (by decide) (by omega))
  clear h
  cases b
  · go_enter Tryz.func28, Tryz.ntmps28
    go_wp2_with fail
    refine (HS.out).mono ?_
    intro e' w1 k10
    obtain ⟨rfl, s1, k1⟩ := k10
    have S1 := Lib.hid s1
    have K1 := Lib.hid k1
    clear s1 k1
    go_wp2_with fail
    refine (encByte_any S1.out 0 (by omega)).mono ?_
    intro e' w2 k20
    obtain ⟨rfl, s2, k2⟩ := k20.from K1.out (fun _ _ h S => S.mono h)
    have S2 := Lib.hid s2
    have K2 := Lib.hid k2
    clear k20 s2 k2
    go_wp2_with (go_at_call 61; refine (checkErr_nil _ _).mono ?_; rintro e' w3 ⟨rfl, n3, rfl⟩)
    go_ret
    have e0 : e.put (eB s false) = (e.put (sy s 2)).put [0] := by simp [Es.put, eB]
    rw [e0]
    exact ⟨rfl, S2.out.here (below_drewN (Below.refl _ _) n3), K2.out.drewN n3⟩
  · go_enter Tryz.func28, Tryz.ntmps28
    go_wp2_with fail
    refine (HS.out).mono ?_
    intro e' w1 k10
    obtain ⟨rfl, s1, k1⟩ := k10
    have S1 := Lib.hid s1
    have K1 := Lib.hid k1
    clear s1 k1
    go_wp2_with fail
    refine (encByte_any S1.out 1 (by omega)).mono ?_
    intro e' w2 k20
    obtain ⟨rfl, s2, k2⟩ := k20.from K1.out (fun _ _ h S => S.mono h)
    have S2 := Lib.hid s2
    have K2 := Lib.hid k2
    clear k20 s2 k2
    go_wp2_with (go_at_call 61; refine (checkErr_nil _ _).mono ?_; rintro e' w3 ⟨rfl, n3, rfl⟩)
    go_ret
    have e0 : e.put (eB s true) = (e.put (sy s 2)).put [1] := by simp [Es.put, eB]
    rw [e0]
    exact ⟨rfl, S2.out.here (below_drewN (Below.refl _ _) n3), K2.out.drewN n3⟩
end Go.Proofs.YtedjadicdodahaaGreatDoor
