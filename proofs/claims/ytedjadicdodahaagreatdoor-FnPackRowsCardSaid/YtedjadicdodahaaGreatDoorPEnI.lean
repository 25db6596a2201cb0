/- An element's encoder closed: Flush walked. -/
import Derived.BigRegion
import Derived.Test.YtedjadicdodahaaGreatDoorPEnH
namespace Go.Proofs.YtedjadicdodahaaGreatDoor
open Go.RowKit Go.Maps

theorem refCells_at (rs : List (Int × Int)) : ∀ j (h : j < rs.length), (refCells rs)[2 * j]? = some (.int .i32 rs[j].1) ∧ (refCells rs)[2 * j + 1]? = some (.int .i32 rs[j].2) := by
  induction rs with
  | nil => intro j h; simp at h
  | cons r rs ih =>
    intro j h
    match j, h with
    | 0, _ => exact ⟨rfl, rfl⟩
    | j + 1, h =>
      have h1 := ih j (by simpa using h)
      refine ⟨?_, ?_⟩
      · rw [show 2 * (j + 1) = 2 * j + 2 from by omega]
        exact h1.1
      · rw [show 2 * (j + 1) + 1 = (2 * j + 1) + 2 from by omega]
        exact h1.2
abbrev bufZ : Array Value := #[.slice none 0 0, .int .i64 0, .int .i8 0]
abbrev sbZ : Array Value := #[.pointer none, .slice none 0 0]
set_option maxRecDepth 100000 in
set_option maxHeartbeats 4000000 in
theorem flush_any {own : Nat → Prop} {pb eb mb : Nat} {ver : Int} {s : Bool} {p : Pk} {e : Es} {w : World} (k i : Nat) (h : En own pb eb mb ver s p e k i false w) (hk : k < 10) (hk0 : k ≠ 0) (hi : i < (p k).length) (hn : (p k).length ≤ 1000000) (hR : e.Ref) (hrs : e.rs.length ≤ 100000) (hds : e.ds.length ≤ 50000000) :
    Calls Tryz.prog 29 #[.pointer (some ⟨eb, 0, none⟩)] w fun d w' => d = .returned (.int .i32 i) ∧ PkSt (grow own w) pb mb ver (sfI s) (fun j => if j = k then (p k).set i (str (e.bytes s)) else withS p e.ss j) w' ∧ Kp own w w' := by
  obtain ⟨rs, hx⟩ := h.toX
  obtain ⟨A0, C0, rfl, hnC⟩ := (show ∃ A c, rs = .slice A e.rs.length c ∧ e.rs.length ≤ c from by
    obtain ⟨_, _, _, _, h3, _⟩ := hx.en.is
    exact own_slice h3.row)
  obtain ⟨n, hnn⟩ : ∃ n, n = e.rs.length := ⟨_, rfl⟩
  rw [← hnn] at hx hrs
  have HNN := Lib.hid hnn
  have hxt := hx.tight
  obtain ⟨oT, hoT⟩ : ∃ oT : Nat → Prop, oT = fun g => own g ∧ g < w.heap.size := ⟨_, rfl⟩
  rw [← hoT] at hxt
  have oT1 : ∀ g, oT g → own g := fun g hg => by rw [hoT] at hg; exact hg.1
  have oT2 : ∀ g, oT g → g < w.heap.size := fun g hg => by rw [hoT] at hg; exact hg.2
  obtain ⟨w1, hw1⟩ : ∃ w1, w1 = (w.alloc (.cells sbZ 127)).alloc (.cells bufZ 74) := ⟨_, rfl⟩
  have b1 : Below w.heap.size w w1 := by rw [hw1]; exact Below.alloc (Below.alloc (Below.refl _ _) (Nat.le_refl _) _) (by simp) _
  have s1 : w1.heap.size = w.heap.size + 2 := by rw [hw1]; simp
  have bs1 : Blk w1 w.heap.size 127 sbZ := by rw [hw1]; exact (Blk.new w _ _).alloc _
  have bt1 : Blk w1 (w.heap.size + 1) 74 bufZ := by rw [hw1]; exact Blk.new1 w _ _ _
  have x1 := hxt.here b1
  obtain ⟨F1, rm1, bo1, hF1, back1⟩ := x1.bo
  have SB1 := Lib.hid (show Bl (fun g => g = w.heap.size) w.heap.size [] w1 from ⟨rfl, _, _, bs1, .inl rfl, Row.nil _ _ _ _⟩)
  have tm1 : Bo (fun g => g = w.heap.size + 1) 74 (fun _ => none) (w.heap.size + 1) 0 [] w1 := ⟨rfl, [], ⟨0, .inl ⟨rfl, LibA.three_whole bt1⟩⟩, by simp⟩
  have o1 : ∀ g, (g = eb ∨ g ∈ F1) → oT g := fun g hg => by
    rcases hg with rfl | hg
    · exact x1.en.low
    · exact (hF1 g hg).1
  have CP1 := Lib.hid (copy_B bo1 tm1 (fun g hg e => by have := oT2 g (o1 g hg); omega) (by simp; omega))
  have BACK := Lib.hid back1
  have HW1 := Lib.hid hw1
  have B1 := Lib.hid b1
  have O1 := Lib.hid o1
  have TT := Lib.hid bt1.tag
  have X1 := Lib.hid x1
  have HR := Lib.hid hR
  have RLEN := Lib.hid hrs
  have DLEN := Lib.hid hds
  have HI := Lib.hid hi
  have HN := Lib.hid hn
  have K0 := Lib.hid hk0
  have OT1 := Lib.hid oT1
  have OT2 := Lib.hid oT2
  clear h hx hxt hw1 bs1 bt1 x1 bo1 hF1 back1 tm1 hR hds hi hn b1 hoT o1
  go_enter Tryz.func29, Tryz.ntmps29
  go_wp2_with fail
  rw [← HW1.out]
  refine CP1.out.mono ?_
  rintro d w2 ⟨rfl, h2, t2, k2⟩
  have x2 := BACK.out [] w2 (eb :: (w.heap.size + 1) :: F1) (Fr.of_kp k2 (fun g hg => by
    rcases hg with (rfl | hg) | rfl
    · simp
    · simp [hg]
    · simp)) (fun g hg => by
    simp only [List.mem_cons] at hg
    rcases hg with rfl | rfl | hg
    · exact .inl rfl
    · exact .inr (.inr ⟨_, TT.out, by decide, by decide, by decide⟩)
    · exact .inr (.inl hg)) h2
  have SB2 := Lib.hid (SB1.out.kp k2 (fun g hg hg2 => by
    subst hg
    rcases hg2 with hg2 | hg2
    · have := oT2 _ (O1.out _ hg2)
      omega
    · omega))
  rw [List.nil_append] at t2
  have TM2 := Lib.hid t2.tight
  have KK2 := Lib.hid ((Kp.of_below B1.out : Kp oT w w1).comp k2 (fun g hg => by
    rcases hg with hg | hg
    · exact .inl (O1.out g hg)
    · exact .inr (by omega)))
  obtain ⟨F, rm, hb2, _, h3, _⟩ := x2.en.is
  have c6 : w2.cell? ⟨eb, 6, none⟩ = some (.bool false) := hb2.rest 6 (.inr (by omega))
  have f6 := hb2.f 6
  have X2 := Lib.hid x2
  have n0 : (0 : Int) ≤ n := by omega
  have n1 : (n : Int) ≤ 100000 := by omega
  clear h2 t2 k2 x2 hb2 h3 SB1 BACK CP1 X1 hnn
  go_wp2_with fail
  obtain ⟨w3, hw3⟩ : ∃ w3, w3 = w2.setCell ⟨eb, 6, none⟩ (.bool true) := ⟨_, rfl⟩
  rw [← hw3]
  obtain ⟨x3, k3⟩ := X2.out.setHd true
  rw [← hw3] at x3 k3
  have X3 := Lib.hid x3
  have SB3 := Lib.hid (SB2.out.kp k3 (fun g hg hg2 => by have := oT2 g hg2; omega))
  have TD := Lib.hid (show ∀ g, (grow (fun g => g = w.heap.size + 1) w1 g ∧ g < w2.heap.size) → ¬ oT g from fun g hg hg2 => by
    have := oT2 g hg2
    rcases hg.1 with h1 | h1 <;> omega)
  have TM3 := Lib.hid (TM2.out.kp k3 TD.out)
  have KK3 := Lib.hid (KK2.out.trans' k3)
  have Z3 := Lib.hid (show w3.heap.size = w2.heap.size from by rw [hw3]; simp [World.setCell])
  have Z2 := Lib.hid (show w1.heap.size ≤ w2.heap.size from Nat.le_trans (Nat.le_refl _) (by have := KK2.out.size; have := TM2.out.low.2; omega))
  clear hw3 x3 k3 c6 f6 X2 SB2 TM2 KK2
  refine (syncX X3.out 8 (by decide) (by simp)).mono ?_
  intro d w4 k40
  obtain ⟨rfl, s4, k4⟩ := k40
  have c1 : w4.cell? ⟨eb, 1, none⟩ = some (.slice A0 n C0) := by
    obtain ⟨_, _, hb4, _⟩ := s4.en.is
    exact hb4.rest 1 (.inl (by omega))
  have S4 := Lib.hid s4
  have K4 := Lib.hid k4
  clear s4 k4 X3
  go_wp2_with fail
  have l8 := sy_len s (m := 8) (by decide)
  refine (encLenX S4.out n (by omega) (by show ([] ++ sy s 8).length ≤ _; rw [List.nil_append]; omega)).mono ?_
  intro d w5 k50
  obtain ⟨rfl, s5, k5⟩ := k50.from K4.out (fun _ _ h S => S.mono h)
  have d1 : w5.cell? ⟨eb, 1, none⟩ = some (.slice A0 n C0) := by
    obtain ⟨_, _, hb5, _⟩ := s5.en.is
    exact hb5.rest 1 (.inl (by omega))
  obtain ⟨H8, hH8⟩ : ∃ H8, H8 = sy s 8 ++ eU s n := ⟨_, rfl⟩
  have l9 := eU_len s (x := n) (by omega)
  have LH := Lib.hid (show H8.length ≤ 50 from by rw [hH8, List.length_append]; omega)
  have S5 := Lib.hid (show EnX (.slice A0 n C0) (grow oT w3) pb eb mb ver s p ⟨e.ss, e.rs, H8⟩ k i true w5 from by
    have h9 : Es.put (Es.put ⟨e.ss, e.rs, []⟩ (sy s 8)) (eU s n) = ⟨e.ss, e.rs, H8⟩ := by rw [hH8]; simp [Es.put]
    rw [← h9]
    exact s5)
  have K5 := Lib.hid k5
  have HH8 := Lib.hid hH8
  clear k50 s5 k5 c1 S4 K4 hH8 l8 l9
  go_wp2_with fail
  go_loopw [6, 35] (fun _ x wr => ∃ j : Nat, j ≤ n ∧ x = .int .i64 j ∧ EnX (.slice A0 n C0) (grow oT w3) pb eb mb ver s p ⟨e.ss, e.rs, H8 ++ (e.rs.take j).flatMap (refB s)⟩ k i true wr ∧ Kp oT w3 wr) (fun _ x _ => n - (intOf x).toNat)
  case atStart => exact ⟨0, by omega, rfl, by simpa using S5.out, K5.out⟩
  case round =>
    obtain ⟨j, hj, rfl, s6, k6⟩ := hrel
    obtain ⟨w6, rfl⟩ : ∃ w6 : World, w6 = wr := ⟨_, rfl⟩
    have X6 := Lib.hid s6
    have K6 := Lib.hid k6
    clear k6 S5 K5 d1
    by_cases hlt : j < n
    · obtain ⟨F6, rm6, _, _, h36, _⟩ := s6.en.is
      replace h36 : Row (grow oT w3) 131 2 (.slice A0 n C0) e.rs.length (refCells e.rs) w6 := h36
      rw [← HNN.out] at h36
      obtain ⟨g, rfl, _, htg, hnc, hcm, hcl⟩ := h36.at (by rw [refCells_len, ← HNN.out]; omega)
      have hjr : j < e.rs.length := by rw [← HNN.out]; exact hlt
      obtain ⟨q1, q2⟩ := refCells_at e.rs j hjr
      have q0 := (HR.out e.rs[j] (List.getElem_mem hjr))
      obtain ⟨a, ha⟩ : ∃ a : Nat, (a : Int) = e.rs[j].1 := ⟨e.rs[j].1.toNat, by omega⟩
      obtain ⟨b, hb⟩ : ∃ b : Nat, (b : Int) = e.rs[j].2 := ⟨e.rs[j].2.toNat, by omega⟩
      have c0 : w6.cell? ⟨g, j * 2, none⟩ = some (.int .i32 a) := by
        rw [Nat.mul_comm, (hcl (2 * j) (by rw [refCells_len, ← HNN.out]; omega)).1, q1, ha]
      have c1 : w6.cell? ⟨g, j * 2 + 1, none⟩ = some (.int .i32 b) := by
        rw [Nat.mul_comm, (hcl (2 * j + 1) (by rw [refCells_len, ← HNN.out]; omega)).1, q2, hb]
      have a0 : (0 : Int) ≤ a := by omega
      have a1 : (a : Int) < 2147483648 := by omega
      have b0 : (0 : Int) ≤ b := by omega
      have b1 : (b : Int) < 2147483648 := by omega
      have hnm : n ≤ 100000 := by omega
      have LJ := Lib.hid (show ((e.rs.take j).flatMap (refB s)).length ≤ 80 * 100000 from by
        have h1 := refsB_len s (rs := e.rs.take j) (fun r hr => ⟨(HR.out r (List.mem_of_mem_take hr)).1.2, (HR.out r (List.mem_of_mem_take hr)).2.2⟩) (by rw [List.length_take]; omega)
        unfold refsB at h1
        rw [List.length_append, List.length_append, List.length_take] at h1
        omega)
      have HF := Lib.hid (show H8 ++ (e.rs.take (j + 1)).flatMap (refB s) = ((H8 ++ (e.rs.take j).flatMap (refB s) ++ sy s 9) ++ eU s a) ++ eU s b from by
        rw [List.take_succ_eq_append_getElem hjr, List.flatMap_append, List.flatMap_cons, List.flatMap_nil, List.append_nil]
        unfold refB
        rw [← ha, ← hb]
        simp [List.append_assoc])
      obtain ⟨D, hD⟩ : ∃ D, D = H8 ++ (e.rs.take j).flatMap (refB s) := ⟨_, rfl⟩
      have LD : D.length ≤ 10000000 := by
        rw [hD, List.length_append]
        have := LH.out
        have := LJ.out
        omega
      have gz : g < w6.heap.size := tag_lt htg
      rw [← hD] at X6 HF
      have j0 : (0 : Int) ≤ j := by omega
      have j1 : (j : Int) < n := by omega
      have j2 : (n : Int) ≤ C0 := by omega
      clear s6 h36 htg hcl q1 q2 q0 ha hb hD hjr LJ
      go_wp2_with fail
      obtain ⟨w7, hw7⟩ : ∃ w7, w7 = w6.alloc (.cells #[.int .i32 a, .int .i32 b] 131) := ⟨_, rfl⟩
      rw [← hw7]
      have b7 : Below w6.heap.size w6 w7 := by rw [hw7]; exact Below.alloc (Below.refl _ _) (Nat.le_refl _) _
      have t7 : Blk w7 w6.heap.size 131 #[.int .i32 a, .int .i32 b] := by rw [hw7]; exact Blk.new _ _ _
      obtain ⟨o6, ho6⟩ : ∃ o6 : Nat → Prop, o6 = fun g => grow oT w3 g ∧ g < w6.heap.size := ⟨_, rfl⟩
      have x7 : EnX (.slice (some ⟨g, 0, none⟩) n C0) o6 pb eb mb ver s p ⟨e.ss, e.rs, D⟩ k i true w7 := by rw [ho6]; exact X6.out.tight.here b7
      have O6 := Lib.hid (show ∀ q, o6 q → grow oT w3 q from fun q hq => by rw [ho6] at hq; exact hq.1)
      have N6 := Lib.hid (show ¬ o6 w6.heap.size from by rw [ho6]; intro h; exact absurd h.2 (Nat.lt_irrefl _))
      have K7 := Lib.hid (K6.out.here b7)
      have T7 := Lib.hid t7
      clear hw7 b7 t7 X6 ho6 c0 c1
      refine (syncX x7 9 (by decide) (by show D.length ≤ _; omega)).mono ?_
      intro d w8 k80
      obtain ⟨rfl, s8, k8⟩ := k80
      have t8 := T7.out.kp k8 N6.out
      have c0 := t8.cell 0
      have S8 := Lib.hid s8
      have K8 := Lib.hid k8
      have T8 := Lib.hid t8
      clear x7 s8 k8 t8
      go_wp2_with fail
      have l9 := sy_len s (m := 9) (by decide)
      have la := eU_len s (x := a) (by omega)
      have le1 : (Es.put (⟨e.ss, e.rs, D⟩ : Es) (sy s 9)).ds.length ≤ 10000020 := by show (D ++ sy s 9).length ≤ _; rw [List.length_append]; omega
      refine (encLenX S8.out a (by omega) (by omega)).mono ?_
      intro d w9 k90
      obtain ⟨rfl, s9, k9⟩ := k90.from K8.out (fun _ _ h S => S.mono h)
      have t9 := T7.out.kp k9 N6.out
      have c1 := t9.cell 1
      have S9 := Lib.hid s9
      have K9 := Lib.hid k9
      clear k90 s9 k9 t9 S8 K8 T8 c0
      go_wp2_with fail
      have le2 : (Es.put (Es.put (⟨e.ss, e.rs, D⟩ : Es) (sy s 9)) (eU s a)).ds.length ≤ 20000000 := by show (D ++ sy s 9 ++ eU s a).length ≤ _; rw [List.length_append, List.length_append]; omega
      refine (encLenX S9.out b (by omega) (by omega)).mono ?_
      intro d w10 k100
      obtain ⟨rfl, s10, k10⟩ := k100.from K9.out (fun _ _ h S => S.mono h)
      have S10 := Lib.hid s10
      have K10 := Lib.hid k10
      clear k100 s10 k10 S9 K9 c1 l9 la le1 le2
      go_wp2_with fail
      go_roundw
      case rel => exact ⟨j + 1, by omega, by go_num, by
        rw [HF.out]
        refine S10.out.mono fun q hq => ?_
        rcases hq with hq | hq
        · exact O6.out q hq
        · exact .inr (Nat.le_trans K7.out.size hq), K7.out.comp K10.out (fun q hq => O6.out q hq)⟩
      case measure => simp [intOf]; omega
    · obtain rfl : j = n := by omega
      have K5S := Lib.hid (show w3.heap.size ≤ w6.heap.size from K6.out.size)
      have W6S := Lib.hid (show w.heap.size ≤ w6.heap.size from Nat.le_trans (by have := Z2.out; have := Z3.out; omega) K6.out.size)
      clear s6
      have h9 : H8 ++ (e.rs.take j).flatMap (refB s) = refsB s e.rs := by
        rw [List.take_of_length_le (by rw [← HNN.out]; exact Nat.le_refl _), HH8.out, HNN.out]
        unfold refsB
        rw [List.append_assoc]
      rw [h9] at X6
      obtain ⟨o6, ho6⟩ : ∃ o6 : Nat → Prop, o6 = fun g => grow oT w3 g ∧ g < w6.heap.size := ⟨_, rfl⟩
      have x6 : EnX (.slice A0 j C0) o6 pb eb mb ver s p ⟨e.ss, e.rs, refsB s e.rs⟩ k i true w6 := by rw [ho6]; exact X6.out.tight
      have O6 := Lib.hid (show ∀ q, o6 q → (oT q ∨ w3.heap.size ≤ q) ∧ q < w6.heap.size from fun q hq => by rw [ho6] at hq; exact hq)
      have SBD : ∀ g, g = w.heap.size → ¬ oT g := fun g hg hg2 => by have := oT2 g hg2; omega
      have z3 : w1.heap.size ≤ w3.heap.size := by rw [Z3.out]; exact Z2.out
      have sb6 := SB3.out.kp K6.out SBD
      have tm6 := TM3.out.kp K6.out TD.out
      have DJS := Lib.hid (show ∀ g, g = w.heap.size → ¬ o6 g from fun g hg hg2 => by
        rcases (O6.out g hg2).1 with h | h
        · have := oT2 g h
          omega
        · omega)
      have DJT := Lib.hid (show ∀ g, (grow (fun g => g = w.heap.size + 1) w1 g ∧ g < w2.heap.size) → ¬ o6 g ∧ g ≠ w.heap.size from fun g hg => by
        have h1 := hg.1
        have h2 := hg.2
        have h3 := Z3.out
        refine ⟨fun hg2 => ?_, ?_⟩
        · have h4 := (O6.out g hg2).1
          rcases h4 with h4 | h4
          · exact TD.out g hg h4
          · omega
        · rcases h1 with h1 | h1 <;> omega)
      have lref := refsB_len s (rs := e.rs) (fun r hr => ⟨(HR.out r hr).1.2, (HR.out r hr).2.2⟩) (by rw [← HNN.out]; omega)
      have lref2 : (refsB s e.rs).length ≤ 20000000 := by rw [← HNN.out] at lref; omega
      obtain ⟨F6, rm6, bo6, hF6, back6⟩ := x6.bo
      have of6 : ∀ g, (g = eb ∨ g ∈ F6) → o6 g := fun g hg => by
        rcases hg with rfl | hg
        · exact x6.en.low
        · exact (hF6 g hg).1
      have CP6 := Lib.hid (copy_S bo6 sb6 (fun g hg e => DJS.out g e (of6 g hg)) (by simp; omega))
      have BK6 := Lib.hid back6
      have TG6 := Lib.hid (show tag w6 w.heap.size = some 127 from by
        obtain ⟨_, _, hb, _⟩ := sb6.is
        exact hb.tag)
      have TM6 := Lib.hid tm6
      have OF6 := Lib.hid of6
      have KW6 := Lib.hid (KK3.out.comp K6.out (fun g hg => .inl hg))
      clear X6 x6 sb6 tm6 bo6 hF6 back6 of6 ho6 SBD lref h9 K6 SB3 TM3 KK3
      go_wp2_with fail
      refine CP6.out.mono ?_
      rintro d w7 ⟨rfl, h7, sb7, k7⟩
      have x7 := BK6.out [] w7 (eb :: w.heap.size :: F6) (Fr.of_kp k7 (fun g hg => by
        rcases hg with (rfl | hg) | rfl
        · simp
        · simp [hg]
        · simp)) (fun g hg => by
        simp only [List.mem_cons] at hg
        rcases hg with rfl | rfl | hg
        · exact .inl rfl
        · exact .inr (.inr ⟨_, TG6.out, by decide, by decide, by decide⟩)
        · exact .inr (.inl hg)) h7
      rw [List.nil_append] at sb7
      have tm7 := TM6.out.kp k7 (fun g hg hg2 => by
        have h1 := DJT.out g hg
        rcases hg2 with hg2 | hg2
        · exact h1.1 (OF6.out g hg2)
        · exact h1.2 hg2)
      have KW7 := Lib.hid (KW6.out.comp k7 (fun g hg => by
        rcases hg with hg | hg
        · have := (O6.out g (OF6.out g hg)).1
          exact this.imp id (fun h => by have := KW6.out.size; have := z3; have := s1; omega)
        · exact .inr (by omega)))
      have ds7 : ∀ g, grow (fun g => g = w.heap.size) w6 g → ¬ o6 g := fun g hg hg2 => by
        rcases hg with hg | hg
        · exact DJS.out g hg hg2
        · have := (O6.out g hg2).2
          omega
      have dt7 : ∀ g, (grow (fun g => g = w.heap.size + 1) w1 g ∧ g < w2.heap.size) → ¬ grow (fun g => g = w.heap.size) w6 g := fun g hg hg2 => by
        have h1 := (DJT.out g hg).2
        rcases hg2 with hg2 | hg2
        · exact h1 hg2
        · have := hg.2
          have := Z3.out
          have := KW6.out.size
          have h5 := K5S.out
          omega
      have CP7 := Lib.hid (copy_S tm7 sb7 dt7 (by have := DLEN.out; omega))
      have W76 := Lib.hid (show w6.heap.size ≤ w7.heap.size from k7.size)
      have X7 := Lib.hid x7
      have DS7 := Lib.hid ds7
      clear h7 sb7 k7 x7 tm7 ds7 dt7 CP6 BK6 TM6 OF6 KW6
      go_wp2_with fail
      refine CP7.out.mono ?_
      rintro d w8 ⟨rfl, _, sb8, k8⟩
      have x8 := X7.out.kp k8 (fun g hg hg2 => by
        rcases hg2 with hg2 | hg2
        · exact (DJT.out g hg2).1 hg
        · exact DS7.out g hg2 hg)
      have KW8 := Lib.hid (KW7.out.comp k8 (fun g hg => by
        rcases hg with hg | hg
        · rcases hg.1 with h1 | h1
          · exact .inr (by omega)
          · exact .inr (by omega)
        · rcases hg with h1 | h1
          · exact .inr (by omega)
          · exact .inr (by have := W6S.out; omega)))
      have hlk : i < (withS p e.ss k).length := by
        show i < (if k = 0 then e.ss else p k).length
        rw [if_neg hk0]
        exact HI.out
      have hlk2 : (withS p e.ss k).length ≤ 1000000 := by
        show (if k = 0 then e.ss else p k).length ≤ _
        rw [if_neg hk0]
        exact HN.out
      obtain ⟨bys, hbys⟩ : ∃ bys, bys = refsB s e.rs ++ e.ds := ⟨_, rfl⟩
      have hne : bys ≠ [] := by
        rw [hbys]
        intro h
        have h1 := congrArg List.length h
        unfold refsB eU at h1
        have h2 : 1 ≤ (uv e.rs.length).length := Lib.uvarint_pos e.rs.length
        simp only [List.length_append, List.length_nil] at h1
        omega
      rw [← hbys] at sb8
      obtain ⟨g, C, hc, hC, hgp, hgo, ⟨v, hv⟩, hf, htg, _⟩ := x8.pk.setEl k i hk hk0 hlk (str bys)
      obtain ⟨F8, rm8, hb8, _⟩ := x8.en.is
      have y0 : w8.cell? ⟨eb, 0, none⟩ = some (.pointer (some ⟨pb, 0, none⟩)) := hb8.rest 0 (.inl (by omega))
      have y7 : w8.cell? ⟨eb, 7, none⟩ = some (.int .i32 k) := hb8.rest 7 (.inr (by omega))
      have y8 : w8.cell? ⟨eb, 8, none⟩ = some (.int .i32 i) := hb8.rest 8 (.inr (by omega))
      have hge : g ≠ eb := fun e => by
        rw [e, hb8.tag] at htg
        exact absurd htg (by decide)
      have ds8 : ∀ q, o6 q → ¬ grow (grow (fun g => g = w.heap.size) w6) w7 q := fun q hq hq2 => by
        rcases hq2 with hq2 | hq2
        · exact DS7.out q hq2 hq
        · have := (O6.out q hq).2
          have := W76.out
          omega
      have hoe := x8.en.low
      have hop := x8.pk.low.1
      have FIN := Lib.hid (fun (w9 : World) (k9 : Kp (grow (grow (fun g => g = w.heap.size) w6) w7) w8.drew w9) => show (w9.cell? ⟨eb, 0, none⟩ = some (.pointer (some ⟨pb, 0, none⟩)) ∧ w9.cell? ⟨eb, 7, none⟩ = some (.int .i32 k) ∧ w9.cell? ⟨eb, 8, none⟩ = some (.int .i32 i) ∧ w9.cell? ⟨pb, 1 + k, none⟩ = some (.slice (some ⟨g, 0, none⟩) (withS p e.ss k).length C)) ∧
          (w9.cell? ⟨g, i, none⟩ = some v ∧ w9.frozen? ⟨g, i, none⟩ = false) ∧
          ((w9.setCell ⟨g, i, none⟩ (.string (str bys))).cell? ⟨eb, 0, none⟩ = some (.pointer (some ⟨pb, 0, none⟩)) ∧ (w9.setCell ⟨g, i, none⟩ (.string (str bys))).cell? ⟨eb, 7, none⟩ = some (.int .i32 k) ∧ (w9.setCell ⟨g, i, none⟩ (.string (str bys))).cell? ⟨eb, 8, none⟩ = some (.int .i32 i) ∧ (w9.setCell ⟨g, i, none⟩ (.string (str bys))).cell? ⟨pb, 1 + k, none⟩ = some (.slice (some ⟨g, 0, none⟩) (withS p e.ss k).length C)) ∧
          PkSt o6 pb mb ver (sfI s) (fun j => if j = k then (withS p e.ss k).set i (str bys) else withS p e.ss j) (w9.setCell ⟨g, i, none⟩ (.string (str bys))) ∧ Kp oT w (w9.setCell ⟨g, i, none⟩ (.string (str bys))) from by
        have ks9 : Kp (grow (grow (fun g => g = w.heap.size) w6) w7) w8 w9 := ((Kp.refl _ w8).drewN 1).trans' k9
        have z0 := ks9.cell y0 (ds8 eb hoe)
        have z7 := ks9.cell y7 (ds8 eb hoe)
        have z8 := ks9.cell y8 (ds8 eb hoe)
        have zc := ks9.cell hc (ds8 pb hop)
        have zv := ks9.cell hv (ds8 g hgo)
        have zf : w9.frozen? ⟨g, i, none⟩ = false := (World.frozen?_of_block (a := ⟨g, i, none⟩) (ks9.block g (tag_lt htg) (ds8 g hgo))).trans hf
        have fs : Fr [g] w9 (w9.setCell ⟨g, i, none⟩ (.string (str bys))) := (Fr.refl _ _).setCell (.inl (by simp)) _
        obtain ⟨g', C', hc', _, _, _, _, _, _, hset⟩ := (x8.pk.kp ks9 ds8).setEl k i hk hk0 hlk (str bys)
        have hgg : g' = g := by
          have h9 := hc'.symm.trans zc
          simp only [Option.some.injEq, Value.slice.injEq, Addr.mk.injEq, and_true] at h9
          exact h9.1
        subst hgg
        refine ⟨⟨z0, z7, z8, zc⟩, ⟨zv, zf⟩, ⟨fs.cell z0 (by simpa using hge.symm), fs.cell z7 (by simpa using hge.symm), fs.cell z8 (by simpa using hge.symm), fs.cell zc (by simpa using hgp.symm)⟩, hset w9 (Kp.refl _ _), ?_⟩
        refine ((KW8.out.comp ks9 (fun q hq => ?_))).setCell ?_ _
        · rcases hq with (hq | hq) | hq
          · exact .inr (by omega)
          · exact .inr (by have := W6S.out; omega)
          · exact .inr (by have := W6S.out; have := W76.out; omega)
        · have h1 := (O6.out g' hgo).1
          exact h1.imp id (fun h => by show w.heap.size ≤ g'; omega))
      have ST := Lib.hid (bl_String (sb8.here (w' := w8.drew) (Below.drew (Below.refl _ _))) hne)
      have HB := Lib.hid (show bys = e.bytes s from hbys)
      have HO := Lib.hid (show ∀ q, o6 q → grow own w q from fun q hq => by
        rcases (O6.out q hq).1 with h | h
        · exact .inl (oT1 q h)
        · exact .inr (by omega))
      have HK := Lib.hid (show withS p e.ss k = p k from if_neg hk0)
      have i0 : (0 : Int) ≤ i := by omega
      have i1 : (i : Int) < (withS p e.ss k).length := by omega
      have k0 : (0 : Int) ≤ k := by omega
      have k1 : (k : Int) < 10 := by omega
      have ii := (FIN.out w8.drew (Kp.refl _ _)).1
      clear sb8 k8 x8 KW8 KW7 hne hbys hb8 htg hge ds8 hoe hop hc hv hf hgo hlk y0 y7 y8 X7 DS7 CP7 DJT DJS
      go_wp2_with fail
      go_region_held3 (fun W => W.cell? ⟨eb, 0, none⟩ = some (.pointer (some ⟨pb, 0, none⟩)) ∧ W.cell? ⟨eb, 7, none⟩ = some (.int .i32 k) ∧ W.cell? ⟨eb, 8, none⟩ = some (.int .i32 i) ∧ W.cell? ⟨pb, 1 + k, none⟩ = some (.slice (some ⟨g, 0, none⟩) (withS p e.ss k).length C)) (first | exact ii | exact iz | exact iy | go_keep)
        (first | (go_at_call 63; refine ST.out.mono ?_; rintro d w9 ⟨rfl, k9⟩; obtain ⟨iz, ⟨zv, zf⟩, iy, q1, q2⟩ := FIN.out w9 k9; have Q1 := Lib.hid q1; have Q2 := Lib.hid q2; clear q1 q2 k9))
      all_goals
        rw [show (⟨bys.toArray⟩ : ByteArray) = str bys from rfl]
        obtain ⟨wf, hwf⟩ : ∃ wf, wf = w9.setCell ⟨g, i, none⟩ (.string (str bys)) := ⟨_, rfl⟩
        rw [← hwf] at iy Q1 Q2 ⊢
        have y8 := iy.2.2.1
        clear hwf iz zv zf iy ii
        go_wp2_with fail
        go_ret
        refine ⟨rfl, ?_, Q2.out.mono oT1⟩
        have h9 := Q1.out.mono HO.out
        rw [HK.out, HB.out] at h9
        exact h9
end Go.Proofs.YtedjadicdodahaaGreatDoor
