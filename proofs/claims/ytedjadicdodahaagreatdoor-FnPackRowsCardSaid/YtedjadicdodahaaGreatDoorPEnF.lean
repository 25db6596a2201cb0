/- An element's encoder: codes; a value written. (printed by gen_penF.py) -/
import Derived.Test.YtedjadicdodahaaGreatDoorPEnE
namespace Go.Proofs.YtedjadicdodahaaGreatDoor
open Go.RowKit Go.Maps

theorem CodeObj_Marker (x : Int) (w : World) : Calls Tryz.prog 151 #[.int .i64 x] w (RetQ (.int .i64 25) w) := by
  go_enter Tryz.func151, Tryz.ntmps151
  go_wp2
  go_ret
  exact ⟨rfl, 0, rfl⟩
theorem CodeObj_Value (x : Int) (w : World) : Calls Tryz.prog 152 #[.int .i64 x] w (RetQ (.int .i64 x) w) := by
  go_enter Tryz.func152, Tryz.ntmps152
  go_wp2
  go_ret
  exact ⟨rfl, 0, rfl⟩
set_option maxRecDepth 100000 in
set_option maxHeartbeats 1000000 in
theorem encCodeObj_any {own : Nat → Prop} {pb eb mb : Nat} {ver : Int} {s : Bool} {p : Pk} {e : Es} {k ix : Int} {hd : Bool} {w : World} (h : En own pb eb mb ver s p e k ix hd w) (x : Nat) (hx : x < 1000) (hl : e.ds.length ≤ 70000000) :
    Calls Tryz.prog 59 #[.pointer (some ⟨eb, 0, none⟩), .iface 115 (.int .i64 x)] w (Met own w (.tuple #[]) fun o w' => En o pb eb mb ver s p (e.put (sy s 25 ++ eU s x)) k ix hd w') := by
  have h2 := Es.put_len hl (sy_len s (m := 25) (by decide))
  have H := Lib.hid h
  clear h
  go_enter Tryz.func59, Tryz.ntmps59
  go_wp2_with (go_at_call 151; refine (CodeObj_Marker _ _).mono ?_; rintro e' w0 ⟨rfl, n0, rfl⟩)
  refine (sync_any (H.out.here (below_drewN (Below.refl _ _) n0)) 25 (by decide) (by omega)).mono ?_
  intro e' w1 k10
  have S1 := Lib.hid (k10.st.mono (own' := grow own w) fun _ h => h)
  have K1 := Lib.hid (((Kp.refl own w).drewN n0).trans' k10.kp)
  obtain rfl := k10.ret
  clear k10
  go_wp2_with (go_at_call 152; refine (CodeObj_Value _ _).mono ?_; rintro e' w2 ⟨rfl, n2, rfl⟩)
  refine (encLen_any (S1.out.here (below_drewN (Below.refl _ _) n2)) x (by omega) (by omega)).mono ?_
  intro e' w3 k30
  obtain ⟨rfl, s3, k3⟩ := k30.from (K1.out.drewN n2) (fun _ _ h S => S.mono h)
  have S3 := Lib.hid s3
  have K3 := Lib.hid k3
  clear k30 s3 k3
  go_wp2_with fail
  go_end0
  have e0 : e.put (sy s 25 ++ eU s x) = (e.put (sy s 25)).put (eU s x) := by simp [Es.put, List.append_assoc]
  rw [e0]
  exact ⟨rfl, S3.out, K3.out⟩
theorem CodeType_Marker (x : Int) (w : World) : Calls Tryz.prog 123 #[.int .i64 x] w (RetQ (.int .i64 19) w) := by
  go_enter Tryz.func123, Tryz.ntmps123
  go_wp2
  go_ret
  exact ⟨rfl, 0, rfl⟩
theorem CodeType_Value (x : Int) (w : World) : Calls Tryz.prog 153 #[.int .i64 x] w (RetQ (.int .i64 x) w) := by
  go_enter Tryz.func153, Tryz.ntmps153
  go_wp2
  go_ret
  exact ⟨rfl, 0, rfl⟩
set_option maxRecDepth 100000 in
set_option maxHeartbeats 1000000 in
theorem encCodeType_any {own : Nat → Prop} {pb eb mb : Nat} {ver : Int} {s : Bool} {p : Pk} {e : Es} {k ix : Int} {hd : Bool} {w : World} (h : En own pb eb mb ver s p e k ix hd w) (x : Nat) (hx : x < 1000) (hl : e.ds.length ≤ 70000000) :
    Calls Tryz.prog 59 #[.pointer (some ⟨eb, 0, none⟩), .iface 116 (.int .i64 x)] w (Met own w (.tuple #[]) fun o w' => En o pb eb mb ver s p (e.put (sy s 19 ++ eU s x)) k ix hd w') := by
  have h2 := Es.put_len hl (sy_len s (m := 19) (by decide))
  have H := Lib.hid h
  clear h
  go_enter Tryz.func59, Tryz.ntmps59
  go_wp2_with (go_at_call 123; refine (CodeType_Marker _ _).mono ?_; rintro e' w0 ⟨rfl, n0, rfl⟩)
  refine (sync_any (H.out.here (below_drewN (Below.refl _ _) n0)) 19 (by decide) (by omega)).mono ?_
  intro e' w1 k10
  have S1 := Lib.hid (k10.st.mono (own' := grow own w) fun _ h => h)
  have K1 := Lib.hid (((Kp.refl own w).drewN n0).trans' k10.kp)
  obtain rfl := k10.ret
  clear k10
  go_wp2_with (go_at_call 153; refine (CodeType_Value _ _).mono ?_; rintro e' w2 ⟨rfl, n2, rfl⟩)
  refine (encLen_any (S1.out.here (below_drewN (Below.refl _ _) n2)) x (by omega) (by omega)).mono ?_
  intro e' w3 k30
  obtain ⟨rfl, s3, k3⟩ := k30.from (K1.out.drewN n2) (fun _ _ h S => S.mono h)
  have S3 := Lib.hid s3
  have K3 := Lib.hid k3
  clear k30 s3 k3
  go_wp2_with fail
  go_end0
  have e0 : e.put (sy s 19 ++ eU s x) = (e.put (sy s 19)).put (eU s x) := by simp [Es.put, List.append_assoc]
  rw [e0]
  exact ⟨rfl, S3.out, K3.out⟩
theorem CodeVal_Marker (x : Int) (w : World) : Calls Tryz.prog 124 #[.int .i64 x] w (RetQ (.int .i64 7) w) := by
  go_enter Tryz.func124, Tryz.ntmps124
  go_wp2
  go_ret
  exact ⟨rfl, 0, rfl⟩
theorem CodeVal_Value (x : Int) (w : World) : Calls Tryz.prog 154 #[.int .i64 x] w (RetQ (.int .i64 x) w) := by
  go_enter Tryz.func154, Tryz.ntmps154
  go_wp2
  go_ret
  exact ⟨rfl, 0, rfl⟩
set_option maxRecDepth 100000 in
set_option maxHeartbeats 1000000 in
theorem encCodeVal_any {own : Nat → Prop} {pb eb mb : Nat} {ver : Int} {s : Bool} {p : Pk} {e : Es} {k ix : Int} {hd : Bool} {w : World} (h : En own pb eb mb ver s p e k ix hd w) (x : Nat) (hx : x < 1000) (hl : e.ds.length ≤ 70000000) :
    Calls Tryz.prog 59 #[.pointer (some ⟨eb, 0, none⟩), .iface 117 (.int .i64 x)] w (Met own w (.tuple #[]) fun o w' => En o pb eb mb ver s p (e.put (sy s 7 ++ eU s x)) k ix hd w') := by
  have h2 := Es.put_len hl (sy_len s (m := 7) (by decide))
  have H := Lib.hid h
  clear h
  go_enter Tryz.func59, Tryz.ntmps59
  go_wp2_with (go_at_call 124; refine (CodeVal_Marker _ _).mono ?_; rintro e' w0 ⟨rfl, n0, rfl⟩)
  refine (sync_any (H.out.here (below_drewN (Below.refl _ _) n0)) 7 (by decide) (by omega)).mono ?_
  intro e' w1 k10
  have S1 := Lib.hid (k10.st.mono (own' := grow own w) fun _ h => h)
  have K1 := Lib.hid (((Kp.refl own w).drewN n0).trans' k10.kp)
  obtain rfl := k10.ret
  clear k10
  go_wp2_with (go_at_call 154; refine (CodeVal_Value _ _).mono ?_; rintro e' w2 ⟨rfl, n2, rfl⟩)
  refine (encLen_any (S1.out.here (below_drewN (Below.refl _ _) n2)) x (by omega) (by omega)).mono ?_
  intro e' w3 k30
  obtain ⟨rfl, s3, k3⟩ := k30.from (K1.out.drewN n2) (fun _ _ h S => S.mono h)
  have S3 := Lib.hid s3
  have K3 := Lib.hid k3
  clear k30 s3 k3
  go_wp2_with fail
  go_end0
  have e0 : e.put (sy s 7 ++ eU s x) = (e.put (sy s 7)).put (eU s x) := by simp [Es.put, List.append_assoc]
  rw [e0]
  exact ⟨rfl, S3.out, K3.out⟩
abbrev Bt.arr (b : Bt) : Array Value := #[.int .i64 b.kind, .int .i64 b.num, .int .i64 b.sec, .string b.text, .slice b.texts.A b.texts.l.length b.texts.c]
theorem Txt.here {own : Nat → Prop} {w w' : World} {A : Option Addr} {l : List ByteArray} (h : Txt own w A l) (k : Below w.heap.size w w') : Txt own w' A l := fun h0 => by
  obtain ⟨b, o, e, h1, h2, h3⟩ := h h0
  exact ⟨b, o, e, h1, Nat.lt_of_lt_of_le h2 k.size, fun j t hj => keep_cell k (h3 j t hj)⟩
/-- Seen from where one began. -/
theorem Met.after {own : Nat → Prop} {w w1 w2 : World} {v : Value} {S : (Nat → Prop) → World → Prop} {e : Ending} (h : Met own w1 v S e w2) (k : Below w.heap.size w w1) (mono : ∀ (o o' : Nat → Prop), (∀ j, o j → o' j) → S o w2 → S o' w2) : Met own w v S e w2 :=
  ⟨h.ret, mono _ _ (grow_le k.size) h.st, (Kp.of_below k).trans' h.kp⟩
set_option maxRecDepth 100000 in
set_option maxHeartbeats 1000000 in
theorem write_0 {own : Nat → Prop} {pb eb mb : Nat} {ver : Int} {s : Bool} {p : Pk} {e : Es} {k ix : Int} {hd : Bool} {w : World} (h : En own pb eb mb ver s p e k ix hd w) {n a : Nat} (hle : e.Le n a 50000000) (_hn : n ≤ 100000) (_ha : a ≤ 100000) (num sec : Int) (text : ByteArray) (texts : Sl ByteArray) (hb : (⟨0, num, sec, text, texts⟩ : Bt).Ok) (_hT : Txt own w texts.A texts.l) :
    Calls Tryz.prog 27 #[.pointer (some ⟨eb, 0, none⟩), .agg #[.int .i64 0, .int .i64 num, .int .i64 sec, .string text, .slice texts.A texts.l.length texts.c]] w (Met own w (.bool true) fun o w' => En o pb eb mb ver s p e k ix hd w') := by
  obtain ⟨w0, hw0⟩ : ∃ w0, w0 = w.alloc (.cells #[.int .i64 0, .int .i64 num, .int .i64 sec, .string text, .slice texts.A texts.l.length texts.c] 41) := ⟨_, rfl⟩
  have b0 : Below w.heap.size w w0 := by rw [hw0]; exact Below.alloc (Below.refl _ _) (Nat.le_refl _) _
  have hds := hle.ds
  have hss := hle.ss
  have hrs := hle.rs
  have hnum := hb.num
  simp only at hnum
  have B0 := Lib.hid b0
  have HW0 := Lib.hid hw0
  have H := Lib.hid (h.here b0)
  clear h hb hle hds hss hrs b0 hw0 hnum
  go_enter Tryz.func27, Tryz.ntmps27
  go_wp2_with fail
  go_ret
  rw [← HW0.out]
  exact ⟨rfl, H.out.mono (grow_of own w), Kp.of_below B0.out⟩
set_option maxRecDepth 100000 in
set_option maxHeartbeats 1000000 in
theorem write_1 {own : Nat → Prop} {pb eb mb : Nat} {ver : Int} {s : Bool} {p : Pk} {e : Es} {k ix : Int} {hd : Bool} {w : World} (h : En own pb eb mb ver s p e k ix hd w) {n a : Nat} (hle : e.Le n a 50000000) (_hn : n ≤ 100000) (_ha : a ≤ 100000) (num sec : Int) (text : ByteArray) (texts : Sl ByteArray) (hb : (⟨1, num, sec, text, texts⟩ : Bt).Ok) (_hT : Txt own w texts.A texts.l) :
    Calls Tryz.prog 27 #[.pointer (some ⟨eb, 0, none⟩), .agg #[.int .i64 1, .int .i64 num, .int .i64 sec, .string text, .slice texts.A texts.l.length texts.c]] w (Met own w (.bool false) fun o w' => En o pb eb mb ver s p (e.bit s ⟨1, num, sec, text, texts⟩) k ix hd w') := by
  obtain ⟨w0, hw0⟩ : ∃ w0, w0 = w.alloc (.cells #[.int .i64 1, .int .i64 num, .int .i64 sec, .string text, .slice texts.A texts.l.length texts.c] 41) := ⟨_, rfl⟩
  have b0 : Below w.heap.size w w0 := by rw [hw0]; exact Below.alloc (Below.refl _ _) (Nat.le_refl _) _
  have hds := hle.ds
  have hss := hle.ss
  have hrs := hle.rs
  have hnum := hb.num
  simp only at hnum
  have he : e.bit s ⟨1, num, sec, text, texts⟩ = e.put (eI s num) := by rfl
  rw [he]
  have B0 := Lib.hid b0
  have HW0 := Lib.hid hw0
  have HC := Lib.hid (encInt64_any (h.here b0) num hnum.1 hnum.2 (by omega))
  clear h hb hle hds hss hrs b0 hw0
  go_enter Tryz.func27, Tryz.ntmps27
  go_wp2_with fail
  rw [← HW0.out]
  refine HC.out.mono ?_
  intro e' w1 k10
  obtain ⟨rfl, s1, k1⟩ := k10.after B0.out (fun _ _ h S => S.mono h)
  have S1 := Lib.hid s1
  have K1 := Lib.hid k1
  clear k10 s1 k1
  go_wp2_with fail
  go_ret
  exact ⟨rfl, S1.out, K1.out⟩
set_option maxRecDepth 100000 in
set_option maxHeartbeats 1000000 in
theorem write_2 {own : Nat → Prop} {pb eb mb : Nat} {ver : Int} {s : Bool} {p : Pk} {e : Es} {k ix : Int} {hd : Bool} {w : World} (h : En own pb eb mb ver s p e k ix hd w) {n a : Nat} (hle : e.Le n a 50000000) (_hn : n ≤ 100000) (_ha : a ≤ 100000) (num sec : Int) (text : ByteArray) (texts : Sl ByteArray) (hb : (⟨2, num, sec, text, texts⟩ : Bt).Ok) (_hT : Txt own w texts.A texts.l) :
    Calls Tryz.prog 27 #[.pointer (some ⟨eb, 0, none⟩), .agg #[.int .i64 2, .int .i64 num, .int .i64 sec, .string text, .slice texts.A texts.l.length texts.c]] w (Met own w (.bool false) fun o w' => En o pb eb mb ver s p (e.bit s ⟨2, num, sec, text, texts⟩) k ix hd w') := by
  obtain ⟨w0, hw0⟩ : ∃ w0, w0 = w.alloc (.cells #[.int .i64 2, .int .i64 num, .int .i64 sec, .string text, .slice texts.A texts.l.length texts.c] 41) := ⟨_, rfl⟩
  have b0 : Below w.heap.size w w0 := by rw [hw0]; exact Below.alloc (Below.refl _ _) (Nat.le_refl _) _
  have hds := hle.ds
  have hss := hle.ss
  have hrs := hle.rs
  have hnum := hb.num
  simp only at hnum
  obtain ⟨u, hu⟩ : ∃ u : Nat, u = (num % 18446744073709551616).toNat := ⟨_, rfl⟩
  have hu1 : (u : Int) = num % 18446744073709551616 := by omega
  have hu2 : IntKind.u64.wrap num = (u : Int) := by rw [IntKind.wrap_u64]; omega
  have hu3 : u < 18446744073709551616 := by omega
  have he : e.bit s ⟨2, num, sec, text, texts⟩ = e.put (eU s u) := by rw [hu]; rfl
  rw [he]
  clear hu hu1
  have B0 := Lib.hid b0
  have HW0 := Lib.hid hw0
  have HC := Lib.hid (encUint64_any (h.here b0) u (by omega) (by omega))
  clear h hb hle hds hss hrs b0 hw0
  go_enter Tryz.func27, Tryz.ntmps27
  go_wp2_with fail
  rw [← HW0.out]
  refine HC.out.mono ?_
  intro e' w1 k10
  obtain ⟨rfl, s1, k1⟩ := k10.after B0.out (fun _ _ h S => S.mono h)
  have S1 := Lib.hid s1
  have K1 := Lib.hid k1
  clear k10 s1 k1
  go_wp2_with fail
  go_ret
  exact ⟨rfl, S1.out, K1.out⟩
set_option maxRecDepth 100000 in
set_option maxHeartbeats 1000000 in
theorem write_3 {own : Nat → Prop} {pb eb mb : Nat} {ver : Int} {s : Bool} {p : Pk} {e : Es} {k ix : Int} {hd : Bool} {w : World} (h : En own pb eb mb ver s p e k ix hd w) {n a : Nat} (hle : e.Le n a 50000000) (_hn : n ≤ 100000) (_ha : a ≤ 100000) (num sec : Int) (text : ByteArray) (texts : Sl ByteArray) (hb : (⟨3, num, sec, text, texts⟩ : Bt).Ok) (_hT : Txt own w texts.A texts.l) :
    Calls Tryz.prog 27 #[.pointer (some ⟨eb, 0, none⟩), .agg #[.int .i64 3, .int .i64 num, .int .i64 sec, .string text, .slice texts.A texts.l.length texts.c]] w (Met own w (.bool false) fun o w' => En o pb eb mb ver s p (e.bit s ⟨3, num, sec, text, texts⟩) k ix hd w') := by
  obtain ⟨w0, hw0⟩ : ∃ w0, w0 = w.alloc (.cells #[.int .i64 3, .int .i64 num, .int .i64 sec, .string text, .slice texts.A texts.l.length texts.c] 41) := ⟨_, rfl⟩
  have b0 : Below w.heap.size w w0 := by rw [hw0]; exact Below.alloc (Below.refl _ _) (Nat.le_refl _) _
  have hds := hle.ds
  have hss := hle.ss
  have hrs := hle.rs
  have hnum := hb.num
  simp only at hnum
  have hl := hb.len rfl
  replace hl : 0 ≤ num := hl
  obtain ⟨u, hu⟩ : ∃ u : Nat, (u : Int) = num := ⟨num.toNat, by omega⟩
  subst hu
  have hm : (u : Int) % 18446744073709551616 = u := by omega
  have he : e.bit s ⟨3, (u : Int), sec, text, texts⟩ = e.put (eU s u) := by
    show e.put (eU s ((u : Int) % 18446744073709551616).toNat) = _
    rw [hm]
    rfl
  rw [he]
  clear hl hm
  have B0 := Lib.hid b0
  have HW0 := Lib.hid hw0
  have HC := Lib.hid (encLen_any (h.here b0) u (by omega) (by omega))
  clear h hb hle hds hss hrs b0 hw0
  go_enter Tryz.func27, Tryz.ntmps27
  go_wp2_with fail
  rw [← HW0.out]
  refine HC.out.mono ?_
  intro e' w1 k10
  obtain ⟨rfl, s1, k1⟩ := k10.after B0.out (fun _ _ h S => S.mono h)
  have S1 := Lib.hid s1
  have K1 := Lib.hid k1
  clear k10 s1 k1
  go_wp2_with fail
  go_ret
  exact ⟨rfl, S1.out, K1.out⟩
set_option maxRecDepth 100000 in
set_option maxHeartbeats 1000000 in
theorem write_4 {own : Nat → Prop} {pb eb mb : Nat} {ver : Int} {s : Bool} {p : Pk} {e : Es} {k ix : Int} {hd : Bool} {w : World} (h : En own pb eb mb ver s p e k ix hd w) {n a : Nat} (hle : e.Le n a 50000000) (_hn : n ≤ 100000) (_ha : a ≤ 100000) (num sec : Int) (text : ByteArray) (texts : Sl ByteArray) (hb : (⟨4, num, sec, text, texts⟩ : Bt).Ok) (_hT : Txt own w texts.A texts.l) :
    Calls Tryz.prog 27 #[.pointer (some ⟨eb, 0, none⟩), .agg #[.int .i64 4, .int .i64 num, .int .i64 sec, .string text, .slice texts.A texts.l.length texts.c]] w (Met own w (.bool false) fun o w' => En o pb eb mb ver s p (e.bit s ⟨4, num, sec, text, texts⟩) k ix hd w') := by
  obtain ⟨w0, hw0⟩ : ∃ w0, w0 = w.alloc (.cells #[.int .i64 4, .int .i64 num, .int .i64 sec, .string text, .slice texts.A texts.l.length texts.c] 41) := ⟨_, rfl⟩
  have b0 : Below w.heap.size w w0 := by rw [hw0]; exact Below.alloc (Below.refl _ _) (Nat.le_refl _) _
  have hds := hle.ds
  have hss := hle.ss
  have hrs := hle.rs
  have hnum := hb.num
  simp only at hnum
  have he : e.bit s ⟨4, num, sec, text, texts⟩ = e.put (eI s num) := by rfl
  rw [he]
  have B0 := Lib.hid b0
  have HW0 := Lib.hid hw0
  have HC := Lib.hid (encInt_any (h.here b0) num hnum.1 hnum.2 (by omega))
  clear h hb hle hds hss hrs b0 hw0
  go_enter Tryz.func27, Tryz.ntmps27
  go_wp2_with fail
  rw [← HW0.out]
  refine HC.out.mono ?_
  intro e' w1 k10
  obtain ⟨rfl, s1, k1⟩ := k10.after B0.out (fun _ _ h S => S.mono h)
  have S1 := Lib.hid s1
  have K1 := Lib.hid k1
  clear k10 s1 k1
  go_wp2_with fail
  go_ret
  exact ⟨rfl, S1.out, K1.out⟩
set_option maxRecDepth 100000 in
set_option maxHeartbeats 1000000 in
theorem write_5 {own : Nat → Prop} {pb eb mb : Nat} {ver : Int} {s : Bool} {p : Pk} {e : Es} {k ix : Int} {hd : Bool} {w : World} (h : En own pb eb mb ver s p e k ix hd w) {n a : Nat} (hle : e.Le n a 50000000) (_hn : n ≤ 100000) (_ha : a ≤ 100000) (num sec : Int) (text : ByteArray) (texts : Sl ByteArray) (hb : (⟨5, num, sec, text, texts⟩ : Bt).Ok) (_hT : Txt own w texts.A texts.l) :
    Calls Tryz.prog 27 #[.pointer (some ⟨eb, 0, none⟩), .agg #[.int .i64 5, .int .i64 num, .int .i64 sec, .string text, .slice texts.A texts.l.length texts.c]] w (Met own w (.bool false) fun o w' => En o pb eb mb ver s p (e.bit s ⟨5, num, sec, text, texts⟩) k ix hd w') := by
  obtain ⟨w0, hw0⟩ : ∃ w0, w0 = w.alloc (.cells #[.int .i64 5, .int .i64 num, .int .i64 sec, .string text, .slice texts.A texts.l.length texts.c] 41) := ⟨_, rfl⟩
  have b0 : Below w.heap.size w w0 := by rw [hw0]; exact Below.alloc (Below.refl _ _) (Nat.le_refl _) _
  have hds := hle.ds
  have hss := hle.ss
  have hrs := hle.rs
  have hnum := hb.num
  simp only at hnum
  obtain ⟨u, hu⟩ : ∃ u : Nat, u = (num % 18446744073709551616).toNat := ⟨_, rfl⟩
  have hu1 : (u : Int) = num % 18446744073709551616 := by omega
  have hu2 : IntKind.u64.wrap num = (u : Int) := by rw [IntKind.wrap_u64]; omega
  have hu3 : u < 18446744073709551616 := by omega
  have he : e.bit s ⟨5, num, sec, text, texts⟩ = e.put (eU s u) := by rw [hu]; rfl
  rw [he]
  clear hu hu1
  have B0 := Lib.hid b0
  have HW0 := Lib.hid hw0
  have HC := Lib.hid (encUint_any (h.here b0) u (by omega) (by omega))
  clear h hb hle hds hss hrs b0 hw0
  go_enter Tryz.func27, Tryz.ntmps27
  go_wp2_with fail
  rw [← HW0.out]
  refine HC.out.mono ?_
  intro e' w1 k10
  obtain ⟨rfl, s1, k1⟩ := k10.after B0.out (fun _ _ h S => S.mono h)
  have S1 := Lib.hid s1
  have K1 := Lib.hid k1
  clear k10 s1 k1
  go_wp2_with fail
  go_ret
  exact ⟨rfl, S1.out, K1.out⟩
set_option maxRecDepth 100000 in
set_option maxHeartbeats 1000000 in
theorem write_6 {own : Nat → Prop} {pb eb mb : Nat} {ver : Int} {s : Bool} {p : Pk} {e : Es} {k ix : Int} {hd : Bool} {w : World} (h : En own pb eb mb ver s p e k ix hd w) {n a : Nat} (hle : e.Le n a 50000000) (hn : n ≤ 100000) (ha : a ≤ 100000) (num sec : Int) (text : ByteArray) (texts : Sl ByteArray) (hb : (⟨6, num, sec, text, texts⟩ : Bt).Ok) (_hT : Txt own w texts.A texts.l) :
    Calls Tryz.prog 27 #[.pointer (some ⟨eb, 0, none⟩), .agg #[.int .i64 6, .int .i64 num, .int .i64 sec, .string text, .slice texts.A texts.l.length texts.c]] w (Met own w (.bool false) fun o w' => En o pb eb mb ver s p (e.bit s ⟨6, num, sec, text, texts⟩) k ix hd w') := by
  obtain ⟨w0, hw0⟩ : ∃ w0, w0 = w.alloc (.cells #[.int .i64 6, .int .i64 num, .int .i64 sec, .string text, .slice texts.A texts.l.length texts.c] 41) := ⟨_, rfl⟩
  have b0 : Below w.heap.size w w0 := by rw [hw0]; exact Below.alloc (Below.refl _ _) (Nat.le_refl _) _
  have hds := hle.ds
  have hss := hle.ss
  have hrs := hle.rs
  have hnum := hb.num
  simp only at hnum
  have he : e.bit s ⟨6, num, sec, text, texts⟩ = e.str s text := by rfl
  rw [he]
  have B0 := Lib.hid b0
  have HW0 := Lib.hid hw0
  have HC := Lib.hid (encString_any (h.here b0) text (by have h9 := hb.text; simp only at h9; omega) (by omega) (by omega) (by omega))
  clear h hb hle hds hss hrs b0 hw0
  go_enter Tryz.func27, Tryz.ntmps27
  go_wp2_with fail
  rw [← HW0.out]
  refine HC.out.mono ?_
  intro e' w1 k10
  obtain ⟨rfl, s1, k1⟩ := k10.after B0.out (fun _ _ h S => S.mono h)
  have S1 := Lib.hid s1
  have K1 := Lib.hid k1
  clear k10 s1 k1
  go_wp2_with fail
  go_ret
  exact ⟨rfl, S1.out, K1.out⟩
set_option maxRecDepth 100000 in
set_option maxHeartbeats 1000000 in
theorem write_7 {own : Nat → Prop} {pb eb mb : Nat} {ver : Int} {s : Bool} {p : Pk} {e : Es} {k ix : Int} {hd : Bool} {w : World} (h : En own pb eb mb ver s p e k ix hd w) {n a : Nat} (hle : e.Le n a 50000000) (hn : n ≤ 100000) (ha : a ≤ 100000) (num sec : Int) (text : ByteArray) (texts : Sl ByteArray) (hb : (⟨7, num, sec, text, texts⟩ : Bt).Ok) (hT : Txt own w texts.A texts.l) :
    Calls Tryz.prog 27 #[.pointer (some ⟨eb, 0, none⟩), .agg #[.int .i64 7, .int .i64 num, .int .i64 sec, .string text, .slice texts.A texts.l.length texts.c]] w (Met own w (.bool false) fun o w' => En o pb eb mb ver s p (e.bit s ⟨7, num, sec, text, texts⟩) k ix hd w') := by
  obtain ⟨w0, hw0⟩ : ∃ w0, w0 = w.alloc (.cells #[.int .i64 7, .int .i64 num, .int .i64 sec, .string text, .slice texts.A texts.l.length texts.c] 41) := ⟨_, rfl⟩
  have b0 : Below w.heap.size w w0 := by rw [hw0]; exact Below.alloc (Below.refl _ _) (Nat.le_refl _) _
  have hds := hle.ds
  have hss := hle.ss
  have hrs := hle.rs
  have hnum := hb.num
  simp only at hnum
  have he : e.bit s ⟨7, num, sec, text, texts⟩ = e.strs s texts.l := by rfl
  rw [he]
  have B0 := Lib.hid b0
  have HW0 := Lib.hid hw0
  have HC := Lib.hid (encStrings_any (h.here b0) hle hn ha texts.A texts.c texts.l (hT.here b0) hb.texts.1 hb.texts.2)
  clear h hT hb hle hds hss hrs b0 hw0
  go_enter Tryz.func27, Tryz.ntmps27
  go_wp2_with fail
  rw [← HW0.out]
  refine HC.out.mono ?_
  intro e' w1 k10
  obtain ⟨rfl, s1, k1⟩ := k10.after B0.out (fun _ _ h S => S.mono h)
  have S1 := Lib.hid s1
  have K1 := Lib.hid k1
  clear k10 s1 k1
  go_wp2_with fail
  go_ret
  exact ⟨rfl, S1.out, K1.out⟩
set_option maxRecDepth 100000 in
set_option maxHeartbeats 1000000 in
theorem write_8 {own : Nat → Prop} {pb eb mb : Nat} {ver : Int} {s : Bool} {p : Pk} {e : Es} {k ix : Int} {hd : Bool} {w : World} (h : En own pb eb mb ver s p e k ix hd w) {n a : Nat} (hle : e.Le n a 50000000) (_hn : n ≤ 100000) (ha : a ≤ 100000) (num sec : Int) (text : ByteArray) (texts : Sl ByteArray) (hb : (⟨8, num, sec, text, texts⟩ : Bt).Ok) (_hT : Txt own w texts.A texts.l) :
    Calls Tryz.prog 27 #[.pointer (some ⟨eb, 0, none⟩), .agg #[.int .i64 8, .int .i64 num, .int .i64 sec, .string text, .slice texts.A texts.l.length texts.c]] w (Met own w (.bool false) fun o w' => En o pb eb mb ver s p (e.bit s ⟨8, num, sec, text, texts⟩) k ix hd w') := by
  obtain ⟨w0, hw0⟩ : ∃ w0, w0 = w.alloc (.cells #[.int .i64 8, .int .i64 num, .int .i64 sec, .string text, .slice texts.A texts.l.length texts.c] 41) := ⟨_, rfl⟩
  have b0 : Below w.heap.size w w0 := by rw [hw0]; exact Below.alloc (Below.refl _ _) (Nat.le_refl _) _
  have hds := hle.ds
  have hss := hle.ss
  have hrs := hle.rs
  have hnum := hb.num
  simp only at hnum
  obtain ⟨r1, r2, r3, r4⟩ := hb.ref rfl
  simp only at r1 r2 r3 r4
  have q1 : IntKind.i32.wrap sec = sec := by rw [IntKind.wrap_i32]; omega
  have q2 : IntKind.i32.wrap num = num := by rw [IntKind.wrap_i32]; omega
  have he : e.bit s ⟨8, num, sec, text, texts⟩ = e.ref s sec num := by rfl
  rw [he]
  have B0 := Lib.hid b0
  have HW0 := Lib.hid hw0
  have HC := Lib.hid (encReloc_any (h.here b0) sec num (by omega) (by omega) (by omega) (by omega))
  clear h hb hle hds hss hrs b0 hw0
  go_enter Tryz.func27, Tryz.ntmps27
  go_wp2_with fail
  rw [← HW0.out]
  refine HC.out.mono ?_
  intro e' w1 k10
  obtain ⟨rfl, s1, k1⟩ := k10.after B0.out (fun _ _ h S => S.mono h)
  have S1 := Lib.hid s1
  have K1 := Lib.hid k1
  clear k10 s1 k1
  go_wp2_with fail
  go_ret
  exact ⟨rfl, S1.out, K1.out⟩
set_option maxRecDepth 100000 in
set_option maxHeartbeats 1000000 in
theorem write_9 {own : Nat → Prop} {pb eb mb : Nat} {ver : Int} {s : Bool} {p : Pk} {e : Es} {k ix : Int} {hd : Bool} {w : World} (h : En own pb eb mb ver s p e k ix hd w) {n a : Nat} (hle : e.Le n a 50000000) (_hn : n ≤ 100000) (_ha : a ≤ 100000) (num sec : Int) (text : ByteArray) (texts : Sl ByteArray) (hb : (⟨9, num, sec, text, texts⟩ : Bt).Ok) (_hT : Txt own w texts.A texts.l) :
    Calls Tryz.prog 27 #[.pointer (some ⟨eb, 0, none⟩), .agg #[.int .i64 9, .int .i64 num, .int .i64 sec, .string text, .slice texts.A texts.l.length texts.c]] w (Met own w (.bool false) fun o w' => En o pb eb mb ver s p (e.bit s ⟨9, num, sec, text, texts⟩) k ix hd w') := by
  obtain ⟨w0, hw0⟩ : ∃ w0, w0 = w.alloc (.cells #[.int .i64 9, .int .i64 num, .int .i64 sec, .string text, .slice texts.A texts.l.length texts.c] 41) := ⟨_, rfl⟩
  have b0 : Below w.heap.size w w0 := by rw [hw0]; exact Below.alloc (Below.refl _ _) (Nat.le_refl _) _
  have hds := hle.ds
  have hss := hle.ss
  have hrs := hle.rs
  have hnum := hb.num
  simp only at hnum
  have hl := hb.obj (.inl rfl)
  simp only at hl
  obtain ⟨u, hu⟩ : ∃ u : Nat, (u : Int) = num := ⟨num.toNat, by omega⟩
  subst hu
  have he : e.bit s ⟨9, (u : Int), sec, text, texts⟩ = e.put (sy s 25 ++ eU s u) := rfl
  rw [he]
  have B0 := Lib.hid b0
  have HW0 := Lib.hid hw0
  have HC := Lib.hid (encCodeObj_any (h.here b0) u (by omega) (by omega))
  clear h hb hle hds hss hrs b0 hw0
  go_enter Tryz.func27, Tryz.ntmps27
  go_wp2_with fail
  rw [← HW0.out]
  refine HC.out.mono ?_
  intro e' w1 k10
  obtain ⟨rfl, s1, k1⟩ := k10.after B0.out (fun _ _ h S => S.mono h)
  have S1 := Lib.hid s1
  have K1 := Lib.hid k1
  clear k10 s1 k1
  go_wp2_with fail
  go_ret
  exact ⟨rfl, S1.out, K1.out⟩
set_option maxRecDepth 100000 in
set_option maxHeartbeats 1000000 in
theorem write_10 {own : Nat → Prop} {pb eb mb : Nat} {ver : Int} {s : Bool} {p : Pk} {e : Es} {k ix : Int} {hd : Bool} {w : World} (h : En own pb eb mb ver s p e k ix hd w) {n a : Nat} (hle : e.Le n a 50000000) (_hn : n ≤ 100000) (_ha : a ≤ 100000) (num sec : Int) (text : ByteArray) (texts : Sl ByteArray) (hb : (⟨10, num, sec, text, texts⟩ : Bt).Ok) (_hT : Txt own w texts.A texts.l) :
    Calls Tryz.prog 27 #[.pointer (some ⟨eb, 0, none⟩), .agg #[.int .i64 10, .int .i64 num, .int .i64 sec, .string text, .slice texts.A texts.l.length texts.c]] w (Met own w (.bool false) fun o w' => En o pb eb mb ver s p (e.bit s ⟨10, num, sec, text, texts⟩) k ix hd w') := by
  obtain ⟨w0, hw0⟩ : ∃ w0, w0 = w.alloc (.cells #[.int .i64 10, .int .i64 num, .int .i64 sec, .string text, .slice texts.A texts.l.length texts.c] 41) := ⟨_, rfl⟩
  have b0 : Below w.heap.size w w0 := by rw [hw0]; exact Below.alloc (Below.refl _ _) (Nat.le_refl _) _
  have hds := hle.ds
  have hss := hle.ss
  have hrs := hle.rs
  have hnum := hb.num
  simp only at hnum
  have hl := hb.typ rfl
  simp only at hl
  obtain ⟨u, hu⟩ : ∃ u : Nat, (u : Int) = num := ⟨num.toNat, by omega⟩
  subst hu
  have he : e.bit s ⟨10, (u : Int), sec, text, texts⟩ = e.put (sy s 19 ++ eU s u) := rfl
  rw [he]
  have B0 := Lib.hid b0
  have HW0 := Lib.hid hw0
  have HC := Lib.hid (encCodeType_any (h.here b0) u (by omega) (by omega))
  clear h hb hle hds hss hrs b0 hw0
  go_enter Tryz.func27, Tryz.ntmps27
  go_wp2_with fail
  rw [← HW0.out]
  refine HC.out.mono ?_
  intro e' w1 k10
  obtain ⟨rfl, s1, k1⟩ := k10.after B0.out (fun _ _ h S => S.mono h)
  have S1 := Lib.hid s1
  have K1 := Lib.hid k1
  clear k10 s1 k1
  go_wp2_with fail
  go_ret
  exact ⟨rfl, S1.out, K1.out⟩
set_option maxRecDepth 100000 in
set_option maxHeartbeats 1000000 in
theorem write_11 {own : Nat → Prop} {pb eb mb : Nat} {ver : Int} {s : Bool} {p : Pk} {e : Es} {k ix : Int} {hd : Bool} {w : World} (h : En own pb eb mb ver s p e k ix hd w) {n a : Nat} (hle : e.Le n a 50000000) (_hn : n ≤ 100000) (_ha : a ≤ 100000) (num sec : Int) (text : ByteArray) (texts : Sl ByteArray) (hb : (⟨11, num, sec, text, texts⟩ : Bt).Ok) (_hT : Txt own w texts.A texts.l) :
    Calls Tryz.prog 27 #[.pointer (some ⟨eb, 0, none⟩), .agg #[.int .i64 11, .int .i64 num, .int .i64 sec, .string text, .slice texts.A texts.l.length texts.c]] w (Met own w (.bool false) fun o w' => En o pb eb mb ver s p (e.bit s ⟨11, num, sec, text, texts⟩) k ix hd w') := by
  obtain ⟨w0, hw0⟩ : ∃ w0, w0 = w.alloc (.cells #[.int .i64 11, .int .i64 num, .int .i64 sec, .string text, .slice texts.A texts.l.length texts.c] 41) := ⟨_, rfl⟩
  have b0 : Below w.heap.size w w0 := by rw [hw0]; exact Below.alloc (Below.refl _ _) (Nat.le_refl _) _
  have hds := hle.ds
  have hss := hle.ss
  have hrs := hle.rs
  have hnum := hb.num
  simp only at hnum
  have hl := hb.obj (.inr rfl)
  simp only at hl
  obtain ⟨u, hu⟩ : ∃ u : Nat, (u : Int) = num := ⟨num.toNat, by omega⟩
  subst hu
  have he : e.bit s ⟨11, (u : Int), sec, text, texts⟩ = e.put (sy s 7 ++ eU s u) := rfl
  rw [he]
  have B0 := Lib.hid b0
  have HW0 := Lib.hid hw0
  have HC := Lib.hid (encCodeVal_any (h.here b0) u (by omega) (by omega))
  clear h hb hle hds hss hrs b0 hw0
  go_enter Tryz.func27, Tryz.ntmps27
  go_wp2_with fail
  rw [← HW0.out]
  refine HC.out.mono ?_
  intro e' w1 k10
  obtain ⟨rfl, s1, k1⟩ := k10.after B0.out (fun _ _ h S => S.mono h)
  have S1 := Lib.hid s1
  have K1 := Lib.hid k1
  clear k10 s1 k1
  go_wp2_with fail
  go_ret
  exact ⟨rfl, S1.out, K1.out⟩
set_option maxRecDepth 100000 in
set_option maxHeartbeats 1000000 in
theorem write_12 {own : Nat → Prop} {pb eb mb : Nat} {ver : Int} {s : Bool} {p : Pk} {e : Es} {k ix : Int} {hd : Bool} {w : World} (h : En own pb eb mb ver s p e k ix hd w) {n a : Nat} (hle : e.Le n a 50000000) (_hn : n ≤ 100000) (_ha : a ≤ 100000) (num sec : Int) (text : ByteArray) (texts : Sl ByteArray) (hb : (⟨12, num, sec, text, texts⟩ : Bt).Ok) (_hT : Txt own w texts.A texts.l) :
    Calls Tryz.prog 27 #[.pointer (some ⟨eb, 0, none⟩), .agg #[.int .i64 12, .int .i64 num, .int .i64 sec, .string text, .slice texts.A texts.l.length texts.c]] w (Met own w (.bool false) fun o w' => En o pb eb mb ver s p (e.bit s ⟨12, num, sec, text, texts⟩) k ix hd w') := by
  obtain ⟨w0, hw0⟩ : ∃ w0, w0 = w.alloc (.cells #[.int .i64 12, .int .i64 num, .int .i64 sec, .string text, .slice texts.A texts.l.length texts.c] 41) := ⟨_, rfl⟩
  have b0 : Below w.heap.size w w0 := by rw [hw0]; exact Below.alloc (Below.refl _ _) (Nat.le_refl _) _
  have hds := hle.ds
  have hss := hle.ss
  have hrs := hle.rs
  have hnum := hb.num
  simp only at hnum
  have hl := hb.syn rfl
  simp only at hl
  obtain ⟨u, hu⟩ : ∃ u : Nat, (u : Int) = num := ⟨num.toNat, by omega⟩
  subst hu
  have he : e.bit s ⟨12, (u : Int), sec, text, texts⟩ = e.put (sy s u) := rfl
  rw [he]
  have B0 := Lib.hid b0
  have HW0 := Lib.hid hw0
  have HC := Lib.hid (sync_any (h.here b0) u (by omega) (by omega))
  clear h hb hle hds hss hrs b0 hw0
  go_enter Tryz.func27, Tryz.ntmps27
  go_wp2_with fail
  rw [← HW0.out]
  refine HC.out.mono ?_
  intro e' w1 k10
  obtain ⟨rfl, s1, k1⟩ := k10.after B0.out (fun _ _ h S => S.mono h)
  have S1 := Lib.hid s1
  have K1 := Lib.hid k1
  clear k10 s1 k1
  go_wp2_with fail
  go_ret
  exact ⟨rfl, S1.out, K1.out⟩
theorem write_any {own : Nat → Prop} {pb eb mb : Nat} {ver : Int} {s : Bool} {p : Pk} {e : Es} {k ix : Int} {hd : Bool} {w : World} (h : En own pb eb mb ver s p e k ix hd w) {n a : Nat} (hle : e.Le n a 50000000) (hn : n ≤ 100000) (ha : a ≤ 100000) (b : Bt) (hb : b.Ok) (hT : Txt own w b.texts.A b.texts.l) :
    Calls Tryz.prog 27 #[.pointer (some ⟨eb, 0, none⟩), .agg b.arr] w (Met own w (.bool (decide (b.kind = 0))) fun o w' => En o pb eb mb ver s p (if b.kind = 0 then e else e.bit s b) k ix hd w') := by
  obtain ⟨kind, num, sec, text, texts⟩ := b
  have hk := hb.kind
  simp only at hk
  have : kind = 0 ∨ kind = 1 ∨ kind = 2 ∨ kind = 3 ∨ kind = 4 ∨ kind = 5 ∨ kind = 6 ∨ kind = 7 ∨ kind = 8 ∨ kind = 9 ∨ kind = 10 ∨ kind = 11 ∨ kind = 12 := by omega
  rcases this with rfl | rfl | rfl | rfl | rfl | rfl | rfl | rfl | rfl | rfl | rfl | rfl | rfl
  · exact write_0 h hle hn ha num sec text texts hb hT
  · exact write_1 h hle hn ha num sec text texts hb hT
  · exact write_2 h hle hn ha num sec text texts hb hT
  · exact write_3 h hle hn ha num sec text texts hb hT
  · exact write_4 h hle hn ha num sec text texts hb hT
  · exact write_5 h hle hn ha num sec text texts hb hT
  · exact write_6 h hle hn ha num sec text texts hb hT
  · exact write_7 h hle hn ha num sec text texts hb hT
  · exact write_8 h hle hn ha num sec text texts hb hT
  · exact write_9 h hle hn ha num sec text texts hb hT
  · exact write_10 h hle hn ha num sec text texts hb hT
  · exact write_11 h hle hn ha num sec text texts hb hT
  · exact write_12 h hle hn ha num sec text texts hb hT
end Go.Proofs.YtedjadicdodahaaGreatDoor
