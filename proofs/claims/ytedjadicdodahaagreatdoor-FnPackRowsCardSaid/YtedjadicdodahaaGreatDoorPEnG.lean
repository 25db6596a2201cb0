/- A package's encoder: a new element's encoder. -/
import Derived.Test.YtedjadicdodahaaGreatDoorPEnF
namespace Go.Proofs.YtedjadicdodahaaGreatDoor
open Go.RowKit Go.Maps

/-- A section has grown by a placeholder. -/
theorem PkSt.secNew {own : Nat → Prop} {pb mb : Nat} {ver sf : Int} {p : Pk} {w : World} (h : PkSt own pb mb ver sf p w) {f : Nat → Value} (hb : Blk w pb 58 (pkArr ver f mb sf)) (hr : ∀ k, k < 10 → Row own 9 1 (f k) (p k).length ((p k).map Value.string) w)
    (hd : ∀ j k, j < 10 → k < 10 → j ≠ k → ∀ g, (f j).ownBlock = some g → (f k).ownBlock ≠ some g) (i : Nat) (hi : i < 10) (hi0 : i ≠ 0) (t : ByteArray) (n : Nat) (hn : n = (p i).length) {A0 : Option Addr} {C0 : Nat} (hf : f i = .slice A0 n C0)
    {wa : World} (hwa : Below w.heap.size w wa) (A2 : Option Addr) (C2 : Nat) (w3 : World)
    (hrow : Row (grow own wa) 9 1 (.slice A2 (n + 1) C2) (n + 1) ((p i).map Value.string ++ [.string t]) w3) (hg : wa.grownBy w3 (Value.slice A0 n C0).ownBlock) (hvn : ∀ g, (Value.slice A2 (n + 1) C2).ownBlock = some g → (Value.slice A0 n C0).ownBlock = some g ∨ wa.heap.size ≤ g) :
    PkSt (grow own w) pb mb ver sf (fun k => if k = i then p i ++ [t] else p k) (w3.setCell ⟨pb, 1 + i, none⟩ (.slice A2 (n + 1) C2)) ∧ Kp own w (w3.setCell ⟨pb, 1 + i, none⟩ (.slice A2 (n + 1) C2)) := by
  have hbl := hb.lt
  have hml := h.map.lt
  have hmp : mb ≠ pb := h.map.ne hb.tag
  have hmr : ∀ g, (f i).ownBlock = some g → g ≠ mb ∧ g ≠ pb := fun g hg => by
    have h1 := (hr i hi).tag hg
    refine ⟨fun e => ?_, fun e => ?_⟩
    · rw [e, h.map.tag] at h1
      cases h1
    · rw [e, hb.tag] at h1
      exact absurd h1 (by decide)
  rw [← hf] at hg hvn
  have fa : Fr (pb :: (f i).ownBlock.toList) w w3 := (Fr.of_below hwa).trans (fr_of_grown (G := (f i).ownBlock.toList) hg (by simp)) (fun j hj => .inl (by simp at hj ⊢; exact .inr hj))
  have f4 := fa.setCell (p := ⟨pb, 1 + i, none⟩) (.inl (by simp)) (.slice A2 (n + 1) C2)
  have hb3 : Blk w3 pb 58 (pkArr ver f mb sf) := (hb.here hwa).grown hg (fun e => (hmr pb e).2 rfl)
  have hb4 := hb3.set_ (1 + i) (.slice A2 (n + 1) C2)
  have hv2 : ∀ g, (Value.slice A2 (n + 1) C2).ownBlock = some g → (f i).ownBlock = some g ∨ w.heap.size ≤ g := fun g hg => (hvn g hg).imp id (Nat.le_trans hwa.size)
  have hne : ∀ g, (Value.slice A2 (n + 1) C2).ownBlock = some g → g ≠ pb := fun g hg => by
    rcases hv2 g hg with h1 | h1
    · exact (hmr g h1).2
    · omega
  have hr4 : Row (grow own wa) 9 1 (.slice A2 (n + 1) C2) (n + 1) ((p i).map Value.string ++ [.string t]) (w3.setCell ⟨pb, 1 + i, none⟩ (.slice A2 (n + 1) C2)) :=
    hrow.fr (G := [pb]) ((Fr.refl _ _).setCell (.inl (by simp)) _) (fun g hg => by simpa using hne g hg)
  have hm4 : MapK 9 67 .i32 Value.string mb (p 0).length (placeT (p 0)) (w3.setCell ⟨pb, 1 + i, none⟩ (.slice A2 (n + 1) C2)) := h.map.fr f4 (by
    simp only [List.mem_cons, Option.mem_toList, not_or]
    exact ⟨hmp, fun e => (hmr mb e).1 rfl⟩)
  obtain ⟨q1, G, q2, q3⟩ := h.grew hb hr hd i hi t (.slice A2 (n + 1) C2) f4 (fun g hg => by
      simp only [List.mem_cons, Option.mem_toList] at hg
      rcases hg with rfl | hg
      · exact .inl rfl
      · exact .inr (.inr hg)) hb4 (by rw [← hn]; exact hr4.mono (grow_le hwa.size)) hv2 (by
      rw [if_neg (fun e => hi0 e.symm)]
      exact hm4)
  exact ⟨q1, Kp.of_fr q2 fun g hg => .inl (q3 g hg).1⟩
/-- A new element's encoder. -/
theorem En.new {own : Nat → Prop} {pb mb : Nat} {ver : Int} {s : Bool} {p : Pk} {w : World} (h : PkSt own pb mb ver (sfI s) p w) (k idx : Int) :
    En (grow own w) pb w.heap.size mb ver s p ⟨p 0, [], []⟩ k idx false (w.alloc (.cells #[.pointer (some ⟨pb, 0, none⟩), .slice none 0 0, .map none, .slice none 0 0, .int .i64 0, .int .i8 0, .bool false, .int .i32 k, .int .i32 idx] 122)) := by
  have hp : withS p (p 0) = p := by
    funext j
    show (if j = 0 then p 0 else p j) = p j
    by_cases hj : j = 0
    · rw [if_pos hj, hj]
    · rw [if_neg hj]
  refine ⟨?_, .inr (Nat.le_refl _), [], .slice none 0 0, .map none, ?_, by simp, Row.nil _ _ _ _, .inl ⟨rfl, rfl⟩⟩
  · show PkSt _ _ _ _ _ (withS p (p 0)) _
    rw [hp]
    exact (h.here (Below.alloc (Below.refl _ _) (Nat.le_refl _) _)).mono (grow_of own w)
  · refine Bf.new (lr := 0) ⟨_, Blk.new w _ _, rfl, rfl, rfl, fun i hi => ?_⟩
    match i, hi with
    | 0, _ | 1, _ | 2, _ | 6, _ | 7, _ | 8, _ => rfl
    | 3, hi | 4, hi | 5, hi => omega
    | i + 9, _ => rfl
set_option maxRecDepth 100000 in
set_option maxHeartbeats 2000000 in
theorem newEncoderRaw_any {own : Nat → Prop} {pb mb : Nat} {ver : Int} {s : Bool} {p : Pk} {w : World} (h : PkSt own pb mb ver (sfI s) p w) (k : Nat) (hk : k < 10) (hk0 : k ≠ 0) (hn : (p k).length ≤ 1000000) :
    Calls Tryz.prog 49 #[.pointer (some ⟨pb, 0, none⟩), .int .i32 k] w fun e w' => ∃ eb, e = .returned (.pointer (some ⟨eb, 0, none⟩)) ∧ w.heap.size ≤ eb ∧ En (grow own w) pb eb mb ver s (fun j => if j = k then p k ++ [⟨#[]⟩] else p j) ⟨p 0, [], []⟩ k ((p k).length : Nat) false w' ∧ Kp own w w' := by
  obtain ⟨f, hb, hr, hd⟩ := h.is
  obtain ⟨A0, C0, hf0, hc0⟩ := own_slice (hr k hk).row
  have hR0 := hr k hk
  rw [hf0] at hR0
  obtain ⟨i0, hj, jz0, jz1, jz2⟩ := info_parts Tryz.infoStr
  obtain ⟨n, hln⟩ : ∃ n, n = (p k).length := ⟨_, rfl⟩
  rw [← hln] at hf0 hn hR0 ⊢
  have c1 : w.cell? ⟨pb, 1 + k, none⟩ = some (.slice A0 n C0) := by rw [hb.cell, pkArr_at _ _ _ _ _ hk, hf0]
  have f1 := hb.frozen (1 + k)
  have m0 : (n : Int) < 2147483648 := by omega
  have m1 : (0 : Int) ≤ n := by omega
  have k0 : (0 : Int) ≤ k := by omega
  have k1 : (k : Int) < 10 := by omega
  have R0 := Lib.hid hR0
  have HB := Lib.hid hb
  have O2 := Lib.hid (show n + 1 ≤ maxLen from by unfold maxLen; omega)
  have O3 := Lib.hid (show (n + 1) * 16 ≤ 140737488355328 from by omega)
  have pz := hb.lt
  have WA := Lib.hid (show Below w.heap.size w (w.drew.alloc (.cells #[.string ⟨#[]⟩] 9)) from Below.alloc (Below.drew (Below.refl _ _)) (Nat.le_refl _) _)
  have RA := Lib.hid (R0.out.here WA.out)
  have BA := Lib.hid (hb.here WA.out)
  have NP := Lib.hid (show (Value.slice A0 n C0).ownBlock ≠ some pb from fun h' => by
    have h9 := R0.out.tag h'
    rw [HB.out.tag] at h9
    exact absurd h9 (by decide))
  have SRC := Lib.hid (show 0 < 1 → ∃ ad, some (⟨w.heap.size, 0, none⟩ : Addr) = some ad ∧ ∀ j u, ([.string ⟨#[]⟩] : List Value)[j]? = some u → (w.drew.alloc (.cells #[.string ⟨#[]⟩] 9)).cell? (ad.add j) = some u from
    src_new w.drew 9 #[.string ⟨#[]⟩] [.string ⟨#[]⟩] rfl 1 _ (Below.refl _ _))
  have KK := Lib.hid (PkSt.secNew (A0 := A0) (C0 := C0) h hb hr hd k hk hk0 ⟨#[]⟩ n hln hf0 WA.out)
  have O1 := Lib.hid (show ∀ u ∈ ([.string ⟨#[]⟩] : List Value), u.oneCell' = true from by simp [Value.oneCell'])
  have HP0 := Lib.hid (show (if (0 : Nat) = k then p k ++ [⟨#[]⟩] else p 0) = p 0 from if_neg (fun e => hk0 e.symm))
  clear h hb hr hd hf0 hR0 hln
  go_enter Tryz.func49, Tryz.ntmps49
  go_wp2_with fail
  go_region_law (first
      | (refine step_append_row (by rfl) _ _ 39 (by rfl) own 9 i0 _ 1 16 Tryz.underlying39 hj jz0 jz1 jz2 (by rfl) (by decide) (.slice A0 n C0) n _ (by rfl) RA.out _ 1 1 [.string ⟨#[]⟩] (by rfl) rfl SRC.out O1.out O2.out O3.out ?_; intro A2 C2 w3 hown2 hgrow2 hnew2; have x3 := (BA.out).grown hgrow2 NP.out; have x3c := (x3.cell (1 + k)).trans (pkArr_at _ _ _ _ _ hk); have x3f := x3.frozen (1 + k))
      | (go_simp; fail))
  all_goals
    obtain ⟨q1, q2⟩ := KK.out A2 C2 w3 hown2 hgrow2 hnew2
    obtain ⟨w4, hw4⟩ : ∃ w4, w4 = w3.setCell ⟨pb, 1 + k, none⟩ (.slice A2 (n + 1) C2) := ⟨_, rfl⟩
    rw [← hw4] at q1 q2 ⊢
    have EN := Lib.hid ((En.new q1 k n).mono (grow_grow q2.size))
    have KP := Lib.hid (q2.alloc (.cells #[.pointer (some ⟨pb, 0, none⟩), .slice none 0 0, .map none, .slice none 0 0, .int .i64 0, .int .i8 0, .bool false, .int .i32 k, .int .i32 n] 122))
    have SZ := Lib.hid q2.size
    rw [HP0.out] at EN
    clear hw4 q1 q2 x3 x3c x3f hown2 hgrow2 hnew2
    go_wp2_with fail
    go_ret
    exact ⟨w4.heap.size, rfl, SZ.out, EN.out, KP.out⟩
set_option maxRecDepth 100000 in
set_option maxHeartbeats 2000000 in
theorem newEncoder_any {own : Nat → Prop} {pb mb : Nat} {ver : Int} {s : Bool} {p : Pk} {w : World} (h : PkSt own pb mb ver (sfI s) p w) (k m : Nat) (hk : k < 10) (hk0 : k ≠ 0) (hn : (p k).length ≤ 1000000) (hm : m < 1000) :
    Calls Tryz.prog 26 #[.pointer (some ⟨pb, 0, none⟩), .int .i32 k, .int .i64 m] w fun e w' => ∃ eb, e = .returned (.pointer (some ⟨eb, 0, none⟩)) ∧ w.heap.size ≤ eb ∧ En (grow own w) pb eb mb ver s (fun j => if j = k then p k ++ [⟨#[]⟩] else p j) ⟨p 0, [], sy s m⟩ k ((p k).length : Nat) false w' ∧ Kp own w w' := by
  have H := Lib.hid (newEncoderRaw_any h k hk hk0 hn)
  clear h
  go_enter Tryz.func26, Tryz.ntmps26
  go_wp2_with fail
  refine H.out.mono ?_
  rintro e w1 ⟨eb, rfl, hz, h1, k1⟩
  have H1 := Lib.hid h1
  have K1 := Lib.hid k1
  clear h1 k1
  go_wp2_with fail
  refine (sync_any H1.out m hm (by simp)).mono ?_
  intro e w2 k20
  obtain ⟨rfl, s2, k2⟩ := k20.from K1.out (fun _ _ h S => S.mono h)
  have S2 := Lib.hid s2
  have K2 := Lib.hid k2
  clear k20 s2 k2
  go_wp2_with fail
  go_ret
  exact ⟨eb, rfl, hz, S2.out, K2.out⟩
end Go.Proofs.YtedjadicdodahaaGreatDoor
