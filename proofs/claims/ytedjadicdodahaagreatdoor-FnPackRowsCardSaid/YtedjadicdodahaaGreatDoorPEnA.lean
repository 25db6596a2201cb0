/- An element's encoder: numbers, markers. -/
import Derived.Deep.RegionWith
import Derived.Deep.RegionHeld3
import Derived.Test.YtedjadicdodahaaGreatDoorShelfB
import Derived.Test.YtedjadicdodahaaGreatDoorPEn
import Derived.Lib.EndianMore
import Derived.Lib.Zigzag
namespace Go.Proofs.YtedjadicdodahaaGreatDoor
open Go.RowKit

theorem fr_setCells {G : List Nat} {a : World} {g : Nat} (hg : g ∈ G ∨ a.heap.size ≤ g) : ∀ (vs : List Value) (o : Nat) (w : World), Fr G a w → Fr G a (w.setCells g o vs)
  | [], _, _, h => h
  | v :: r, o, w, h => fr_setCells hg r (o + 1) (w.setCell ⟨g, o, none⟩ v) (h.setCell (p := ⟨g, o, none⟩) hg v)
section
variable {own : Nat → Prop} {pb eb mb : Nat} {ver : Int} {s : Bool} {p : Pk} {e : Es} {k idx : Int} {hd : Bool} {w w' : World}
/-- Bytes have been written behind. -/
theorem En.wrote (h : En own pb eb mb ver s p e k idx hd w) {F F' : List Nat} {rs rm : Value} {b : List UInt8} (hF : ∀ g ∈ F, own g ∧ tag w g = some 5) (h3 : Row own 131 2 rs e.rs.length (refCells e.rs) w) (h4 : RelM own mb rm e.rs w)
    (hb : Bf 122 (encR pb rs rm k idx hd) eb 3 F' b w') (hs : Stp (eb :: F) w (eb :: F') w') : En (grow own w) pb eb mb ver s p ⟨e.ss, e.rs, b⟩ k idx hd w' ∧ Kp own w w' := by
  have ht : ∀ g ∈ eb :: F, tag w g = some 5 ∨ tag w g = some 122 := fun g hg => by
    rcases List.mem_cons.1 hg with rfl | hg
    · exact .inr h.en.tag
    · exact .inl (hF g hg).2
  have ho : ∀ g ∈ eb :: F, own g := fun g hg => by
    rcases List.mem_cons.1 hg with rfl | hg
    · exact h.en.low
    · exact (hF g hg).1
  refine ⟨⟨?_, ?_⟩, Kp.of_fr hs.fr fun g hg => .inl (ho g hg)⟩
  · refine (h.pk.fr hs.fr fun g hg => .inl ?_).mono (grow_of own w)
    rcases ht g hg with h | h
    · exact ⟨_, h, by decide, by decide⟩
    · exact ⟨_, h, by decide, by decide⟩
  · obtain ⟨F2, hF2, hb2⟩ := hb.tight2
    refine ⟨.inl h.en.low, F2, rs, rm, hb2, fun g hg => ⟨?_, (hF2 g hg).2⟩, (h3.frt hs.fr fun g hg h' => ?_).mono (grow_of own w), (h4.fr hs.fr fun g hg => .inr fun h' => ?_).mono (grow_of own w)⟩
    · rcases hs.grow g (List.mem_cons_of_mem _ (hF2 g hg).1) with h1 | h1
      · exact .inl (ho g h1)
      · exact .inr h1
    · rcases ht g hg with h | h
      · rw [h] at h'
        exact absurd h' (by decide)
      · rw [h] at h'
        exact absurd h' (by decide)
    · rcases ht g hg with h | h
      · rw [h] at h'
        cases h'
      · rw [h] at h'
        cases h'
end
theorem checkErr_nil (b : Nat) (w : World) : Calls Tryz.prog 61 #[.pointer (some ⟨b, 0, none⟩), .nilIface] w (RetQ (.tuple #[]) w) := by
  go_enter Tryz.func61, Tryz.ntmps61
  go_wp2
  go_end0
  exact ⟨rfl, 0, rfl⟩
theorem encSyncMarkers_any {own : Nat → Prop} {pb mb : Nat} {ver : Int} {s : Bool} {p : Pk} {w : World} (h : PkSt own pb mb ver (sfI s) p w) : Calls Tryz.prog 70 #[.pointer (some ⟨pb, 0, none⟩)] w (RetQ (.bool s) w) := by
  obtain ⟨f, hb, _⟩ := h.is
  have c12 := hb.cell 12
  cases s
  · go_enter Tryz.func70, Tryz.ntmps70
    go_wp2
    go_ret
    exact ⟨rfl, 0, rfl⟩
  · go_enter Tryz.func70, Tryz.ntmps70
    go_wp2
    go_ret
    exact ⟨rfl, 0, rfl⟩
abbrev ArrU8 : Array Value := #[.int .u8 0, .int .u8 0, .int .u8 0, .int .u8 0, .int .u8 0, .int .u8 0, .int .u8 0, .int .u8 0, .int .u8 0, .int .u8 0]
set_option maxRecDepth 100000 in
set_option maxHeartbeats 2000000 in
theorem rawUvarint_any {own : Nat → Prop} {pb eb mb : Nat} {ver : Int} {s : Bool} {p : Pk} {e : Es} {k idx : Int} {hd : Bool} {w : World} (h : En own pb eb mb ver s p e k idx hd w) (x : Nat) (hx : x < 18446744073709551616) (hl : e.ds.length ≤ 100000000) :
    Calls Tryz.prog 89 #[.pointer (some ⟨eb, 0, none⟩), .int .u64 x] w (Met own w (.tuple #[]) fun o w' => En o pb eb mb ver s p (e.put (uv x)) k idx hd w') := by
  obtain ⟨w0, hw0⟩ : ∃ w0, w0 = w.alloc (.cells ArrU8 195) := ⟨_, rfl⟩
  have hlen := uv_len hx
  have hpos := Lib.uvarint_pos x
  have B0 := Lib.hid (show Blk w0 w.heap.size 195 ArrU8 from by rw [hw0]; exact Blk.new _ _ _)
  have hcell : ∀ j, j < (uv x).length → (w0.cell? ⟨w.heap.size, 0 + j, none⟩).isSome = true ∧ w0.frozen? ⟨w.heap.size, 0 + j, none⟩ = false := fun j hj => by
    rw [B0.out.cell, B0.out.frozen]
    refine ⟨?_, rfl⟩
    rw [Array.getElem?_eq_getElem (by show 0 + j < 10; omega)]
    rfl
  obtain ⟨w1, hw1⟩ : ∃ w1, w1 = w0.setCells w.heap.size 0 (Lib.byteCells (uv x)) := ⟨_, rfl⟩
  obtain ⟨n, hn⟩ : ∃ n, n = (uv x).length := ⟨_, rfl⟩
  have HC := Lib.hid (show Calls Tryz.prog 105 #[.slice (some ⟨w.heap.size, 0, none⟩) 10 10, .int .u64 x] w0 (fun e w' => e = .returned (.int .i64 n) ∧ w' = w1) from
    (Tryz.binary_PutUvarint w.heap.size 0 10 10 x hx w0 (by omega) hcell).mono fun _ _ ⟨h1, h2⟩ => ⟨by rw [h1, hn], by rw [h2, hw1]⟩)
  have L1 := Lib.hid (show Below w.heap.size w w1.drew from by
    refine Below.drew ?_
    rw [hw1]
    exact (fr_setCells (G := []) (.inr (Nat.le_refl _)) _ _ _ (by rw [hw0]; exact (Fr.refl _ _).alloc _)).below)
  have hsrc : ∀ j v, (Lib.byteCells (uv x))[j]? = some v → w1.drew.cell? ((⟨w.heap.size, 0, none⟩ : Addr).add j) = some v := fun j v hj => by
    show w1.cell? _ = _
    rw [Lib.addr_add, hw1, World.cell?_setCells_in _ _ _ _ (fun i hi => (hcell i (by rw [byteCells_length] at hi; exact hi)).1) j (List.getElem?_eq_some_iff.1 hj).1]
    exact congrArg some (List.getElem?_eq_some_iff.1 hj).2
  have HW := Lib.hid hw0
  have HW1 := Lib.hid hw1
  have H := Lib.hid h
  have H1 := h.here L1.out
  obtain ⟨F, rs, rm, hb, hF, h3, h4⟩ := H1.en.is
  have hne : w.heap.size ≠ eb := by have := (Bf.lt (h.en.is.choose_spec.choose_spec.choose_spec.1)); omega
  have HWr := Lib.hid (buf_Write _ _ eb 3 F e.ds (uv x) ⟨w.heap.size, 0, none⟩ (uv x).length 10 w1.drew hb rfl hpos hne hsrc (by omega))
  have K := Lib.hid (fun (e' : Ending) (w2 : World) (hp : Bput 122 (encR pb rs rm k idx hd) eb 3 F (e.ds ++ uv x) (.tuple #[.int .i64 (uv x).length, .nilIface]) w1.drew e' w2) => show e' = .returned (.tuple #[.int .i64 (uv x).length, .nilIface]) ∧ En (grow own w) pb eb mb ver s p (e.put (uv x)) k idx hd w2 ∧ Kp own w w2 from by
    obtain ⟨r, F', r1, r2⟩ := hp
    obtain ⟨q1, q2⟩ := H1.wrote hF h3 h4 r1 r2
    exact ⟨r, q1.mono (grow_le L1.out.size), (Kp.of_below L1.out).trans' q2⟩)
  rw [← hn] at HWr K
  have hlen' : n ≤ 10 := by omega
  have hpos' : 1 ≤ n := by rw [hn]; exact hpos
  have n0 : (1 : Int) ≤ n := by omega
  have n1 : (n : Int) ≤ 10 := by omega
  clear hlen hpos hw0 hw1 hn hcell hsrc h H1 hb hF h3 h4
  go_enter Tryz.func89, Tryz.ntmps89
  go_wp2_with fail
  rw [← HW.out]
  refine HC.out.mono ?_
  rintro e w2 ⟨rfl, rfl⟩
  go_wp2_with fail
  go_region_held3 (fun _ => True) (first | trivial | go_keep)
    (first | (go_at_call 106; refine (HWr.out).mono ?_; intro e w3 hp; obtain ⟨rfl, e3, k3⟩ := K.out e w3 hp; have E3 := Lib.hid e3; have K3 := Lib.hid k3; clear hp e3 k3))
  go_wp2_with (go_at_call 61; refine (checkErr_nil _ _).mono ?_; rintro e w4 ⟨rfl, n4, rfl⟩)
  go_end0
  exact ⟨rfl, E3.out.here (below_drewN (Below.refl _ _) n4), K3.out.drewN n4⟩
set_option maxRecDepth 100000 in
theorem sync_any {own : Nat → Prop} {pb eb mb : Nat} {ver : Int} {s : Bool} {p : Pk} {e : Es} {k idx : Int} {hd : Bool} {w : World} (h : En own pb eb mb ver s p e k idx hd w) (m : Nat) (hm : m < 1000) (hl : e.ds.length ≤ 90000000) :
    Calls Tryz.prog 50 #[.pointer (some ⟨eb, 0, none⟩), .int .i64 m] w (Met own w (.tuple #[]) fun o w' => En o pb eb mb ver s p (e.put (sy s m)) k idx hd w') := by
  obtain ⟨F, rs, rm, hb, _⟩ := h.en.is
  have c0 : w.cell? ⟨eb, 0, none⟩ = some (.pointer (some ⟨pb, 0, none⟩)) := hb.rest 0 (.inl (by omega))
  have H := Lib.hid h
  have HP := Lib.hid h.pk
  clear h hb
  cases s
  · go_enter Tryz.func50, Tryz.ntmps50
    go_wp2_with (go_at_call 70; refine (encSyncMarkers_any HP.out).mono ?_; rintro e w1 ⟨rfl, n1, rfl⟩)
    go_end0
    have e0 : e.put (sy false m) = e := by simp [Es.put, sy]
    rw [e0]
    exact ⟨rfl, (H.out.here (below_drewN (Below.refl _ _) n1)).mono (grow_of own w), (Kp.refl own w).drewN n1⟩
  · have m0 : (0 : Int) ≤ m := by omega
    have m1 : (m : Int) < 1000 := by omega
    go_enter Tryz.func50, Tryz.ntmps50
    go_wp2_with (go_at_call 70; refine (encSyncMarkers_any HP.out).mono ?_; rintro e w1 ⟨rfl, n1, rfl⟩)
    refine (rawUvarint_any (H.out.here (below_drewN (Below.refl _ _) n1)) m (by omega) (by omega)).mono ?_
    rintro e' w2 ⟨rfl, s2, k2⟩
    have S2 := Lib.hid (s2.mono (own' := grow own w) fun _ h => h)
    have K2 := Lib.hid (((Kp.refl own w).drewN n1).trans' k2)
    clear s2 k2 c0
    go_wp2_with fail
    have h3 : (e.put (uv m)).ds.length ≤ 100000000 := by
      show (e.ds ++ uv m).length ≤ _
      have := uv_len (x := m) (by omega)
      rw [List.length_append]
      omega
    refine (rawUvarint_any S2.out 0 (by decide) h3).mono ?_
    intro e' w3 k30
    obtain ⟨rfl, s3, k3⟩ := k30.from K2.out (fun _ _ h S => S.mono h)
    have S3 := Lib.hid s3
    have K3 := Lib.hid k3
    clear k30 s3 k3
    go_wp2_with fail
    go_loopw [6, 24] (fun _ i wr => i = .int .i64 0 ∧ wr = w3) (fun _ _ _ => 0)
    case atStart => exact ⟨rfl, rfl⟩
    case round =>
      obtain ⟨rfl, rfl⟩ := hrel
      go_wp2_with fail
      go_end0
      have e0 : e.put (sy true m) = (e.put (uv m)).put (uv 0) := by simp [Es.put, sy]
      rw [e0]
      exact ⟨rfl, S3.out, K3.out⟩
end Go.Proofs.YtedjadicdodahaaGreatDoor
