/- Steps of a writer. -/
import Derived.Lib.ConvBytes
import Derived.Test.YtnbojmciolecgaaDoorSlB
import Derived.Test.YtnbojmciolecgaaDoorRecs
import Derived.Test.YtnbojmciolecgaaDoorArgs
import Derived.Test.YtnbojmciolecgaaDoorOpen
namespace Go.Proofs.YtnbojmciolecgaaDoor
open Go.RowKit

/-- A step of a writer: its kind, its number, its text. -/
structure St where
  (kind num : Int)
  text : ByteArray
def St.cells (s : St) : List Value := [.int .i64 s.kind, .int .u64 s.num, .string s.text]
structure St.Ok (s : St) : Prop where
  k : -9223372036854775808 ≤ s.kind ∧ s.kind < 9223372036854775808
  n : 0 ≤ s.num ∧ s.num < 18446744073709551616
  t : s.text.size ≤ maxLen
/-- What a step writes. -/
def St.bytes (s : St) : List Int :=
  if s.kind = 0 then leN 1 s.num else if s.kind = 1 then leN 2 s.num else if s.kind = 2 then leN 4 s.num else if s.kind = 3 then leN 8 s.num else if s.kind = 4 ∨ s.kind = 5 then sbs s.text else []
abbrev stVal (k n : Int) (t : ByteArray) : Value := .agg #[.int .i64 k, .int .u64 n, .string t]
abbrev stCells (k n : Int) (t : ByteArray) : Array Value := #[.int .i64 k, .int .u64 n, .string t]

/-- The world behind []byte(s). -/
theorem below_bytes (w : World) (e : TypeId) (s : ByteArray) : Below w.heap.size w (Lib.bytesWorld w e s) := ⟨rfl, rfl, rfl, by rw [Lib.bytesWorld_size]; omega, fun k hk => Lib.bytesWorld_at_old w e s k hk⟩
theorem sli_bytes (w : World) (e : TypeId) (s : ByteArray) : SlI .u8 (Lib.bytesWorld w e s) (some ⟨w.heap.size, 0, none⟩) (sbs s) := fun _ => ⟨_, 0, rfl, fun j z hz => by
  simp only [sbs, List.getElem?_map, Option.map_eq_some_iff] at hz
  obtain ⟨b, hb, rfl⟩ := hz
  have hj : j < s.size := by have := (List.getElem?_eq_some_iff.1 hb).1; simpa using this
  rw [Nat.zero_add, Lib.bytesWorld_cell w e s j hj, List.getD_eq_getElem?_getD, hb]
  rfl⟩
theorem retB_text {w W w' : World} {e : Ending} {s : ByteArray} {g c : Nat} {T : TypeId} (hg : g = W.heap.size) (hc : c = grownCap W s.size 0 T) (he : e = .returned (.slice (some ⟨g, 0, none⟩) s.size c)) (hw : w' = Lib.bytesWorld W T s) (hb : Below w.heap.size w W) : RetB (sbs s) w e w' := by
  subst hg hc he hw
  exact ⟨_, _, by rw [sbs_length], sli_bytes _ _ s, by rw [sbs_length]; exact grownCap_ge _ _ _ _, below_from hb (below_bytes _ _ s)⟩
set_option maxHeartbeats 1000000 in
theorem stepBytes_any (s : St) (w : World) (h : s.Ok) (ht : s.text.size ≤ 1000) : Calls Tryd.prog 34 #[stVal s.kind s.num s.text] w (RetB s.bytes w) := by
  obtain ⟨k, n, t⟩ := s
  have hn := h.n
  simp only at hn ht
  have cv := fun (W : World) => Lib.run_convert_string_bytes (P := Tryd.prog) W 9 29 5 t Tryd.underlying9 Tryd.underlying29 Tryd.underlying5
  unfold stVal
  clear h
  by_cases h0 : k = 0
  · subst h0
    go_enter Tryd.func34, Tryd.ntmps34
    go_wp2_with fail
    refine (little_B n 1 _ hn.1 hn.2 (by omega)).mono ?_
    rintro e w1 ⟨A, c, rfl, h1, h2, hb⟩
    go_wp2_with fail
    go_ret
    exact ⟨A, c, rfl, h1, h2, below_from (by (repeat' (first | (with_reducible exact Below.refl _ _) | (with_reducible assumption) | (with_reducible refine below_drewN ?_ _) | (with_reducible refine Below.alloc ?_ ?_ _) | (with_reducible refine Below.drew ?_) | (with_reducible refine Below.setCell ?_ ?_ _) | go_size))) hb⟩
  by_cases h1 : k = 1
  · subst h1
    go_enter Tryd.func34, Tryd.ntmps34
    go_wp2_with fail
    refine (little_B n 2 _ hn.1 hn.2 (by omega)).mono ?_
    rintro e w1 ⟨A, c, rfl, h1, h2, hb⟩
    go_wp2_with fail
    go_ret
    exact ⟨A, c, rfl, h1, h2, below_from (by (repeat' (first | (with_reducible exact Below.refl _ _) | (with_reducible assumption) | (with_reducible refine below_drewN ?_ _) | (with_reducible refine Below.alloc ?_ ?_ _) | (with_reducible refine Below.drew ?_) | (with_reducible refine Below.setCell ?_ ?_ _) | go_size))) hb⟩
  by_cases h2 : k = 2
  · subst h2
    go_enter Tryd.func34, Tryd.ntmps34
    go_wp2_with fail
    refine (little_B n 4 _ hn.1 hn.2 (by omega)).mono ?_
    rintro e w1 ⟨A, c, rfl, h1, h2, hb⟩
    go_wp2_with fail
    go_ret
    exact ⟨A, c, rfl, h1, h2, below_from (by (repeat' (first | (with_reducible exact Below.refl _ _) | (with_reducible assumption) | (with_reducible refine below_drewN ?_ _) | (with_reducible refine Below.alloc ?_ ?_ _) | (with_reducible refine Below.drew ?_) | (with_reducible refine Below.setCell ?_ ?_ _) | go_size))) hb⟩
  by_cases h3 : k = 3
  · subst h3
    go_enter Tryd.func34, Tryd.ntmps34
    go_wp2_with fail
    refine (little_B n 8 _ hn.1 hn.2 (by omega)).mono ?_
    rintro e w1 ⟨A, c, rfl, h1, h2, hb⟩
    go_wp2_with fail
    go_ret
    exact ⟨A, c, rfl, h1, h2, below_from (by (repeat' (first | (with_reducible exact Below.refl _ _) | (with_reducible assumption) | (with_reducible refine below_drewN ?_ _) | (with_reducible refine Below.alloc ?_ ?_ _) | (with_reducible refine Below.drew ?_) | (with_reducible refine Below.setCell ?_ ?_ _) | go_size))) hb⟩
  by_cases h4 : k = 4
  · subst h4
    go_enter Tryd.func34, Tryd.ntmps34
    go_wp2_with fail
    go_ret
    exact retB_text (W := w.alloc _) (by simp) rfl rfl rfl (by (repeat' (first | (with_reducible exact Below.refl _ _) | (with_reducible assumption) | (with_reducible refine below_drewN ?_ _) | (with_reducible refine Below.alloc ?_ ?_ _) | (with_reducible refine Below.drew ?_) | (with_reducible refine Below.setCell ?_ ?_ _) | go_size)))
  · have e0 : (k == 0) = false := by simpa using h0
    have e1 : (k == 1) = false := by simpa using h1
    have e2 : (k == 2) = false := by simpa using h2
    have e3 : (k == 3) = false := by simpa using h3
    have e4 : (k == 4) = false := by simpa using h4
    by_cases h5 : k = 5
    · subst h5
      go_enter Tryd.func34, Tryd.ntmps34
      go_wp2_with fail
      go_ret
      exact retB_text (W := w.alloc _) (by simp) rfl rfl rfl (by (repeat' (first | (with_reducible exact Below.refl _ _) | (with_reducible assumption) | (with_reducible refine below_drewN ?_ _) | (with_reducible refine Below.alloc ?_ ?_ _) | (with_reducible refine Below.drew ?_) | (with_reducible refine Below.setCell ?_ ?_ _) | go_size)))
    · have e5 : (k == 5) = false := by simpa using h5
      go_enter Tryd.func34, Tryd.ntmps34
      go_wp2_with fail
      go_ret
      refine ⟨none, 0, ?_, ?_, ?_, by (repeat' (first | (with_reducible exact Below.refl _ _) | (with_reducible assumption) | (with_reducible refine below_drewN ?_ _) | (with_reducible refine Below.alloc ?_ ?_ _) | (with_reducible refine Below.drew ?_) | (with_reducible refine Below.setCell ?_ ?_ _) | go_size))⟩
      · simp [St.bytes, h0, h1, h2, h3, h4, h5]
      · simp [St.bytes, h0, h1, h2, h3, h4, h5]; exact SlI.nil _ _ _
      · simp [St.bytes, h0, h1, h2, h3, h4, h5]
end Go.Proofs.YtnbojmciolecgaaDoor
