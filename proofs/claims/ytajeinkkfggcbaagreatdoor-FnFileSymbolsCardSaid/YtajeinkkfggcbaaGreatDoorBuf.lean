/- A buffer and a writer of the call's own: made, told. -/
import Derived.Test.YtajeinkkfggcbaaGreatDoorWr
import Derived.Test.YtajeinkkfggcbaaGreatDoorSpecB
namespace Go.Proofs.YtajeinkkfggcbaaGreatDoor
open Go.RowKit

/-- A buffer of the call's own that holds the bytes xs. -/
abbrev IsBuf (B b : Nat) (xs : List Int) (w : World) : Prop := LibA.IsBuffer 72 (fun _ => none) 5 B b 0 (bcs xs) w

theorem isBuf_new {B b : Nat} {w : World} {lr : Int} (hB : B ≤ b) (h : Blk w b 72 #[.slice none 0 0, .int .i64 0, .int .i8 lr]) : IsBuf B b [] w :=
  LibA.zero_isBuffer hB (LibA.three_whole h)

theorem buffer_Bytes (B b : Nat) (xs : List Int) (w : World) (h : IsBuf B b xs w) :
    Calls Tryz.prog 21 #[.pointer (some ⟨b, 0, none⟩)] w fun e w' => ∃ A c, e = .returned (.slice A xs.length c) ∧ SlI .u8 w' A xs ∧ xs.length ≤ c ∧ ∃ n, w' = w.drewN n := by
  obtain ⟨_, lr, h | h⟩ := h.cases
  · obtain ⟨h0, h3⟩ := h
    have hx : xs = [] := by simpa [bcs] using h0
    subst hx
    have c0 := h3.c0
    have c1 := h3.c1
    clear h3 h0 h
    go_enter Tryz.func21, Tryz.ntmps21
    go_wp2_with fail
    go_quiet (fail)
    go_wp2
    go_ret
    exact ⟨_, _, rfl, SlI.nil _ _ _, by simp, _, rfl⟩
  · obtain ⟨g, cap, cur, h3, _, hg, hl, hm, hs, ht, _⟩ := h
    have hn : (bcs xs).length = xs.length := bcs_length xs
    rw [hn] at h3 hl ht
    have c0 := h3.c0
    have c1 := h3.c1
    have hsl : SlI .u8 w (some ⟨g, 0, none⟩) xs := fun _ => ⟨g, 0, rfl, fun j z hz => by
      have h1 : (bcs xs)[j]? = some (.int .u8 z) := by simp [bcs, hz]
      have hj : j < xs.length := (List.getElem?_eq_some_iff.1 hz).1
      rw [← ht, List.getElem?_take, if_pos hj] at h1
      rw [cell_of_row w g (0 + j) cur _ (0, 0) hg, Nat.zero_add, ← Array.getElem?_toList]
      exact h1⟩
    have HS := Lib.hid hsl
    have i0 : (0 : Int) ≤ xs.length := by omega
    have i1 : (xs.length : Int) ≤ cap := by omega
    clear h3 hg hs ht hsl h hn
    go_enter Tryz.func21, Tryz.ntmps21
    go_wp2_with fail
    go_quiet (fail)
    go_wp2
    go_ret
    exact ⟨_, _, rfl, HS.out.heap rfl, hl, _, rfl⟩

theorem newWriter_any (B b : Nat) (xs : List Int) (w : World) (h : IsBuf B b xs w) (hx : xs = []) : Calls Tryz.prog 17 #[.pointer (some ⟨b, 0, none⟩)] w fun e w' => ∃ wb mb, e = .returned (.pointer (some ⟨wb, 0, none⟩)) ∧ IsWriter B wb b mb [] w' ∧ w.heap.size ≤ wb ∧ Below w.heap.size w w' := by
  subst hx
  have hmm := @run_makeMap Tryz.prog
  go_enter Tryz.func17, Tryz.ntmps17
  go_wp2
  go_ret
  have hb : Below w.heap.size w ((w.alloc (.map #[] 0)).alloc (.cells #[.pointer (some ⟨b, 0, none⟩), .map (some w.heap.size), .int .u32 0, .int .u8 0, .int .u8 0, .int .u8 0, .int .u8 0, .int .u8 0, .int .u8 0, .int .u8 0, .int .u8 0] 100)) := by (repeat' (first | (with_reducible exact Below.refl _ _) | (with_reducible assumption) | (with_reducible refine below_drewN ?_ _) | (with_reducible refine Below.alloc ?_ ?_ _) | (with_reducible refine Below.drew ?_) | (with_reducible refine Below.setCell ?_ ?_ _) | go_size))
  exact ⟨_, w.heap.size, rfl, ⟨by have := h.lt; have := h.1; omega, ⟨_, _, _, _, _, _, _, _, by simpa using Blk.new1 w _ _ _⟩, isBuffer_fr h (Fr.of_below (gs := []) hb) (by simp) (by simp)⟩, by omega, hb⟩
end Go.Proofs.YtajeinkkfggcbaaGreatDoor
