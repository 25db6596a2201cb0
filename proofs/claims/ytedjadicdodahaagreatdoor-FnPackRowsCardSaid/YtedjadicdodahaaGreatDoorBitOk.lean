/- Whether a bit can be written: the walk of spec.BitOk. -/
import Derived.Test.YtedjadicdodahaaGreatDoorMem
namespace Go.Proofs.YtedjadicdodahaaGreatDoor
open Go.RowKit

def within (x l m : Int) : Bool := decide (l ≤ x) && decide (x ≤ m)
def bitOk (k n s : Int) : Bool :=
  if k = 3 then decide (0 ≤ n) else if k = 8 then within s 0 9 && within n 0 2147483647 else if k = 9 ∨ k = 11 then within n 0 5 else if k = 10 then within n 0 11 else if k = 12 then within n 1 60 else within k 0 12

theorem within_any (x l m : Int) (w : World) : Calls Tryz.prog 88 #[.int .i64 x, .int .i64 l, .int .i64 m] w fun e w' => e = .returned (.bool (within x l m)) ∧ w' = w := by
  unfold within
  by_cases h1 : l ≤ x <;> by_cases h2 : x ≤ m
  all_goals
    go_enter Tryz.func88, Tryz.ntmps88
    go_wp2
    go_ret
    exact ⟨by simp [h1, h2], rfl⟩

section
variable (k n s : Int) (x y : Value) (w : World)
theorem bitOk_any : Calls Tryz.prog 47 #[.agg #[.int .i64 k, .int .i64 n, .int .i64 s, x, y]] w (RetV (.bool (bitOk k n s)) w) := by
  by_cases h3 : k = 3
  · subst h3
    go_enter Tryz.func47, Tryz.ntmps47
    go_wp2
    go_ret
    exact ⟨by simp [bitOk], by (repeat' (first | (with_reducible exact Below.refl _ _) | (with_reducible assumption) | (with_reducible refine below_drewN ?_ _) | (with_reducible refine Below.alloc ?_ ?_ _) | (with_reducible refine Below.drew ?_) | (with_reducible refine Below.setCell ?_ ?_ _) | go_size))⟩
  by_cases h8 : k = 8
  · subst h8
    by_cases hs : within s 0 9 = true
    all_goals
      go_enter Tryz.func47, Tryz.ntmps47
      go_wp2_with (go_at_call 88; refine (within_any _ _ _ _).mono ?_; rintro e w' ⟨rfl, rfl⟩)
      go_ret
      exact ⟨by simp [bitOk, hs], by (repeat' (first | (with_reducible exact Below.refl _ _) | (with_reducible assumption) | (with_reducible refine below_drewN ?_ _) | (with_reducible refine Below.alloc ?_ ?_ _) | (with_reducible refine Below.drew ?_) | (with_reducible refine Below.setCell ?_ ?_ _) | go_size))⟩
  by_cases h9 : k = 9
  · subst h9
    go_enter Tryz.func47, Tryz.ntmps47
    go_wp2_with (go_at_call 88; refine (within_any _ _ _ _).mono ?_; rintro e w' ⟨rfl, rfl⟩)
    go_ret
    exact ⟨by simp [bitOk], by (repeat' (first | (with_reducible exact Below.refl _ _) | (with_reducible assumption) | (with_reducible refine below_drewN ?_ _) | (with_reducible refine Below.alloc ?_ ?_ _) | (with_reducible refine Below.drew ?_) | (with_reducible refine Below.setCell ?_ ?_ _) | go_size))⟩
  by_cases h11 : k = 11
  · subst h11
    go_enter Tryz.func47, Tryz.ntmps47
    go_wp2_with (go_at_call 88; refine (within_any _ _ _ _).mono ?_; rintro e w' ⟨rfl, rfl⟩)
    go_ret
    exact ⟨by simp [bitOk], by (repeat' (first | (with_reducible exact Below.refl _ _) | (with_reducible assumption) | (with_reducible refine below_drewN ?_ _) | (with_reducible refine Below.alloc ?_ ?_ _) | (with_reducible refine Below.drew ?_) | (with_reducible refine Below.setCell ?_ ?_ _) | go_size))⟩
  by_cases h10 : k = 10
  · subst h10
    go_enter Tryz.func47, Tryz.ntmps47
    go_wp2_with (go_at_call 88; refine (within_any _ _ _ _).mono ?_; rintro e w' ⟨rfl, rfl⟩)
    go_ret
    exact ⟨by simp [bitOk], by (repeat' (first | (with_reducible exact Below.refl _ _) | (with_reducible assumption) | (with_reducible refine below_drewN ?_ _) | (with_reducible refine Below.alloc ?_ ?_ _) | (with_reducible refine Below.drew ?_) | (with_reducible refine Below.setCell ?_ ?_ _) | go_size))⟩
  by_cases h12 : k = 12
  · subst h12
    go_enter Tryz.func47, Tryz.ntmps47
    go_wp2_with (go_at_call 88; refine (within_any _ _ _ _).mono ?_; rintro e w' ⟨rfl, rfl⟩)
    go_ret
    exact ⟨by simp [bitOk], by (repeat' (first | (with_reducible exact Below.refl _ _) | (with_reducible assumption) | (with_reducible refine below_drewN ?_ _) | (with_reducible refine Below.alloc ?_ ?_ _) | (with_reducible refine Below.drew ?_) | (with_reducible refine Below.setCell ?_ ?_ _) | go_size))⟩
  have e3 : (k == 3) = false := by simpa using h3
  have e8 : (k == 8) = false := by simpa using h8
  have e9 : (k == 9) = false := by simpa using h9
  have e10 : (k == 10) = false := by simpa using h10
  have e11 : (k == 11) = false := by simpa using h11
  have e12 : (k == 12) = false := by simpa using h12
  have hb : bitOk k n s = within k 0 12 := by simp [bitOk, h3, h8, h9, h10, h11, h12]
  clear h3 h8 h9 h10 h11 h12
  go_enter Tryz.func47, Tryz.ntmps47
  go_wp2_with (go_at_call 88; refine (within_any _ _ _ _).mono ?_; rintro e w' ⟨rfl, rfl⟩)
  go_ret
  exact ⟨by simp [hb], by (repeat' (first | (with_reducible exact Below.refl _ _) | (with_reducible assumption) | (with_reducible refine below_drewN ?_ _) | (with_reducible refine Below.alloc ?_ ?_ _) | (with_reducible refine Below.drew ?_) | (with_reducible refine Below.setCell ?_ ?_ _) | go_size))⟩
end

end Go.Proofs.YtedjadicdodahaaGreatDoor
