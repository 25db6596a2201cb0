/- A reference, and a fingerprint, that are none: the walks. -/
import Derived.Test.YtnnhdoocklaeoaaMem
namespace Go.Proofs.Ytnnhdoocklaeoaa
open Go.RowKit

theorem refIsZero_any (p s : Int) (w : World) : Calls Try.prog 13 #[.agg #[.int .u32 p, .int .u32 s]] w (RetV (.bool (p == 0 && s == 0)) w) := by
  by_cases hp : (p == 0) = true <;> by_cases hs : (s == 0) = true
  all_goals
    try simp only [Bool.not_eq_true] at hp hs
    go_enter Try.func13, Try.ntmps13
    go_wp2
    go_ret
    exact ⟨by simp [*], by (repeat' (first | (with_reducible exact Below.refl _ _) | (with_reducible assumption) | (with_reducible refine below_drewN ?_ _) | (with_reducible refine Below.alloc ?_ ?_ _) | (with_reducible refine Below.drew ?_) | (with_reducible refine Below.setCell ?_ ?_ _) | go_size))⟩

theorem fnRefIsZero_any (p s : Int) (w : World) (_ : 0 ≤ p ∧ p < 4294967296) (_ : 0 ≤ s ∧ s < 4294967296) : Calls Try.prog 4 #[.agg #[.int .u32 p, .int .u32 s]] w (LawEnd w) := by
  by_cases hp : (p == 0) = true <;> by_cases hs : (s == 0) = true
  all_goals
    try simp only [Bool.not_eq_true] at hp hs
    go_enter Try.func4, Try.ntmps4
    go_wp2_with fail
    go_region_held3 (fun w' => w'.cell? ⟨w.heap.size, 0, none⟩ = some (.int .u32 p) ∧ w'.cell? ⟨w.heap.size, 1, none⟩ = some (.int .u32 s))
      (first | go_keep | (refine ⟨?_, ?_⟩ <;> exact (hb1.cell (by simp)).trans (by simp [go_sem])))
      (first | (go_at_call 13; refine (refIsZero_any p s _).mono ?_; rintro e w1 ⟨rfl, hb1⟩))
    go_wp2_with fail
    go_returns
    exact ⟨by simp [*], below_from (by (repeat' (first | (with_reducible exact Below.refl _ _) | (with_reducible assumption) | (with_reducible refine below_drewN ?_ _) | (with_reducible refine Below.alloc ?_ ?_ _) | (with_reducible refine Below.drew ?_) | (with_reducible refine Below.setCell ?_ ?_ _) | go_size))) hb1⟩

section
variable (x0 x1 x2 x3 x4 x5 x6 x7 : Int) (w : World)
def isZ8 : Bool := decide ([x0, x1, x2, x3, x4, x5, x6, x7] = [0, 0, 0, 0, 0, 0, 0, 0])
theorem eqlFp (w : World) : (binOp .eql 53 (.agg #[.int .u8 x0, .int .u8 x1, .int .u8 x2, .int .u8 x3, .int .u8 x4, .int .u8 x5, .int .u8 x6, .int .u8 x7]) (.agg #[.int .u8 0, .int .u8 0, .int .u8 0, .int .u8 0, .int .u8 0, .int .u8 0, .int .u8 0, .int .u8 0])).run Try.prog w = .ok (.bool (isZ8 x0 x1 x2 x3 x4 x5 x6 x7)) w :=
  run_eql_ints (n := 8) (k := .u8) w (by kernel_rfl) Try.underlying5 (by kernel_rfl) (by kernel_rfl) [x0, x1, x2, x3, x4, x5, x6, x7] [0, 0, 0, 0, 0, 0, 0, 0] rfl rfl
theorem eqlB8 (w : World) : (binOp .eql 22 (.agg #[.int .u8 x0, .int .u8 x1, .int .u8 x2, .int .u8 x3, .int .u8 x4, .int .u8 x5, .int .u8 x6, .int .u8 x7]) (.agg #[.int .u8 0, .int .u8 0, .int .u8 0, .int .u8 0, .int .u8 0, .int .u8 0, .int .u8 0, .int .u8 0])).run Try.prog w = .ok (.bool (isZ8 x0 x1 x2 x3 x4 x5 x6 x7)) w :=
  run_eql_ints (n := 8) (k := .u8) w (by kernel_rfl) Try.underlying5 (by kernel_rfl) (by kernel_rfl) [x0, x1, x2, x3, x4, x5, x6, x7] [0, 0, 0, 0, 0, 0, 0, 0] rfl rfl

theorem fpIsZero_any : Calls Try.prog 12 #[.agg #[.int .u8 x0, .int .u8 x1, .int .u8 x2, .int .u8 x3, .int .u8 x4, .int .u8 x5, .int .u8 x6, .int .u8 x7]] w (RetV (.bool (isZ8 x0 x1 x2 x3 x4 x5 x6 x7)) w) := by
  have he := eqlFp x0 x1 x2 x3 x4 x5 x6 x7
  go_enter Try.func12, Try.ntmps12
  go_wp2
  go_ret
  exact ⟨rfl, by (repeat' (first | (with_reducible exact Below.refl _ _) | (with_reducible assumption) | (with_reducible refine below_drewN ?_ _) | (with_reducible refine Below.alloc ?_ ?_ _) | (with_reducible refine Below.drew ?_) | (with_reducible refine Below.setCell ?_ ?_ _) | go_size))⟩

theorem fnFingerprintIsZero_any (_ : 0 ≤ x0 ∧ x0 < 256) (_ : 0 ≤ x1 ∧ x1 < 256) (_ : 0 ≤ x2 ∧ x2 < 256) (_ : 0 ≤ x3 ∧ x3 < 256) (_ : 0 ≤ x4 ∧ x4 < 256) (_ : 0 ≤ x5 ∧ x5 < 256) (_ : 0 ≤ x6 ∧ x6 < 256) (_ : 0 ≤ x7 ∧ x7 < 256) :
    Calls Try.prog 3 #[.agg #[.int .u8 x0, .int .u8 x1, .int .u8 x2, .int .u8 x3, .int .u8 x4, .int .u8 x5, .int .u8 x6, .int .u8 x7]] w (LawEnd w) := by
  have he := eqlB8 x0 x1 x2 x3 x4 x5 x6 x7
  go_enter Try.func3, Try.ntmps3
  go_wp2_with fail
  go_region_held3 (fun w' => w'.cell? ⟨w.heap.size, 0, none⟩ = some (.int .u8 x0) ∧ w'.cell? ⟨w.heap.size, 1, none⟩ = some (.int .u8 x1) ∧ w'.cell? ⟨w.heap.size, 2, none⟩ = some (.int .u8 x2) ∧ w'.cell? ⟨w.heap.size, 3, none⟩ = some (.int .u8 x3) ∧ w'.cell? ⟨w.heap.size, 4, none⟩ = some (.int .u8 x4) ∧ w'.cell? ⟨w.heap.size, 5, none⟩ = some (.int .u8 x5) ∧ w'.cell? ⟨w.heap.size, 6, none⟩ = some (.int .u8 x6) ∧ w'.cell? ⟨w.heap.size, 7, none⟩ = some (.int .u8 x7))
    (first | go_keep | (refine ⟨?_, ?_, ?_, ?_, ?_, ?_, ?_, ?_⟩ <;> exact (hb1.cell (by simp)).trans (by simp [go_sem])))
    (first | (go_at_call 12; refine (fpIsZero_any x0 x1 x2 x3 x4 x5 x6 x7 _).mono ?_; rintro e w1 ⟨rfl, hb1⟩))
  go_wp2_with fail
  go_returns
  exact ⟨by simp, below_from (by (repeat' (first | (with_reducible exact Below.refl _ _) | (with_reducible assumption) | (with_reducible refine below_drewN ?_ _) | (with_reducible refine Below.alloc ?_ ?_ _) | (with_reducible refine Below.drew ?_) | (with_reducible refine Below.setCell ?_ ?_ _) | go_size))) hb1⟩
end
end Go.Proofs.Ytnnhdoocklaeoaa
