/- The law on one flag of a symbol: the walk. -/
import Derived.Test.YtnnhdoocklaeoaaSymFlagA
import Derived.Test.YtnnhdoocklaeoaaSymFlagB
namespace Go.Proofs.Ytnnhdoocklaeoaa
open Go.RowKit

theorem fnSymbolFlag_out (k : Int) (s : Bool) (w : World) (h : k < 0 ∨ 7 < k ∨ (s = false ∧ k = 7)) : Calls Try.prog 7 #[.int .i64 k, .bool s] w (LawEnd w) := by
  by_cases h0 : k < 0
  · clear h
    go_enter Try.func7, Try.ntmps7
    go_wp2
    go_returns
    exact ⟨by simp, by (repeat' (first | (with_reducible exact Below.refl _ _) | (with_reducible assumption) | (with_reducible refine below_drewN ?_ _) | (with_reducible refine Below.alloc ?_ ?_ _) | (with_reducible refine Below.drew ?_) | (with_reducible refine Below.setCell ?_ ?_ _) | go_size))⟩
  by_cases h7 : 7 < k
  · clear h
    go_enter Try.func7, Try.ntmps7
    go_wp2
    go_returns
    exact ⟨by simp, by (repeat' (first | (with_reducible exact Below.refl _ _) | (with_reducible assumption) | (with_reducible refine below_drewN ?_ _) | (with_reducible refine Below.alloc ?_ ?_ _) | (with_reducible refine Below.drew ?_) | (with_reducible refine Below.setCell ?_ ?_ _) | go_size))⟩
  obtain ⟨rfl, rfl⟩ : s = false ∧ k = 7 := by
    rcases h with h | h | h
    · omega
    · omega
    · exact h
  go_enter Try.func7, Try.ntmps7
  go_wp2
  go_returns
  exact ⟨by simp, by (repeat' (first | (with_reducible exact Below.refl _ _) | (with_reducible assumption) | (with_reducible refine below_drewN ?_ _) | (with_reducible refine Below.alloc ?_ ?_ _) | (with_reducible refine Below.drew ?_) | (with_reducible refine Below.setCell ?_ ?_ _) | go_size))⟩

theorem fnSymbolFlag_any (k : Int) (s : Bool) (w : World) (_ : -9223372036854775808 ≤ k ∧ k < 9223372036854775808) : Calls Try.prog 7 #[.int .i64 k, .bool s] w (LawEnd w) := by
  by_cases h : k < 0 ∨ 7 < k ∨ (s = false ∧ k = 7)
  · exact fnSymbolFlag_out k s w h
  by_cases h0 : k = 0
  · subst h0
    cases s
    · exact fnSymbolFlag_f0 w
    · exact fnSymbolFlag_s0 w
  by_cases h1 : k = 1
  · subst h1
    cases s
    · exact fnSymbolFlag_f1 w
    · exact fnSymbolFlag_s1 w
  by_cases h2 : k = 2
  · subst h2
    cases s
    · exact fnSymbolFlag_f2 w
    · exact fnSymbolFlag_s2 w
  by_cases h3 : k = 3
  · subst h3
    cases s
    · exact fnSymbolFlag_f3 w
    · exact fnSymbolFlag_s3 w
  by_cases h4 : k = 4
  · subst h4
    cases s
    · exact fnSymbolFlag_f4 w
    · exact fnSymbolFlag_s4 w
  by_cases h5 : k = 5
  · subst h5
    cases s
    · exact fnSymbolFlag_f5 w
    · exact fnSymbolFlag_s5 w
  by_cases h6 : k = 6
  · subst h6
    cases s
    · exact fnSymbolFlag_f6 w
    · exact fnSymbolFlag_s6 w
  by_cases h7 : k = 7
  · subst h7
    cases s
    · exact absurd (by simp) h
    · exact fnSymbolFlag_s7 w
  exact absurd (by omega) h
end Go.Proofs.Ytnnhdoocklaeoaa
