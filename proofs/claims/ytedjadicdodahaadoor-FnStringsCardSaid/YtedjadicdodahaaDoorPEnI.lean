/- An element's encoder closed: Flush walked. -/
import Derived.BigRegion
import Derived.Test.YtedjadicdodahaaDoorPEnH
namespace Go.Proofs.YtedjadicdodahaaDoor
open Go.RowKit Go.Maps

theorem refCells_at (rs : List (Int × Int)) : ∀ j (h : j < rs.length), (refCells rs)[2 * j]? = some (.int .i32 rs[j].1) ∧ (refCells rs)[2 * j + 1]? = some (.int .i32 rs[j].2) := by
  induction rs with
  | nil => intro j h; simp at h
  | cons r rs ih =>
    intro j h
    match j, h with
    | 0, _ => exact ⟨rfl, rfl⟩
    | j + 1, h =>
      have h1 := ih j (by simpa using h)
      refine ⟨?_, ?_⟩
      · rw [show 2 * (j + 1) = 2 * j + 2 from by omega]
        exact h1.1
      · rw [show 2 * (j + 1) + 1 = (2 * j + 1) + 2 from by omega]
        exact h1.2
abbrev bufZ : Array Value := #[.slice none 0 0, .int .i64 0, .int .i8 0]
abbrev sbZ : Array Value := #[.pointer none, .slice none 0 0]
end Go.Proofs.YtedjadicdodahaaDoor
