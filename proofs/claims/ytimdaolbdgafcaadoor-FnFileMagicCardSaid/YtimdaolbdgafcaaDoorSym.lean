import Derived.Deep.RegionHeld3
import Derived.StillTactics
import Derived.Test.YtimdaolbdgafcaaDoorLe
namespace Go.Proofs.YtimdaolbdgafcaaDoor
open Go.RowKit 

/-- The 21 cells of a symbol without a name. -/
def symCells (a k f f2 sz al : Int) : Array Value := #[.int .u8 0, .int .u8 0, .int .u8 0, .int .u8 0, .int .u8 0, .int .u8 0, .int .u8 0, .int .u8 0, .int .u8 (a % 256), .int .u8 (a / 256), .int .u8 k, .int .u8 f, .int .u8 f2,
  .int .u8 (sz % 256), .int .u8 (sz / 256 % 256), .int .u8 (sz / 65536 % 256), .int .u8 (sz / 16777216), .int .u8 (al % 256), .int .u8 (al / 256 % 256), .int .u8 (al / 65536 % 256), .int .u8 (al / 16777216)]
abbrev symVal (a k f f2 sz al : Int) : Value := .agg #[.int .u16 a, .int .u8 k, .int .u8 f, .int .u8 f2, .int .u32 sz, .int .u32 al]

set_option maxHeartbeats 400000 in
theorem sym_any (a k f f2 sz al : Int) (w : World) (a0 : 0 ≤ a) (a1 : a < 65536) (s0 : 0 ≤ sz) (s1 : sz < 4294967296) (l0 : 0 ≤ al) (l1 : al < 4294967296):
    Calls Tryd.prog 134 #[symVal a k f f2 sz al] w (RetNew 208 (symCells a k f f2 sz al) w) := by
  unfold symVal
  go_enter Tryd.func134, Tryd.ntmps134
  go_wp2_with (first | go_in | (go_end0; simp only []; go_at_K))
  go_ret
  exact ⟨_, rfl, by omega, Blk.new1 _ _ _ _, by (repeat' (first | (with_reducible exact Below.refl _ _) | (with_reducible assumption) | (with_reducible refine below_drewN ?_ _) | (with_reducible refine Below.alloc ?_ ?_ _) | (with_reducible refine Below.drew ?_) | (with_reducible refine Below.setCell ?_ ?_ _) | go_size))⟩

section
variable (g : Nat) (a k f f2 sz al : Int) (w : World) (hc : ∀ i, w.cell? ⟨g, i, none⟩ = (symCells a k f f2 sz al)[i]?)
include hc
end

theorem cell_alloc_far {w : World} {g : Nat} (hg : g < w.heap.size) (o : Obj) (i : Nat) : (w.alloc o).cell? ⟨g, i, none⟩ = w.cell? ⟨g, i, none⟩ := World.cell?_alloc_lt w o ⟨g, i, none⟩ hg



end Go.Proofs.YtimdaolbdgafcaaDoor
