import Derived.Deep.RegionHeld3
import Derived.StillTactics
import Derived.Test.YtajeinkkfggcbaaGreatDoorLe
namespace Go.Proofs.YtajeinkkfggcbaaGreatDoor
open Go.RowKit 

/-- The 21 cells of a symbol without a name. -/
def symCells (a k f f2 sz al : Int) : Array Value := #[.int .u8 0, .int .u8 0, .int .u8 0, .int .u8 0, .int .u8 0, .int .u8 0, .int .u8 0, .int .u8 0, .int .u8 (a % 256), .int .u8 (a / 256), .int .u8 k, .int .u8 f, .int .u8 f2,
  .int .u8 (sz % 256), .int .u8 (sz / 256 % 256), .int .u8 (sz / 65536 % 256), .int .u8 (sz / 16777216), .int .u8 (al % 256), .int .u8 (al / 256 % 256), .int .u8 (al / 65536 % 256), .int .u8 (al / 16777216)]
abbrev symVal (a k f f2 sz al : Int) : Value := .agg #[.int .u16 a, .int .u8 k, .int .u8 f, .int .u8 f2, .int .u32 sz, .int .u32 al]

set_option maxHeartbeats 400000 in
theorem sym_any (a k f f2 sz al : Int) (w : World) (a0 : 0 ≤ a) (a1 : a < 65536) (s0 : 0 ≤ sz) (s1 : sz < 4294967296) (l0 : 0 ≤ al) (l1 : al < 4294967296):
    Calls Tryz.prog 75 #[symVal a k f f2 sz al] w (RetNew 168 (symCells a k f f2 sz al) w) := by
  unfold symVal
  go_enter Tryz.func75, Tryz.ntmps75
  go_wp2_with (first | go_in | (go_end0; simp only []; go_at_K))
  go_ret
  exact ⟨_, rfl, by omega, Blk.new1 _ _ _ _, by (repeat' (first | (with_reducible exact Below.refl _ _) | (with_reducible assumption) | (with_reducible refine below_drewN ?_ _) | (with_reducible refine Below.alloc ?_ ?_ _) | (with_reducible refine Below.drew ?_) | (with_reducible refine Below.setCell ?_ ?_ _) | go_size))⟩

section
variable (g : Nat) (a k f f2 sz al : Int) (w : World) (hc : ∀ i, w.cell? ⟨g, i, none⟩ = (symCells a k f f2 sz al)[i]?)
include hc
theorem sym_ABI (a0 : 0 ≤ a) (a1 : a < 65536) : Calls Tryz.prog 57 #[.pointer (some ⟨g, 0, none⟩)] w fun e w' => e = .returned (.int .u16 a) ∧ ∃ n, w' = w.drewN n := by
  go_enter Tryz.func57, Tryz.ntmps57
  go_wp2_with (go_at_call 89; refine (le16_of g 8 _ _ a _ (by omega) a0 a1 ((hc _).trans rfl) ((hc _).trans rfl)).mono ?_; rintro e w' ⟨rfl, n1, rfl⟩)
  go_ret
  exact ⟨rfl, _, rfl⟩
theorem sym_Siz (s0 : 0 ≤ sz) (s1 : sz < 4294967296) : Calls Tryz.prog 61 #[.pointer (some ⟨g, 0, none⟩)] w fun e w' => e = .returned (.int .u32 sz) ∧ ∃ n, w' = w.drewN n := by
  go_enter Tryz.func61, Tryz.ntmps61
  go_wp2_with (go_at_call 55; refine (le32_of g 13 _ _ sz _ (by omega) s0 s1 ((hc _).trans rfl) ((hc _).trans rfl) ((hc _).trans rfl) ((hc _).trans rfl)).mono ?_; rintro e w' ⟨rfl, n1, rfl⟩)
  go_ret
  exact ⟨rfl, _, rfl⟩
theorem sym_Align (s0 : 0 ≤ al) (s1 : al < 4294967296) : Calls Tryz.prog 62 #[.pointer (some ⟨g, 0, none⟩)] w fun e w' => e = .returned (.int .u32 al) ∧ ∃ n, w' = w.drewN n := by
  go_enter Tryz.func62, Tryz.ntmps62
  go_wp2_with (go_at_call 55; refine (le32_of g 17 _ _ al _ (by omega) s0 s1 ((hc _).trans rfl) ((hc _).trans rfl) ((hc _).trans rfl) ((hc _).trans rfl)).mono ?_; rintro e w' ⟨rfl, n1, rfl⟩)
  go_ret
  exact ⟨rfl, _, rfl⟩
theorem sym_Type : Calls Tryz.prog 58 #[.pointer (some ⟨g, 0, none⟩)] w fun e w' => e = .returned (.int .u8 k) ∧ w' = w := by
  have h : w.cell? ⟨g, 10, none⟩ = some (.int .u8 k) := hc 10
  clear hc
  go_enter Tryz.func58, Tryz.ntmps58
  go_wp2
  go_ret
  exact ⟨rfl, rfl⟩
theorem sym_Flag : Calls Tryz.prog 59 #[.pointer (some ⟨g, 0, none⟩)] w fun e w' => e = .returned (.int .u8 f) ∧ w' = w := by
  have h : w.cell? ⟨g, 11, none⟩ = some (.int .u8 f) := hc 11
  clear hc
  go_enter Tryz.func59, Tryz.ntmps59
  go_wp2
  go_ret
  exact ⟨rfl, rfl⟩
theorem sym_Flag2 : Calls Tryz.prog 60 #[.pointer (some ⟨g, 0, none⟩)] w fun e w' => e = .returned (.int .u8 f2) ∧ w' = w := by
  have h : w.cell? ⟨g, 12, none⟩ = some (.int .u8 f2) := hc 12
  clear hc
  go_enter Tryz.func60, Tryz.ntmps60
  go_wp2
  go_ret
  exact ⟨rfl, rfl⟩
end

theorem cell_alloc_far {w : World} {g : Nat} (hg : g < w.heap.size) (o : Obj) (i : Nat) : (w.alloc o).cell? ⟨g, i, none⟩ = w.cell? ⟨g, i, none⟩ := World.cell?_alloc_lt w o ⟨g, i, none⟩ hg

set_option maxHeartbeats 400000 in
theorem toldSym_any (g : Nat) (a k f f2 sz al : Int) (w : World) (a0 : 0 ≤ a) (a1 : a < 65536) (s0 : 0 ≤ sz) (s1 : sz < 4294967296) (l0 : 0 ≤ al) (l1 : al < 4294967296) (hg : g < w.heap.size)
    (hc : ∀ i, w.cell? ⟨g, i, none⟩ = (symCells a k f f2 sz al)[i]?) :
    Calls Tryz.prog 25 #[.pointer (some ⟨g, 0, none⟩)] w fun e w' => e = .returned (symVal a k f f2 sz al) ∧ Below w.heap.size w w' := by
  have hc' : ∀ (o : Obj) (n : Nat) (i : Nat), ((w.alloc o).drewN n).cell? ⟨g, i, none⟩ = (symCells a k f f2 sz al)[i]? := fun o n i => (cell_alloc_far hg o i).trans (hc i)
  have H := Lib.hid hc'
  clear hc hc'
  go_enter Tryz.func25, Tryz.ntmps25
  go_wp2_with (first
   | (go_at_call 57; refine (sym_ABI g a k f f2 sz al _ (H.out _ 0) a0 a1).mono ?_; rintro e w' ⟨rfl, n1, rfl⟩)
   | (go_at_call 58; refine (sym_Type g a k f f2 sz al _ (H.out _ _)).mono ?_; rintro e w' ⟨rfl, rfl⟩)
   | (go_at_call 59; refine (sym_Flag g a k f f2 sz al _ (H.out _ _)).mono ?_; rintro e w' ⟨rfl, rfl⟩)
   | (go_at_call 60; refine (sym_Flag2 g a k f f2 sz al _ (H.out _ _)).mono ?_; rintro e w' ⟨rfl, rfl⟩)
   | (go_at_call 61; refine (sym_Siz g a k f f2 sz al _ (H.out _ _) s0 s1).mono ?_; rintro e w' ⟨rfl, n2, rfl⟩)
   | (go_at_call 62; refine (sym_Align g a k f f2 sz al _ (H.out _ _) l0 l1).mono ?_; rintro e w' ⟨rfl, n2, rfl⟩))
  refine bodyPost_ret (v := symVal a k f f2 sz al) (by simp [results, Tryz.results25, go_sem, symVal]) rfl ⟨rfl, ?_⟩
  (repeat' (first | (with_reducible exact Below.refl _ _) | (with_reducible assumption) | (with_reducible refine below_drewN ?_ _) | (with_reducible refine Below.alloc ?_ ?_ _) | (with_reducible refine Below.drew ?_) | (with_reducible refine Below.setCell ?_ ?_ _) | go_size))


end Go.Proofs.YtajeinkkfggcbaaGreatDoor
