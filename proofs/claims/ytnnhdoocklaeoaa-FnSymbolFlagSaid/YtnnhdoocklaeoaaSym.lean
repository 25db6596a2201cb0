import Derived.Deep.RegionHeld3
import Derived.StillTactics
import Derived.Test.YtnnhdoocklaeoaaLe
namespace Go.Proofs.Ytnnhdoocklaeoaa
open Go.RowKit 

/-- The 21 cells of a symbol without a name. -/
def symCells (a k f f2 sz al : Int) : Array Value := #[.int .u8 0, .int .u8 0, .int .u8 0, .int .u8 0, .int .u8 0, .int .u8 0, .int .u8 0, .int .u8 0, .int .u8 (a % 256), .int .u8 (a / 256), .int .u8 k, .int .u8 f, .int .u8 f2,
  .int .u8 (sz % 256), .int .u8 (sz / 256 % 256), .int .u8 (sz / 65536 % 256), .int .u8 (sz / 16777216), .int .u8 (al % 256), .int .u8 (al / 256 % 256), .int .u8 (al / 65536 % 256), .int .u8 (al / 16777216)]
abbrev symVal (a k f f2 sz al : Int) : Value := .agg #[.int .u16 a, .int .u8 k, .int .u8 f, .int .u8 f2, .int .u32 sz, .int .u32 al]

set_option maxHeartbeats 400000 in
theorem sym_any (a k f f2 sz al : Int) (w : World) (a0 : 0 ≤ a) (a1 : a < 65536) (s0 : 0 ≤ sz) (s1 : sz < 4294967296) (l0 : 0 ≤ al) (l1 : al < 4294967296):
    Calls Try.prog 31 #[symVal a k f f2 sz al] w (RetNew 79 (symCells a k f f2 sz al) w) := by
  unfold symVal
  go_enter Try.func31, Try.ntmps31
  go_wp2_with (first | go_in | (go_end0; simp only []; go_at_K))
  go_ret
  exact ⟨_, rfl, by omega, Blk.new1 _ _ _ _, by (repeat' (first | (with_reducible exact Below.refl _ _) | (with_reducible assumption) | (with_reducible refine below_drewN ?_ _) | (with_reducible refine Below.alloc ?_ ?_ _) | (with_reducible refine Below.drew ?_) | (with_reducible refine Below.setCell ?_ ?_ _) | go_size))⟩

section
variable (g : Nat) (a k f f2 sz al : Int) (w : World) (hc : ∀ i, w.cell? ⟨g, i, none⟩ = (symCells a k f f2 sz al)[i]?)
include hc
theorem sym_ABI (a0 : 0 ≤ a) (a1 : a < 65536) : Calls Try.prog 60 #[.pointer (some ⟨g, 0, none⟩)] w fun e w' => e = .returned (.int .u16 a) ∧ ∃ n, w' = w.drewN n := by
  go_enter Try.func60, Try.ntmps60
  go_wp2_with (go_at_call 76; refine (le16_of g 8 _ _ a _ (by omega) a0 a1 ((hc _).trans rfl) ((hc _).trans rfl)).mono ?_; rintro e w' ⟨rfl, n1, rfl⟩)
  go_ret
  exact ⟨rfl, _, rfl⟩
theorem sym_Siz (s0 : 0 ≤ sz) (s1 : sz < 4294967296) : Calls Try.prog 64 #[.pointer (some ⟨g, 0, none⟩)] w fun e w' => e = .returned (.int .u32 sz) ∧ ∃ n, w' = w.drewN n := by
  go_enter Try.func64, Try.ntmps64
  go_wp2_with (go_at_call 77; refine (le32_of g 13 _ _ sz _ (by omega) s0 s1 ((hc _).trans rfl) ((hc _).trans rfl) ((hc _).trans rfl) ((hc _).trans rfl)).mono ?_; rintro e w' ⟨rfl, n1, rfl⟩)
  go_ret
  exact ⟨rfl, _, rfl⟩
theorem sym_Align (s0 : 0 ≤ al) (s1 : al < 4294967296) : Calls Try.prog 65 #[.pointer (some ⟨g, 0, none⟩)] w fun e w' => e = .returned (.int .u32 al) ∧ ∃ n, w' = w.drewN n := by
  go_enter Try.func65, Try.ntmps65
  go_wp2_with (go_at_call 77; refine (le32_of g 17 _ _ al _ (by omega) s0 s1 ((hc _).trans rfl) ((hc _).trans rfl) ((hc _).trans rfl) ((hc _).trans rfl)).mono ?_; rintro e w' ⟨rfl, n1, rfl⟩)
  go_ret
  exact ⟨rfl, _, rfl⟩
theorem sym_Type : Calls Try.prog 61 #[.pointer (some ⟨g, 0, none⟩)] w fun e w' => e = .returned (.int .u8 k) ∧ w' = w := by
  have h : w.cell? ⟨g, 10, none⟩ = some (.int .u8 k) := hc 10
  clear hc
  go_enter Try.func61, Try.ntmps61
  go_wp2
  go_ret
  exact ⟨rfl, rfl⟩
theorem sym_Flag : Calls Try.prog 62 #[.pointer (some ⟨g, 0, none⟩)] w fun e w' => e = .returned (.int .u8 f) ∧ w' = w := by
  have h : w.cell? ⟨g, 11, none⟩ = some (.int .u8 f) := hc 11
  clear hc
  go_enter Try.func62, Try.ntmps62
  go_wp2
  go_ret
  exact ⟨rfl, rfl⟩
theorem sym_Flag2 : Calls Try.prog 63 #[.pointer (some ⟨g, 0, none⟩)] w fun e w' => e = .returned (.int .u8 f2) ∧ w' = w := by
  have h : w.cell? ⟨g, 12, none⟩ = some (.int .u8 f2) := hc 12
  clear hc
  go_enter Try.func63, Try.ntmps63
  go_wp2
  go_ret
  exact ⟨rfl, rfl⟩
end

theorem cell_alloc_far {w : World} {g : Nat} (hg : g < w.heap.size) (o : Obj) (i : Nat) : (w.alloc o).cell? ⟨g, i, none⟩ = w.cell? ⟨g, i, none⟩ := World.cell?_alloc_lt w o ⟨g, i, none⟩ hg

set_option maxHeartbeats 400000 in
theorem toldSym_any (g : Nat) (a k f f2 sz al : Int) (w : World) (a0 : 0 ≤ a) (a1 : a < 65536) (s0 : 0 ≤ sz) (s1 : sz < 4294967296) (l0 : 0 ≤ al) (l1 : al < 4294967296) (hg : g < w.heap.size)
    (hc : ∀ i, w.cell? ⟨g, i, none⟩ = (symCells a k f f2 sz al)[i]?) :
    Calls Try.prog 30 #[.pointer (some ⟨g, 0, none⟩)] w fun e w' => e = .returned (symVal a k f f2 sz al) ∧ Below w.heap.size w w' := by
  have hc' : ∀ (o : Obj) (n : Nat) (i : Nat), ((w.alloc o).drewN n).cell? ⟨g, i, none⟩ = (symCells a k f f2 sz al)[i]? := fun o n i => (cell_alloc_far hg o i).trans (hc i)
  have H := Lib.hid hc'
  clear hc hc'
  go_enter Try.func30, Try.ntmps30
  go_wp2_with (first
   | (go_at_call 60; refine (sym_ABI g a k f f2 sz al _ (H.out _ 0) a0 a1).mono ?_; rintro e w' ⟨rfl, n1, rfl⟩)
   | (go_at_call 61; refine (sym_Type g a k f f2 sz al _ (H.out _ _)).mono ?_; rintro e w' ⟨rfl, rfl⟩)
   | (go_at_call 62; refine (sym_Flag g a k f f2 sz al _ (H.out _ _)).mono ?_; rintro e w' ⟨rfl, rfl⟩)
   | (go_at_call 63; refine (sym_Flag2 g a k f f2 sz al _ (H.out _ _)).mono ?_; rintro e w' ⟨rfl, rfl⟩)
   | (go_at_call 64; refine (sym_Siz g a k f f2 sz al _ (H.out _ _) s0 s1).mono ?_; rintro e w' ⟨rfl, n2, rfl⟩)
   | (go_at_call 65; refine (sym_Align g a k f f2 sz al _ (H.out _ _) l0 l1).mono ?_; rintro e w' ⟨rfl, n2, rfl⟩))
  refine bodyPost_ret (v := symVal a k f f2 sz al) (by simp [results, Try.results30, go_sem, symVal]) rfl ⟨rfl, ?_⟩
  (repeat' (first | (with_reducible exact Below.refl _ _) | (with_reducible assumption) | (with_reducible refine below_drewN ?_ _) | (with_reducible refine Below.alloc ?_ ?_ _) | (with_reducible refine Below.drew ?_) | (with_reducible refine Below.setCell ?_ ?_ _) | go_size))

set_option maxHeartbeats 400000 in
theorem symbolBack_any (a k f f2 sz al : Int) (w : World) (a0 : 0 ≤ a) (a1 : a < 65536) (s0 : 0 ≤ sz) (s1 : sz < 4294967296) (l0 : 0 ≤ al) (l1 : al < 4294967296) :
    Calls Try.prog 16 #[symVal a k f f2 sz al] w (RetV (symVal a k f f2 sz al) w) := by
  unfold symVal
  go_enter Try.func16, Try.ntmps16
  go_wp2_with fail
  refine (sym_any a k f f2 sz al _ a0 a1 s0 s1 l0 l1).mono ?_
  rintro e w1 ⟨g, rfl, hg, hblk, hb1⟩
  go_wp2_with fail
  refine (toldSym_any g a k f f2 sz al _ a0 a1 s0 s1 l0 l1 hblk.lt hblk.cell).mono ?_
  rintro e w2 ⟨rfl, hb2⟩
  have r := ((Blk.new (w.alloc _) _ _).here hb1).here hb2
  rw [World.size_alloc] at r
  have hrc := r.cell
  have hrf := r.frozen
  have hb := Lib.hid (below_from (below_from (by (repeat' (first | (with_reducible exact Below.refl _ _) | (with_reducible assumption) | (with_reducible refine below_drewN ?_ _) | (with_reducible refine Below.alloc ?_ ?_ _) | (with_reducible refine Below.drew ?_) | (with_reducible refine Below.setCell ?_ ?_ _) | go_size))) hb1) hb2 : Below w.heap.size w w2)
  have hz := hb1.size
  have hz2 := hb2.size
  simp at hz
  clear r hb1 hb2 hg hblk
  unfold symVal
  go_wp2_with fail
  have hb := hb.out
  exact bodyPost_ret (v := symVal a k f f2 sz al) (by simp [results, Try.results16, go_sem, symVal, hrc]) rfl ⟨rfl, by (repeat' (first | (with_reducible exact Below.refl _ _) | (with_reducible assumption) | (with_reducible refine below_drewN ?_ _) | (with_reducible refine Below.alloc ?_ ?_ _) | (with_reducible refine Below.drew ?_) | (with_reducible refine Below.setCell ?_ ?_ _) | go_size))⟩

set_option maxHeartbeats 400000 in
theorem fnSymbol_any (a k f f2 sz al : Int) (w : World) (ba : 0 ≤ a ∧ a < 65536) (_ : 0 ≤ k ∧ k < 256) (_ : 0 ≤ f ∧ f < 256) (_ : 0 ≤ f2 ∧ f2 < 256) (bs : 0 ≤ sz ∧ sz < 4294967296) (bl : 0 ≤ al ∧ al < 4294967296) :
    Calls Try.prog 6 #[symVal a k f f2 sz al] w (LawEnd w) := by
  obtain ⟨a0, a1⟩ := ba
  obtain ⟨s0, s1⟩ := bs
  obtain ⟨l0, l1⟩ := bl
  go_enter Try.func6, Try.ntmps6
  go_wp2_with fail
  go_region_held3 (fun w' => w'.cell? ⟨w.heap.size, 0, none⟩ = some (.int .u16 a) ∧ w'.cell? ⟨w.heap.size, 1, none⟩ = some (.int .u8 k) ∧ w'.cell? ⟨w.heap.size, 2, none⟩ = some (.int .u8 f) ∧ w'.cell? ⟨w.heap.size, 3, none⟩ = some (.int .u8 f2) ∧ w'.cell? ⟨w.heap.size, 4, none⟩ = some (.int .u32 sz) ∧ w'.cell? ⟨w.heap.size, 5, none⟩ = some (.int .u32 al))
    (first | go_keep | (refine ⟨?_, ?_, ?_, ?_, ?_, ?_⟩ <;> exact (hb1.cell (by simp)).trans (by simp [go_sem])))
    (first | (go_at_call 16; refine (symbolBack_any a k f f2 sz al _ a0 a1 s0 s1 l0 l1).mono ?_; rintro e w1 ⟨rfl, hb1⟩))
  go_wp2_with fail
  go_returns
  exact ⟨rfl, below_from (by (repeat' (first | (with_reducible exact Below.refl _ _) | (with_reducible assumption) | (with_reducible refine below_drewN ?_ _) | (with_reducible refine Below.alloc ?_ ?_ _) | (with_reducible refine Below.drew ?_) | (with_reducible refine Below.setCell ?_ ?_ _) | go_size))) hb1⟩
end Go.Proofs.Ytnnhdoocklaeoaa
