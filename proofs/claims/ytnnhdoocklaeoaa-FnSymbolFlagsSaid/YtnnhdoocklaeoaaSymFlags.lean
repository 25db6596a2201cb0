/- The flags of a symbol: the walks. -/
import Derived.Test.YtnnhdoocklaeoaaSym
namespace Go.Proofs.Ytnnhdoocklaeoaa
open Go.RowKit

def fl (f m : Int) : Bool := bits .and .u8 f m != 0
abbrev flags1 (f : Int) : Value := .agg #[.bool (fl f 1), .bool (fl f 2), .bool (fl f 4), .bool (fl f 8), .bool (fl f 16), .bool (fl f 32), .bool (fl f 64)]
abbrev flags2 (f : Int) : Value := .agg #[.bool (fl f 1), .bool (fl f 2), .bool (fl f 4), .bool (fl f 8), .bool (fl f 16), .bool (fl f 32), .bool (fl f 64), .bool (fl f 128)]

section
variable (g : Nat) (a k f f2 sz al : Int) (w : World) (hc : ∀ i, w.cell? ⟨g, i, none⟩ = (symCells a k f f2 sz al)[i]?)
include hc
theorem sym_Dupok : Calls Try.prog 32 #[.pointer (some ⟨g, 0, none⟩)] w fun e w' => e = .returned (.bool (fl f 1)) ∧ w' = w := by
  go_enter Try.func32, Try.ntmps32
  go_wp2_with (go_at_call 62; refine (sym_Flag g a k f f2 sz al _ hc).mono ?_; rintro e w' ⟨rfl, rfl⟩)
  go_ret
  exact ⟨rfl, rfl⟩
theorem sym_Local : Calls Try.prog 33 #[.pointer (some ⟨g, 0, none⟩)] w fun e w' => e = .returned (.bool (fl f 2)) ∧ w' = w := by
  go_enter Try.func33, Try.ntmps33
  go_wp2_with (go_at_call 62; refine (sym_Flag g a k f f2 sz al _ hc).mono ?_; rintro e w' ⟨rfl, rfl⟩)
  go_ret
  exact ⟨rfl, rfl⟩
theorem sym_Typelink : Calls Try.prog 34 #[.pointer (some ⟨g, 0, none⟩)] w fun e w' => e = .returned (.bool (fl f 4)) ∧ w' = w := by
  go_enter Try.func34, Try.ntmps34
  go_wp2_with (go_at_call 62; refine (sym_Flag g a k f f2 sz al _ hc).mono ?_; rintro e w' ⟨rfl, rfl⟩)
  go_ret
  exact ⟨rfl, rfl⟩
theorem sym_Leaf : Calls Try.prog 35 #[.pointer (some ⟨g, 0, none⟩)] w fun e w' => e = .returned (.bool (fl f 8)) ∧ w' = w := by
  go_enter Try.func35, Try.ntmps35
  go_wp2_with (go_at_call 62; refine (sym_Flag g a k f f2 sz al _ hc).mono ?_; rintro e w' ⟨rfl, rfl⟩)
  go_ret
  exact ⟨rfl, rfl⟩
theorem sym_NoSplit : Calls Try.prog 36 #[.pointer (some ⟨g, 0, none⟩)] w fun e w' => e = .returned (.bool (fl f 16)) ∧ w' = w := by
  go_enter Try.func36, Try.ntmps36
  go_wp2_with (go_at_call 62; refine (sym_Flag g a k f f2 sz al _ hc).mono ?_; rintro e w' ⟨rfl, rfl⟩)
  go_ret
  exact ⟨rfl, rfl⟩
theorem sym_ReflectMethod : Calls Try.prog 37 #[.pointer (some ⟨g, 0, none⟩)] w fun e w' => e = .returned (.bool (fl f 32)) ∧ w' = w := by
  go_enter Try.func37, Try.ntmps37
  go_wp2_with (go_at_call 62; refine (sym_Flag g a k f f2 sz al _ hc).mono ?_; rintro e w' ⟨rfl, rfl⟩)
  go_ret
  exact ⟨rfl, rfl⟩
theorem sym_IsGoType : Calls Try.prog 38 #[.pointer (some ⟨g, 0, none⟩)] w fun e w' => e = .returned (.bool (fl f 64)) ∧ w' = w := by
  go_enter Try.func38, Try.ntmps38
  go_wp2_with (go_at_call 62; refine (sym_Flag g a k f f2 sz al _ hc).mono ?_; rintro e w' ⟨rfl, rfl⟩)
  go_ret
  exact ⟨rfl, rfl⟩
theorem sym_UsedInIface : Calls Try.prog 39 #[.pointer (some ⟨g, 0, none⟩)] w fun e w' => e = .returned (.bool (fl f2 1)) ∧ w' = w := by
  go_enter Try.func39, Try.ntmps39
  go_wp2_with (go_at_call 63; refine (sym_Flag2 g a k f f2 sz al _ hc).mono ?_; rintro e w' ⟨rfl, rfl⟩)
  go_ret
  exact ⟨rfl, rfl⟩
theorem sym_IsItab : Calls Try.prog 40 #[.pointer (some ⟨g, 0, none⟩)] w fun e w' => e = .returned (.bool (fl f2 2)) ∧ w' = w := by
  go_enter Try.func40, Try.ntmps40
  go_wp2_with (go_at_call 63; refine (sym_Flag2 g a k f f2 sz al _ hc).mono ?_; rintro e w' ⟨rfl, rfl⟩)
  go_ret
  exact ⟨rfl, rfl⟩
theorem sym_IsDict : Calls Try.prog 41 #[.pointer (some ⟨g, 0, none⟩)] w fun e w' => e = .returned (.bool (fl f2 4)) ∧ w' = w := by
  go_enter Try.func41, Try.ntmps41
  go_wp2_with (go_at_call 63; refine (sym_Flag2 g a k f f2 sz al _ hc).mono ?_; rintro e w' ⟨rfl, rfl⟩)
  go_ret
  exact ⟨rfl, rfl⟩
theorem sym_IsPkgInit : Calls Try.prog 42 #[.pointer (some ⟨g, 0, none⟩)] w fun e w' => e = .returned (.bool (fl f2 8)) ∧ w' = w := by
  go_enter Try.func42, Try.ntmps42
  go_wp2_with (go_at_call 63; refine (sym_Flag2 g a k f f2 sz al _ hc).mono ?_; rintro e w' ⟨rfl, rfl⟩)
  go_ret
  exact ⟨rfl, rfl⟩
theorem sym_IsLinkname : Calls Try.prog 43 #[.pointer (some ⟨g, 0, none⟩)] w fun e w' => e = .returned (.bool (fl f2 16)) ∧ w' = w := by
  go_enter Try.func43, Try.ntmps43
  go_wp2_with (go_at_call 63; refine (sym_Flag2 g a k f f2 sz al _ hc).mono ?_; rintro e w' ⟨rfl, rfl⟩)
  go_ret
  exact ⟨rfl, rfl⟩
theorem sym_IsLinknameStd : Calls Try.prog 44 #[.pointer (some ⟨g, 0, none⟩)] w fun e w' => e = .returned (.bool (fl f2 32)) ∧ w' = w := by
  go_enter Try.func44, Try.ntmps44
  go_wp2_with (go_at_call 63; refine (sym_Flag2 g a k f f2 sz al _ hc).mono ?_; rintro e w' ⟨rfl, rfl⟩)
  go_ret
  exact ⟨rfl, rfl⟩
theorem sym_ABIWrapper : Calls Try.prog 45 #[.pointer (some ⟨g, 0, none⟩)] w fun e w' => e = .returned (.bool (fl f2 64)) ∧ w' = w := by
  go_enter Try.func45, Try.ntmps45
  go_wp2_with (go_at_call 63; refine (sym_Flag2 g a k f f2 sz al _ hc).mono ?_; rintro e w' ⟨rfl, rfl⟩)
  go_ret
  exact ⟨rfl, rfl⟩
theorem sym_WasmExport : Calls Try.prog 46 #[.pointer (some ⟨g, 0, none⟩)] w fun e w' => e = .returned (.bool (fl f2 128)) ∧ w' = w := by
  go_enter Try.func46, Try.ntmps46
  go_wp2_with (go_at_call 63; refine (sym_Flag2 g a k f f2 sz al _ hc).mono ?_; rintro e w' ⟨rfl, rfl⟩)
  go_ret
  exact ⟨rfl, rfl⟩
end

set_option maxHeartbeats 800000 in
theorem symbolFlags_any (a k f f2 sz al : Int) (w : World) (a0 : 0 ≤ a) (a1 : a < 65536) (s0 : 0 ≤ sz) (s1 : sz < 4294967296) (l0 : 0 ≤ al) (l1 : al < 4294967296) :
    Calls Try.prog 17 #[symVal a k f f2 sz al] w (RetV (.tuple #[flags1 f, flags2 f2]) w) := by
  unfold symVal
  go_enter Try.func17, Try.ntmps17
  go_wp2_with fail
  refine (sym_any a k f f2 sz al _ a0 a1 s0 s1 l0 l1).mono ?_
  rintro e w1 ⟨g, rfl, hg, hblk, hb1⟩
  have r1 := ((Blk.new1 w _ _ _).alloc _).here hb1
  have r2 := (Blk.new ((w.alloc _).alloc _) _ _).here hb1
  rw [World.size_alloc, World.size_alloc] at r2
  have hc1 := r1.cell
  have hf1 := r1.frozen
  have hc2 := r2.cell
  have hf2 := r2.frozen
  have hc := Lib.hid hblk.cell
  have hb := below_from (by (repeat' (first | (with_reducible exact Below.refl _ _) | (with_reducible assumption) | (with_reducible refine below_drewN ?_ _) | (with_reducible refine Below.alloc ?_ ?_ _) | (with_reducible refine Below.drew ?_) | (with_reducible refine Below.setCell ?_ ?_ _) | go_size)) : Below w.heap.size w (((w.alloc _).alloc _).alloc _)) hb1
  have hz := hb1.size
  simp at hz
  clear r1 r2 hblk hb1 hg
  go_wp2_with (first
    | (go_at_call 32; refine (sym_Dupok g a k f f2 sz al _ hc.out).mono ?_; rintro e w' ⟨rfl, rfl⟩)
    | (go_at_call 33; refine (sym_Local g a k f f2 sz al _ hc.out).mono ?_; rintro e w' ⟨rfl, rfl⟩)
    | (go_at_call 34; refine (sym_Typelink g a k f f2 sz al _ hc.out).mono ?_; rintro e w' ⟨rfl, rfl⟩)
    | (go_at_call 35; refine (sym_Leaf g a k f f2 sz al _ hc.out).mono ?_; rintro e w' ⟨rfl, rfl⟩)
    | (go_at_call 36; refine (sym_NoSplit g a k f f2 sz al _ hc.out).mono ?_; rintro e w' ⟨rfl, rfl⟩)
    | (go_at_call 37; refine (sym_ReflectMethod g a k f f2 sz al _ hc.out).mono ?_; rintro e w' ⟨rfl, rfl⟩)
    | (go_at_call 38; refine (sym_IsGoType g a k f f2 sz al _ hc.out).mono ?_; rintro e w' ⟨rfl, rfl⟩)
    | (go_at_call 39; refine (sym_UsedInIface g a k f f2 sz al _ hc.out).mono ?_; rintro e w' ⟨rfl, rfl⟩)
    | (go_at_call 40; refine (sym_IsItab g a k f f2 sz al _ hc.out).mono ?_; rintro e w' ⟨rfl, rfl⟩)
    | (go_at_call 41; refine (sym_IsDict g a k f f2 sz al _ hc.out).mono ?_; rintro e w' ⟨rfl, rfl⟩)
    | (go_at_call 42; refine (sym_IsPkgInit g a k f f2 sz al _ hc.out).mono ?_; rintro e w' ⟨rfl, rfl⟩)
    | (go_at_call 43; refine (sym_IsLinkname g a k f f2 sz al _ hc.out).mono ?_; rintro e w' ⟨rfl, rfl⟩)
    | (go_at_call 44; refine (sym_IsLinknameStd g a k f f2 sz al _ hc.out).mono ?_; rintro e w' ⟨rfl, rfl⟩)
    | (go_at_call 45; refine (sym_ABIWrapper g a k f f2 sz al _ hc.out).mono ?_; rintro e w' ⟨rfl, rfl⟩)
    | (go_at_call 46; refine (sym_WasmExport g a k f f2 sz al _ hc.out).mono ?_; rintro e w' ⟨rfl, rfl⟩))
  exact bodyPost_ret (v := .tuple #[flags1 f, flags2 f2]) (by simp [results, Try.results17, go_sem, hc1, hc2, flags1, flags2]) rfl ⟨rfl, by (repeat' (first | (with_reducible exact Below.refl _ _) | (with_reducible assumption) | (with_reducible refine below_drewN ?_ _) | (with_reducible refine Below.alloc ?_ ?_ _) | (with_reducible refine Below.drew ?_) | (with_reducible refine Below.setCell ?_ ?_ _) | go_size))⟩
end Go.Proofs.Ytnnhdoocklaeoaa
