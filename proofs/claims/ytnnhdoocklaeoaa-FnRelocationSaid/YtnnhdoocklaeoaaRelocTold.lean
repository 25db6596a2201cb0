/- Relocations: told. -/
import Derived.Test.YtnnhdoocklaeoaaReloc
namespace Go.Proofs.Ytnnhdoocklaeoaa
open Go.RowKit

theorem wrap32_back (a : Int) (a0 : -2147483648 ≤ a) (a1 : a < 2147483648) : wrap32 (a % 4294967296) = a := by unfold wrap32; omega
theorem wrap64_back (d : Int) (d0 : -9223372036854775808 ≤ d) (d1 : d < 9223372036854775808) : wrap64 (d % 18446744073709551616) = d := by unfold wrap64; omega

section
variable (g : Nat) (a s k d p y : Int) (w : World) (hc : ∀ i, w.cell? ⟨g, i, none⟩ = (relocCells a s k d p y)[i]?)
include hc
theorem reloc_Off (a0 : -2147483648 ≤ a) (a1 : a < 2147483648) : Calls Try.prog 68 #[.pointer (some ⟨g, 0, none⟩)] w (RetQ (.int .i32 a) w) := by
  have E := Lib.hid (wrap32_back a a0 a1)
  go_enter Try.func68, Try.ntmps68
  go_wp2_with (go_at_call 77; refine (le32_at g 0 _ _ a _ (by omega) ((hc _).trans rfl) ((hc _).trans rfl) ((hc _).trans rfl) ((hc _).trans rfl)).mono ?_; rintro e w' ⟨rfl, n1, rfl⟩)
  go_ret
  exact ⟨by simp [E.out], _, rfl⟩
theorem reloc_Siz : Calls Try.prog 69 #[.pointer (some ⟨g, 0, none⟩)] w (RetQ (.int .u8 s) w) := by
  have h : w.cell? ⟨g, 4, none⟩ = some (.int .u8 s) := hc 4
  clear hc
  go_enter Try.func69, Try.ntmps69
  go_wp2
  go_ret
  exact ⟨rfl, 0, rfl⟩
theorem reloc_Type (k0 : 0 ≤ k) (k1 : k < 65536) : Calls Try.prog 70 #[.pointer (some ⟨g, 0, none⟩)] w (RetQ (.int .u16 k) w) := by
  have E := Lib.hid (show k % 65536 = k from by omega)
  go_enter Try.func70, Try.ntmps70
  go_wp2_with (go_at_call 76; refine (le16_at g 5 _ _ k _ (by omega) ((hc _).trans rfl) ((hc _).trans rfl)).mono ?_; rintro e w' ⟨rfl, n1, rfl⟩; rw [E.out])
  go_ret
  exact ⟨rfl, _, rfl⟩
theorem reloc_Add (d0 : -9223372036854775808 ≤ d) (d1 : d < 9223372036854775808) : Calls Try.prog 71 #[.pointer (some ⟨g, 0, none⟩)] w (RetQ (.int .i64 d) w) := by
  have E := Lib.hid (wrap64_back d d0 d1)
  go_enter Try.func71, Try.ntmps71
  go_wp2_with (go_at_call 78; refine (le64_at g 7 _ _ d _ (by omega) (by omega) ((hc _).trans rfl) ((hc _).trans rfl) ((hc _).trans rfl) ((hc _).trans rfl) ((hc _).trans rfl) ((hc _).trans rfl) ((hc _).trans rfl) ((hc _).trans rfl)).mono ?_; rintro e w' ⟨rfl, n1, rfl⟩)
  go_ret
  exact ⟨by simp [E.out], _, rfl⟩
end

theorem reloc_Sym (g : Nat) (a s k d p y : Int) (w : World) (hc : ∀ i, w.cell? ⟨g, i, none⟩ = (relocCells a s k d p y)[i]?) (p0 : 0 ≤ p) (p1 : p < 4294967296) (y0 : 0 ≤ y) (y1 : y < 4294967296) (hg : g < w.heap.size) :
    Calls Try.prog 73 #[.pointer (some ⟨g, 0, none⟩)] w (RetV (.agg #[.int .u32 p, .int .u32 y]) w) := by
  have L0 : ∀ (W : World), W.heap = (w.alloc (.cells #[.int .u32 0, .int .u32 0] 56)).heap → Calls Try.prog 77 #[.slice (some ⟨g, 15, none⟩) 8 8] W (RetQ (.int .u32 p) W) := fun W hW => by
    have hx : ∀ i, W.cell? ⟨g, i, none⟩ = (relocCells a s k d p y)[i]? := fun i => (World.cell?_of_block (by rw [hW]; exact Below.heap_alloc w _ g hg)).trans (hc i)
    have h := le32_at g 15 8 8 p W (by omega) (hx 15) (hx 16) (hx 17) (hx 18)
    rwa [show p % 4294967296 = p from by omega] at h
  have L1 : ∀ (W : World), W.heap = (w.alloc (.cells #[.int .u32 0, .int .u32 0] 56)).heap → Calls Try.prog 77 #[.slice (some ⟨g, 19, none⟩) 4 4] W (RetQ (.int .u32 y) W) := fun W hW => by
    have hx : ∀ i, W.cell? ⟨g, i, none⟩ = (relocCells a s k d p y)[i]? := fun i => (World.cell?_of_block (by rw [hW]; exact Below.heap_alloc w _ g hg)).trans (hc i)
    have h := le32_at g 19 4 4 y W (by omega) (hx 19) (hx 20) (hx 21) (hx 22)
    rwa [show y % 4294967296 = y from by omega] at h
  have H0 := Lib.hid L0
  have H1 := Lib.hid L1
  clear hc L0 L1
  go_enter Try.func73, Try.ntmps73
  go_wp2_with fail
  go_region_held3 (fun _ => True) (first | trivial | go_keep)
    (first | (go_at_call 77; (with_reducible refine (H0.out _ ?_).mono ?_); rfl; rintro e w1 ⟨rfl, n1, rfl⟩) | (go_at_call 77; (with_reducible refine (H1.out _ ?_).mono ?_); rfl; rintro e w1 ⟨rfl, n2, rfl⟩))
  go_wp2_with fail
  exact bodyPost_ret (v := .agg #[.int .u32 p, .int .u32 y]) (by simp [results, Try.results73, go_sem]) rfl ⟨rfl, by (repeat' (first | (with_reducible exact Below.refl _ _) | (with_reducible assumption) | (with_reducible refine below_drewN ?_ _) | (with_reducible refine Below.alloc ?_ ?_ _) | (with_reducible refine Below.drew ?_) | (with_reducible refine Below.setCell ?_ ?_ _) | go_size))⟩

set_option maxHeartbeats 400000 in
theorem toldReloc_any (g : Nat) (t : TypeId) (a s k d p y : Int) (w : World) (hb : Blk w g t (relocCells a s k d p y)) (a0 : -2147483648 ≤ a) (a1 : a < 2147483648) (k0 : 0 ≤ k) (k1 : k < 65536) (d0 : -9223372036854775808 ≤ d) (d1 : d < 9223372036854775808)
    (p0 : 0 ≤ p) (p1 : p < 4294967296) (y0 : 0 ≤ y) (y1 : y < 4294967296) :
    Calls Try.prog 53 #[.pointer (some ⟨g, 0, none⟩)] w (RetV (relocVal a s k d p y) w) := by
  have H := Lib.hid (fun o => hb.alloc o)
  clear hb
  unfold relocVal
  go_enter Try.func53, Try.ntmps53
  go_wp2_with (first
   | (go_at_call 68; refine (reloc_Off g a s k d p y _ ((H.out _).drewN 0).cell a0 a1).mono ?_; rintro e w' ⟨rfl, n1, rfl⟩)
   | (go_at_call 69; refine (reloc_Siz g a s k d p y _ ((H.out _).drewN _).cell).mono ?_; rintro e w' ⟨rfl, n1, rfl⟩)
   | (go_at_call 70; refine (reloc_Type g a s k d p y _ ((H.out _).drewN _).cell k0 k1).mono ?_; rintro e w' ⟨rfl, n1, rfl⟩)
   | (go_at_call 71; refine (reloc_Add g a s k d p y _ ((H.out _).drewN _).cell d0 d1).mono ?_; rintro e w' ⟨rfl, n1, rfl⟩)
   | (go_at_call 73; refine (reloc_Sym g a s k d p y _ ((H.out _).drewN _).cell p0 p1 y0 y1 ((H.out _).drewN _).lt).mono ?_; rintro e w1 ⟨rfl, hb1⟩)
   | (go_at_call 72; refine (told_any p y _).mono ?_; rintro e w2 ⟨rfl, hb2⟩; have r := (((Blk.new w _ _).drewN _).here hb1).here hb2; have hrc := r.cell; have hrf := r.frozen; have hB := Lib.hid (below_from (below_from (by (repeat' (first | (with_reducible exact Below.refl _ _) | (with_reducible assumption) | (with_reducible refine below_drewN ?_ _) | (with_reducible refine Below.alloc ?_ ?_ _) | (with_reducible refine Below.drew ?_) | (with_reducible refine Below.setCell ?_ ?_ _) | go_size))) hb1) hb2 : Below w.heap.size w w2); clear r hb1 hb2))
  have hB := hB.out
  have hz := hB.size
  exact bodyPost_ret (v := relocVal a s k d p y) (by simp [results, Try.results53, go_sem, hrc]) rfl ⟨rfl, by (repeat' (first | (with_reducible exact Below.refl _ _) | (with_reducible assumption) | (with_reducible refine below_drewN ?_ _) | (with_reducible refine Below.alloc ?_ ?_ _) | (with_reducible refine Below.drew ?_) | (with_reducible refine Below.setCell ?_ ?_ _) | go_size))⟩

set_option maxHeartbeats 400000 in
theorem relocBack_any (a s k d p y : Int) (w : World) (a0 : -2147483648 ≤ a) (a1 : a < 2147483648) (k0 : 0 ≤ k) (k1 : k < 65536) (d0 : -9223372036854775808 ≤ d) (d1 : d < 9223372036854775808)
    (p0 : 0 ≤ p) (p1 : p < 4294967296) (y0 : 0 ≤ y) (y1 : y < 4294967296) :
    Calls Try.prog 20 #[relocVal a s k d p y] w (RetV (relocVal a s k d p y) w) := by
  unfold relocVal
  go_enter Try.func20, Try.ntmps20
  go_wp2_with fail
  refine (reloc_any a s k d p y _ k0 k1 p0 p1 y0 y1).mono ?_
  rintro e w1 ⟨g, rfl, hg, hblk, hb1⟩
  go_wp2_with fail
  refine (toldReloc_any g _ a s k d p y _ hblk a0 a1 k0 k1 d0 d1 p0 p1 y0 y1).mono ?_
  rintro e w2 ⟨rfl, hb2⟩
  have r := ((Blk.new1 w _ _ _).here hb1).here hb2
  have hrc := r.cell
  have hrf := r.frozen
  have hB := Lib.hid (below_from (below_from (by (repeat' (first | (with_reducible exact Below.refl _ _) | (with_reducible assumption) | (with_reducible refine below_drewN ?_ _) | (with_reducible refine Below.alloc ?_ ?_ _) | (with_reducible refine Below.drew ?_) | (with_reducible refine Below.setCell ?_ ?_ _) | go_size))) hb1) hb2 : Below w.heap.size w w2)
  clear r hb1 hb2 hg hblk
  go_wp2_with fail
  have hB := hB.out
  have hz := hB.size
  exact bodyPost_ret (v := relocVal a s k d p y) (by simp [results, Try.results20, go_sem, hrc]) rfl ⟨rfl, by (repeat' (first | (with_reducible exact Below.refl _ _) | (with_reducible assumption) | (with_reducible refine below_drewN ?_ _) | (with_reducible refine Below.alloc ?_ ?_ _) | (with_reducible refine Below.drew ?_) | (with_reducible refine Below.setCell ?_ ?_ _) | go_size))⟩

set_option maxHeartbeats 400000 in
theorem fnRelocation_any (a s k d p y : Int) (w : World) (ba : -2147483648 ≤ a ∧ a < 2147483648) (_ : 0 ≤ s ∧ s < 256) (bk : 0 ≤ k ∧ k < 65536) (bd : -9223372036854775808 ≤ d ∧ d < 9223372036854775808) (bp : 0 ≤ p ∧ p < 4294967296) (bq : 0 ≤ y ∧ y < 4294967296) :
    Calls Try.prog 10 #[relocVal a s k d p y] w (LawEnd w) := by
  unfold relocVal
  go_enter Try.func10, Try.ntmps10
  go_wp2_with fail
  go_region_held3 (fun w' => w'.cell? ⟨w.heap.size, 0, none⟩ = some (.int .i32 a) ∧ w'.cell? ⟨w.heap.size, 1, none⟩ = some (.int .u8 s) ∧ w'.cell? ⟨w.heap.size, 2, none⟩ = some (.int .u16 k) ∧ w'.cell? ⟨w.heap.size, 3, none⟩ = some (.int .i64 d) ∧ w'.cell? ⟨w.heap.size, 4, none⟩ = some (.int .u32 p) ∧ w'.cell? ⟨w.heap.size, 5, none⟩ = some (.int .u32 y))
    (first | go_keep | (go_split_ands; refine ⟨?_, ?_, ?_, ?_, ?_, ?_⟩ <;> (refine keep_cell hb1 ?_; first | assumption | (simp [go_sem]; done))))
    (first | (go_at_call 20; refine (relocBack_any a s k d p y _ ba.1 ba.2 bk.1 bk.2 bd.1 bd.2 bp.1 bp.2 bq.1 bq.2).mono ?_; rintro e w1 ⟨rfl, hb1⟩))
  go_wp2_with fail
  go_returns
  exact ⟨by simp, below_from (by (repeat' (first | (with_reducible exact Below.refl _ _) | (with_reducible assumption) | (with_reducible refine below_drewN ?_ _) | (with_reducible refine Below.alloc ?_ ?_ _) | (with_reducible refine Below.drew ?_) | (with_reducible refine Below.setCell ?_ ?_ _) | go_size))) hb1⟩
end Go.Proofs.Ytnnhdoocklaeoaa
