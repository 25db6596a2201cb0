/- A relocation told where it stands among bytes. (printed by gen_told.py) -/
import Derived.Test.YtajeinkkfggcbaaGreatDoorTold
namespace Go.Proofs.YtajeinkkfggcbaaGreatDoor
open Go.RowKit

theorem atReloc_Off (q d : Nat) (r : Rl) (w : World) (h : At w d q r.bytes) (ok : r.Ok) : Calls Tryz.prog 64 #[.pointer (some ⟨d, q, none⟩)] w (RetQ (.int .i32 r.off) w) := by
  have E := Lib.hid (wrap32_back2 r.off ok.o.1 ok.o.2)
  rw [Rl.bytes_le] at h
  have c0 : w.cell? ⟨d, q + 0, none⟩ = some _ := h 0 _ rfl
  have c1 : w.cell? ⟨d, q + 1, none⟩ = some _ := h 1 _ rfl
  have c2 : w.cell? ⟨d, q + 2, none⟩ = some _ := h 2 _ rfl
  have c3 : w.cell? ⟨d, q + 3, none⟩ = some _ := h 3 _ rfl
  clear h ok
  go_enter Tryz.func64, Tryz.ntmps64
  go_wp2_with (go_at_call 55; refine (le32_at d q _ _ r.off _ (by omega) c0 c1 c2 c3).mono ?_; rintro e w' ⟨rfl, n1, rfl⟩)
  go_ret
  exact ⟨by simp [E.out], _, rfl⟩
theorem atReloc_Siz (q d : Nat) (r : Rl) (w : World) (h : At w d q r.bytes) : Calls Tryz.prog 65 #[.pointer (some ⟨d, q, none⟩)] w (RetQ (.int .u8 r.size) w) := by
  rw [Rl.bytes_le] at h
  have c0 : w.cell? ⟨d, q + 4, none⟩ = some (.int .u8 r.size) := h 4 _ rfl
  skip
  clear h
  go_enter Tryz.func65, Tryz.ntmps65
  go_wp2
  go_ret
  exact ⟨rfl, 0, rfl⟩
theorem atReloc_Type (q d : Nat) (r : Rl) (w : World) (h : At w d q r.bytes) (ok : r.Ok) : Calls Tryz.prog 66 #[.pointer (some ⟨d, q, none⟩)] w (RetQ (.int .u16 r.kind) w) := by
  have E := Lib.hid (show r.kind % 65536 = r.kind from by have := ok.k; omega)
  rw [Rl.bytes_le] at h
  have c0 : w.cell? ⟨d, (q + 5) + 0, none⟩ = some _ := h 5 _ rfl
  have c1 : w.cell? ⟨d, (q + 5) + 1, none⟩ = some _ := h 6 _ rfl
  clear h ok
  go_enter Tryz.func66, Tryz.ntmps66
  go_wp2_with (go_at_call 89; refine (le16_at d (q + 5) _ _ r.kind _ (by omega) c0 c1).mono ?_; rintro e w' ⟨rfl, n1, rfl⟩)
  go_ret
  exact ⟨by simp [E.out], _, rfl⟩
theorem atReloc_Add (q d : Nat) (r : Rl) (w : World) (h : At w d q r.bytes) (ok : r.Ok) : Calls Tryz.prog 67 #[.pointer (some ⟨d, q, none⟩)] w (RetQ (.int .i64 r.add) w) := by
  have E := Lib.hid (wrap64_back2 r.add ok.d.1 ok.d.2)
  rw [Rl.bytes_le] at h
  have c0 : w.cell? ⟨d, (q + 7) + 0, none⟩ = some _ := h 7 _ rfl
  have c1 : w.cell? ⟨d, (q + 7) + 1, none⟩ = some _ := h 8 _ rfl
  have c2 : w.cell? ⟨d, (q + 7) + 2, none⟩ = some _ := h 9 _ rfl
  have c3 : w.cell? ⟨d, (q + 7) + 3, none⟩ = some _ := h 10 _ rfl
  have c4 : w.cell? ⟨d, (q + 7) + 4, none⟩ = some _ := h 11 _ rfl
  have c5 : w.cell? ⟨d, (q + 7) + 5, none⟩ = some _ := h 12 _ rfl
  have c6 : w.cell? ⟨d, (q + 7) + 6, none⟩ = some _ := h 13 _ rfl
  have c7 : w.cell? ⟨d, (q + 7) + 7, none⟩ = some _ := h 14 _ rfl
  clear h ok
  go_enter Tryz.func67, Tryz.ntmps67
  go_wp2_with (go_at_call 90; refine (le64_at d (q + 7) _ _ r.add _ (by omega) (by omega) c0 c1 c2 c3 c4 c5 c6 c7).mono ?_; rintro e w' ⟨rfl, n1, rfl⟩)
  go_ret
  exact ⟨by simp [E.out], _, rfl⟩
set_option maxHeartbeats 400000 in
theorem atReloc_Sym (q d : Nat) (r : Rl) (w : World) (h : At w d q r.bytes) (hd : d < w.heap.size) (ok : r.Ok) : Calls Tryz.prog 69 #[.pointer (some ⟨d, q, none⟩)] w (RetV (.agg #[.int .u32 r.pkg, .int .u32 r.sym]) w) := by
  rw [Rl.bytes_le] at h
  have p0 := ok.p.1
  have p1 := ok.p.2
  have y0 := ok.y.1
  have y1 := ok.y.2
  have L0 : ∀ (W : World), W.heap = (w.alloc (.cells #[.int .u32 0, .int .u32 0] 123)).heap → Calls Tryz.prog 55 #[.slice (some ⟨d, q + 15, none⟩) 8 8] W (RetQ (.int .u32 r.pkg) W) := fun W hW => by
    have hx := h.heapEq _ hd hW
    exact le32_cells _ _ _ W (by omega) p0 p1 (fun j z hz => by
      have hj : j < 4 := (List.getElem?_eq_some_iff.1 hz).1
      have h2 := hx (15 + j) z (by rcases j with _ | _ | _ | _ | j <;> first | exact hz | omega)
      rwa [← Nat.add_assoc] at h2)
  have L1 : ∀ (W : World), W.heap = (w.alloc (.cells #[.int .u32 0, .int .u32 0] 123)).heap → Calls Tryz.prog 55 #[.slice (some ⟨d, q + 19, none⟩) 4 4] W (RetQ (.int .u32 r.sym) W) := fun W hW => by
    have hx := h.heapEq _ hd hW
    exact le32_cells _ _ _ W (by omega) y0 y1 (fun j z hz => by
      have hj : j < 4 := (List.getElem?_eq_some_iff.1 hz).1
      have h2 := hx (19 + j) z (by rcases j with _ | _ | _ | _ | j <;> first | exact hz | omega)
      rwa [← Nat.add_assoc] at h2)
  have H0 := Lib.hid L0
  have H1 := Lib.hid L1
  clear h L0 L1 ok
  go_enter Tryz.func69, Tryz.ntmps69
  go_wp2_with fail
  go_region_held3 (fun _ => True) (first | trivial | go_keep)
    (first | (go_at_call 55; (with_reducible refine (H0.out _ ?_).mono ?_); rfl; rintro e w1 ⟨rfl, n1, rfl⟩) | (go_at_call 55; (with_reducible refine (H1.out _ ?_).mono ?_); rfl; rintro e w1 ⟨rfl, n2, rfl⟩))
  go_wp2_with fail
  exact bodyPost_ret (v := .agg #[.int .u32 r.pkg, .int .u32 r.sym]) (by simp [results, Tryz.results69, go_sem]) rfl ⟨rfl, by (repeat' (first | (with_reducible exact Below.refl _ _) | (with_reducible assumption) | (with_reducible refine below_drewN ?_ _) | (with_reducible refine Below.alloc ?_ ?_ _) | (with_reducible refine Below.drew ?_) | (with_reducible refine Below.setCell ?_ ?_ _) | go_size))⟩
set_option maxHeartbeats 400000 in
theorem toldReloc_at (q d : Nat) (r : Rl) (w : World) (h : At w d q r.bytes) (hd : d < w.heap.size) (ok : r.Ok) : Calls Tryz.prog 28 #[.pointer (some ⟨d, q, none⟩)] w (RetV (.agg #[.int .i32 r.off, .int .u8 r.size, .int .u16 r.kind, .int .i64 r.add, .int .u32 r.pkg, .int .u32 r.sym]) w) := by
  have H := Lib.hid (h.here (later_alloc w (.cells #[.int .i32 0, .int .u8 0, .int .u16 0, .int .i64 0, .int .u32 0, .int .u32 0] 53)))
  have OK := Lib.hid ok
  clear h ok
  go_enter Tryz.func28, Tryz.ntmps28
  go_wp2_with fail
  refine (atReloc_Off q d r _ (H.out.drewN 0) OK.out).mono ?_
  rintro e w' ⟨rfl, n1, rfl⟩
  go_wp2_with fail
  refine (atReloc_Siz q d r _ (H.out.drewN _)).mono ?_
  rintro e w' ⟨rfl, n2, rfl⟩
  go_wp2_with fail
  refine (atReloc_Type q d r _ (H.out.drewN _) OK.out).mono ?_
  rintro e w' ⟨rfl, n3, rfl⟩
  go_wp2_with fail
  refine (atReloc_Add q d r _ (H.out.drewN _) OK.out).mono ?_
  rintro e w' ⟨rfl, n4, rfl⟩
  go_wp2_with fail
  refine (atReloc_Sym q d r _ (H.out.drewN _) (by simp; omega) OK.out).mono ?_
  rintro e w1 ⟨rfl, hb1⟩
  have r1 := Lib.hid (((Blk.new w 53 #[.int .i32 0, .int .u8 0, .int .u16 0, .int .i64 0, .int .u32 0, .int .u32 0]).drewN _).here hb1)
  go_wp2_with fail
  refine (told_any r.pkg r.sym _).mono ?_
  rintro e w2 ⟨rfl, hb2⟩
  have r2 := r1.out.here hb2
  have hrc := r2.cell
  have hrf := r2.frozen
  have hB := Lib.hid (below_from (below_from (by (repeat' (first | (with_reducible exact Below.refl _ _) | (with_reducible assumption) | (with_reducible refine below_drewN ?_ _) | (with_reducible refine Below.alloc ?_ ?_ _) | (with_reducible refine Below.drew ?_) | (with_reducible refine Below.setCell ?_ ?_ _) | go_size))) hb1) hb2 : Below w.heap.size w w2)
  clear r2 hb1 hb2
  go_wp2_with fail
  have hB := hB.out
  have hz := hB.size
  exact bodyPost_ret (v := .agg #[.int .i32 r.off, .int .u8 r.size, .int .u16 r.kind, .int .i64 r.add, .int .u32 r.pkg, .int .u32 r.sym]) (by simp [results, Tryz.results28, go_sem, hrc]) rfl ⟨rfl, by (repeat' (first | (with_reducible exact Below.refl _ _) | (with_reducible assumption) | (with_reducible refine below_drewN ?_ _) | (with_reducible refine Below.alloc ?_ ?_ _) | (with_reducible refine Below.drew ?_) | (with_reducible refine Below.setCell ?_ ?_ _) | go_size))⟩
end Go.Proofs.YtajeinkkfggcbaaGreatDoor
