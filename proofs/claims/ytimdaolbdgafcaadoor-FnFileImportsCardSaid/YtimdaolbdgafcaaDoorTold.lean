/- Records told where they stand among bytes. (printed by gen_told.py) -/
import Derived.Test.YtimdaolbdgafcaaDoorFm
namespace Go.Proofs.YtimdaolbdgafcaaDoor
open Go.RowKit

theorem wrap32_back2 (a : Int) (a0 : -2147483648 ≤ a) (a1 : a < 2147483648) : wrap32 (a % 4294967296) = a := by unfold wrap32; omega
theorem wrap64_back2 (d : Int) (d0 : -9223372036854775808 ≤ d) (d1 : d < 9223372036854775808) : wrap64 (d % 18446744073709551616) = d := by unfold wrap64; omega
theorem Rl.bytes_le (r : Rl) : r.bytes = le4 r.off ++ ([r.size] ++ (le2 r.kind ++ (le8 r.add ++ (le4 r.pkg ++ le4 r.sym)))) := by
  simp only [Rl.bytes, leN8, leN4, leN2, le4, le2, le8]
theorem Ax.bytes_le (r : Ax) : r.bytes = [r.kind] ++ (le4 r.pkg ++ le4 r.sym) := by
  simp only [Ax.bytes, leN4, le4]
theorem Fl.bytes_le (r : Fl) : r.bytes = (le4 r.pkg ++ le4 r.sym) ++ [r.flag, r.flag2] := by
  simp only [Fl.bytes, leN4, le4]
theorem le32_cells {d q : Nat} (n c : Nat) (v : Int) (w : World) (hl : 4 ≤ n) (v0 : 0 ≤ v) (v1 : v < 4294967296) (h : At w d q (le4 v)) : Calls Tryd.prog 129 #[.slice (some ⟨d, q, none⟩) n c] w (RetQ (.int .u32 v) w) := by
  have r := le32_at d q n c v w hl (h 0 _ rfl) (h 1 _ rfl) (h 2 _ rfl) (h 3 _ rfl)
  rwa [show v % 4294967296 = v from by omega] at r
theorem At.sub {w : World} {g o : Nat} {xs ys : List Int} (h : At w g o xs) (p : Nat) (k : Has xs p ys) : At w g (o + p) ys := h.has k
theorem At.heapEq {w W : World} {g o : Nat} {xs : List Int} (h : At w g o xs) (ob : Obj) (hg : g < w.heap.size) (hW : W.heap = (w.alloc ob).heap) : At W g o xs := h.heap (by rw [hW]; exact Below.heap_alloc w ob g hg)
theorem atAux_Type (q d : Nat) (r : Ax) (w : World) (h : At w d q r.bytes) : Calls Tryd.prog 124 #[.pointer (some ⟨d, q, none⟩)] w (RetQ (.int .u8 r.kind) w) := by
  rw [Ax.bytes_le] at h
  have c0 : w.cell? ⟨d, q + 0, none⟩ = some (.int .u8 r.kind) := h 0 _ rfl
  rw [Nat.add_zero] at c0
  clear h
  go_enter Tryd.func124, Tryd.ntmps124
  go_wp2
  go_ret
  exact ⟨rfl, 0, rfl⟩
set_option maxHeartbeats 400000 in
theorem atAux_Sym (q d : Nat) (r : Ax) (w : World) (h : At w d q r.bytes) (hd : d < w.heap.size) (ok : r.Ok) : Calls Tryd.prog 125 #[.pointer (some ⟨d, q, none⟩)] w (RetV (.agg #[.int .u32 r.pkg, .int .u32 r.sym]) w) := by
  rw [Ax.bytes_le] at h
  have p0 := ok.p.1
  have p1 := ok.p.2
  have y0 := ok.y.1
  have y1 := ok.y.2
  have L0 : ∀ (W : World), W.heap = (w.alloc (.cells #[.int .u32 0, .int .u32 0] 150)).heap → Calls Tryd.prog 129 #[.slice (some ⟨d, q + 1, none⟩) 8 8] W (RetQ (.int .u32 r.pkg) W) := fun W hW => by
    have hx := h.heapEq _ hd hW
    exact le32_cells _ _ _ W (by omega) p0 p1 (fun j z hz => by
      have hj : j < 4 := (List.getElem?_eq_some_iff.1 hz).1
      have h2 := hx (1 + j) z (by rcases j with _ | _ | _ | _ | j <;> first | exact hz | omega)
      rwa [← Nat.add_assoc] at h2)
  have L1 : ∀ (W : World), W.heap = (w.alloc (.cells #[.int .u32 0, .int .u32 0] 150)).heap → Calls Tryd.prog 129 #[.slice (some ⟨d, q + 5, none⟩) 4 4] W (RetQ (.int .u32 r.sym) W) := fun W hW => by
    have hx := h.heapEq _ hd hW
    exact le32_cells _ _ _ W (by omega) y0 y1 (fun j z hz => by
      have hj : j < 4 := (List.getElem?_eq_some_iff.1 hz).1
      have h2 := hx (5 + j) z (by rcases j with _ | _ | _ | _ | j <;> first | exact hz | omega)
      rwa [← Nat.add_assoc] at h2)
  have H0 := Lib.hid L0
  have H1 := Lib.hid L1
  clear h L0 L1 ok
  go_enter Tryd.func125, Tryd.ntmps125
  go_wp2_with fail
  go_region_held3 (fun _ => True) (first | trivial | go_keep)
    (first | (go_at_call 129; (with_reducible refine (H0.out _ ?_).mono ?_); rfl; rintro e w1 ⟨rfl, n1, rfl⟩) | (go_at_call 129; (with_reducible refine (H1.out _ ?_).mono ?_); rfl; rintro e w1 ⟨rfl, n2, rfl⟩))
  go_wp2_with fail
  exact bodyPost_ret (v := .agg #[.int .u32 r.pkg, .int .u32 r.sym]) (by simp [results, Tryd.results125, go_sem]) rfl ⟨rfl, by (repeat' (first | (with_reducible exact Below.refl _ _) | (with_reducible assumption) | (with_reducible refine below_drewN ?_ _) | (with_reducible refine Below.alloc ?_ ?_ _) | (with_reducible refine Below.drew ?_) | (with_reducible refine Below.setCell ?_ ?_ _) | go_size))⟩
set_option maxHeartbeats 400000 in
theorem atRefFlags_Sym (q d : Nat) (r : Fl) (w : World) (h : At w d q r.bytes) (hd : d < w.heap.size) (ok : r.Ok) : Calls Tryd.prog 126 #[.pointer (some ⟨d, q, none⟩)] w (RetV (.agg #[.int .u32 r.pkg, .int .u32 r.sym]) w) := by
  rw [Fl.bytes_le] at h
  have p0 := ok.p.1
  have p1 := ok.p.2
  have y0 := ok.y.1
  have y1 := ok.y.2
  have L0 : ∀ (W : World), W.heap = (w.alloc (.cells #[.int .u32 0, .int .u32 0] 150)).heap → Calls Tryd.prog 129 #[.slice (some ⟨d, q, none⟩) 10 10] W (RetQ (.int .u32 r.pkg) W) := fun W hW => by
    have hx := h.heapEq _ hd hW
    exact le32_cells _ _ _ W (by omega) p0 p1 (fun j z hz => by
      have hj : j < 4 := (List.getElem?_eq_some_iff.1 hz).1
      have h2 := hx (0 + j) z (by rcases j with _ | _ | _ | _ | j <;> first | exact hz | omega)
      rwa [show q + (0 + j) = q + j from by omega] at h2)
  have L1 : ∀ (W : World), W.heap = (w.alloc (.cells #[.int .u32 0, .int .u32 0] 150)).heap → Calls Tryd.prog 129 #[.slice (some ⟨d, q + 4, none⟩) 6 6] W (RetQ (.int .u32 r.sym) W) := fun W hW => by
    have hx := h.heapEq _ hd hW
    exact le32_cells _ _ _ W (by omega) y0 y1 (fun j z hz => by
      have hj : j < 4 := (List.getElem?_eq_some_iff.1 hz).1
      have h2 := hx (4 + j) z (by rcases j with _ | _ | _ | _ | j <;> first | exact hz | omega)
      rwa [← Nat.add_assoc] at h2)
  have H0 := Lib.hid L0
  have H1 := Lib.hid L1
  clear h L0 L1 ok
  go_enter Tryd.func126, Tryd.ntmps126
  go_wp2_with fail
  go_region_held3 (fun _ => True) (first | trivial | go_keep)
    (first | (go_at_call 129; (with_reducible refine (H0.out _ ?_).mono ?_); rfl; rintro e w1 ⟨rfl, n1, rfl⟩) | (go_at_call 129; (with_reducible refine (H1.out _ ?_).mono ?_); rfl; rintro e w1 ⟨rfl, n2, rfl⟩))
  go_wp2_with fail
  exact bodyPost_ret (v := .agg #[.int .u32 r.pkg, .int .u32 r.sym]) (by simp [results, Tryd.results126, go_sem]) rfl ⟨rfl, by (repeat' (first | (with_reducible exact Below.refl _ _) | (with_reducible assumption) | (with_reducible refine below_drewN ?_ _) | (with_reducible refine Below.alloc ?_ ?_ _) | (with_reducible refine Below.drew ?_) | (with_reducible refine Below.setCell ?_ ?_ _) | go_size))⟩
theorem atRefFlags_Flag (q d : Nat) (r : Fl) (w : World) (h : At w d q r.bytes) : Calls Tryd.prog 127 #[.pointer (some ⟨d, q, none⟩)] w (RetQ (.int .u8 r.flag) w) := by
  rw [Fl.bytes_le] at h
  have c0 : w.cell? ⟨d, q + 8, none⟩ = some (.int .u8 r.flag) := h 8 _ rfl
  skip
  clear h
  go_enter Tryd.func127, Tryd.ntmps127
  go_wp2
  go_ret
  exact ⟨rfl, 0, rfl⟩
theorem atRefFlags_Flag2 (q d : Nat) (r : Fl) (w : World) (h : At w d q r.bytes) : Calls Tryd.prog 128 #[.pointer (some ⟨d, q, none⟩)] w (RetQ (.int .u8 r.flag2) w) := by
  rw [Fl.bytes_le] at h
  have c0 : w.cell? ⟨d, q + 9, none⟩ = some (.int .u8 r.flag2) := h 9 _ rfl
  skip
  clear h
  go_enter Tryd.func128, Tryd.ntmps128
  go_wp2
  go_ret
  exact ⟨rfl, 0, rfl⟩
set_option maxHeartbeats 400000 in
theorem toldAux_at (q d : Nat) (r : Ax) (w : World) (h : At w d q r.bytes) (hd : d < w.heap.size) (ok : r.Ok) : Calls Tryd.prog 83 #[.pointer (some ⟨d, q, none⟩)] w (RetV (.agg #[.int .u8 r.kind, .int .u32 r.pkg, .int .u32 r.sym]) w) := by
  have H := Lib.hid (h.here (later_alloc w (.cells #[.int .u8 0, .int .u32 0, .int .u32 0] 71)))
  have OK := Lib.hid ok
  clear h ok
  go_enter Tryd.func83, Tryd.ntmps83
  go_wp2_with fail
  refine (atAux_Type q d r _ (H.out.drewN 0)).mono ?_
  rintro e w' ⟨rfl, n1, rfl⟩
  go_wp2_with fail
  refine (atAux_Sym q d r _ (H.out.drewN _) (by simp; omega) OK.out).mono ?_
  rintro e w1 ⟨rfl, hb1⟩
  have r1 := Lib.hid (((Blk.new w 71 #[.int .u8 0, .int .u32 0, .int .u32 0]).drewN _).here hb1)
  go_wp2_with fail
  refine (told_any r.pkg r.sym _).mono ?_
  rintro e w2 ⟨rfl, hb2⟩
  have r2 := r1.out.here hb2
  have hrc := r2.cell
  have hrf := r2.frozen
  have hB := Lib.hid (below_from (below_from (by (repeat' (first | (with_reducible exact Below.refl _ _) | (with_reducible assumption) | (with_reducible refine below_drewN ?_ _) | (with_reducible refine Below.alloc ?_ ?_ _) | (with_reducible refine Below.drew ?_) | (with_reducible refine Below.setCell ?_ ?_ _) | go_size))) hb1) hb2 : Below w.heap.size w w2)
  clear r2 hb1 hb2
  go_wp2_with fail
  have hB := hB.out
  have hz := hB.size
  exact bodyPost_ret (v := .agg #[.int .u8 r.kind, .int .u32 r.pkg, .int .u32 r.sym]) (by simp [results, Tryd.results83, go_sem, hrc]) rfl ⟨rfl, by (repeat' (first | (with_reducible exact Below.refl _ _) | (with_reducible assumption) | (with_reducible refine below_drewN ?_ _) | (with_reducible refine Below.alloc ?_ ?_ _) | (with_reducible refine Below.drew ?_) | (with_reducible refine Below.setCell ?_ ?_ _) | go_size))⟩
set_option maxHeartbeats 400000 in
theorem toldFlags_at (q d : Nat) (r : Fl) (w : World) (h : At w d q r.bytes) (hd : d < w.heap.size) (ok : r.Ok) : Calls Tryd.prog 86 #[.pointer (some ⟨d, q, none⟩)] w (RetV (.agg #[.int .u32 r.pkg, .int .u32 r.sym, .int .u8 r.flag, .int .u8 r.flag2]) w) := by
  have H := Lib.hid (h.here (later_alloc w (.cells #[.int .u32 0, .int .u32 0, .int .u8 0, .int .u8 0] 80)))
  have OK := Lib.hid ok
  clear h ok
  go_enter Tryd.func86, Tryd.ntmps86
  go_wp2_with fail
  refine (atRefFlags_Sym q d r _ (H.out.drewN 0) (by simp; omega) OK.out).mono ?_
  rintro e w1 ⟨rfl, hb1⟩
  have r1 := Lib.hid ((Blk.new w 80 #[.int .u32 0, .int .u32 0, .int .u8 0, .int .u8 0]).here hb1)
  have K1 := Lib.hid (H.out.here hb1)
  go_wp2_with fail
  refine (told_any r.pkg r.sym _).mono ?_
  rintro e w2 ⟨rfl, hb2⟩
  have r2 := Lib.hid (r1.out.here hb2)
  have K2 := Lib.hid (K1.out.here hb2)
  have hB := Lib.hid (below_from (below_from (by (repeat' (first | (with_reducible exact Below.refl _ _) | (with_reducible assumption) | (with_reducible refine below_drewN ?_ _) | (with_reducible refine Below.alloc ?_ ?_ _) | (with_reducible refine Below.drew ?_) | (with_reducible refine Below.setCell ?_ ?_ _) | go_size))) hb1) hb2 : Below w.heap.size w w2)
  clear hb1 hb2
  go_wp2_with fail
  refine (atRefFlags_Flag q d r _ (K2.out.drewN 0)).mono ?_
  rintro e w' ⟨rfl, n1, rfl⟩
  go_wp2_with fail
  refine (atRefFlags_Flag2 q d r _ (K2.out.drewN _)).mono ?_
  rintro e w' ⟨rfl, n2, rfl⟩
  have hrc := r2.out.cell
  have hrf := r2.out.frozen
  go_wp2_with fail
  have hB := hB.out
  have hz := hB.size
  exact bodyPost_ret (v := .agg #[.int .u32 r.pkg, .int .u32 r.sym, .int .u8 r.flag, .int .u8 r.flag2]) (by simp [results, Tryd.results86, go_sem, hrc]) rfl ⟨rfl, by (repeat' (first | (with_reducible exact Below.refl _ _) | (with_reducible assumption) | (with_reducible refine below_drewN ?_ _) | (with_reducible refine Below.alloc ?_ ?_ _) | (with_reducible refine Below.drew ?_) | (with_reducible refine Below.setCell ?_ ?_ _) | go_size))⟩
end Go.Proofs.YtimdaolbdgafcaaDoor
