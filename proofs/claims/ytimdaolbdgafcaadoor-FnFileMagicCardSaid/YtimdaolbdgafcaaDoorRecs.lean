/- Auxiliary symbols, relocations, flags: told again, written as bytes; the laws. -/
import Derived.Test.YtimdaolbdgafcaaDoorAux
import Derived.Test.YtimdaolbdgafcaaDoorBuf
import Derived.Test.YtimdaolbdgafcaaDoorSpecR
namespace Go.Proofs.YtimdaolbdgafcaaDoor
open Go.RowKit

theorem leN4 (v : Int) : leN 4 v = [v % 256, v / 256 % 256, v / 65536 % 256, v / 16777216 % 256] := by
  simp only [leN]
  rw [show v / 256 / 256 = v / 65536 from by omega, show v / 65536 / 256 = v / 16777216 from by omega]
theorem leN2 (v : Int) : leN 2 v = [v % 256, v / 256 % 256] := by simp only [leN]
theorem leN8 (v : Int) : leN 8 v = leN 4 v ++ leN 4 (v / 4294967296) := by
  rw [leN4, leN4]
  simp only [leN, List.cons_append, List.nil_append]
  rw [show v / 256 / 256 = v / 65536 from by omega, show v / 65536 / 256 = v / 16777216 from by omega, show v / 16777216 / 256 = v / 4294967296 from by omega, show v / 4294967296 / 256 / 256 = v / 4294967296 / 65536 from by omega, show v / 4294967296 / 65536 / 256 = v / 4294967296 / 16777216 from by omega]

set_option maxHeartbeats 400000 in
theorem auxTold_any (g : Nat) (t_ : TypeId) (s p y : Int) (w : World) (hb : Blk w g t_ (auxCells s p y)) (p0 : 0 ≤ p) (p1 : p < 4294967296) (y0 : 0 ≤ y) (y1 : y < 4294967296) : Calls Tryd.prog 83 #[.pointer (some ⟨g, 0, none⟩)] w (RetV (auxVal s p y) w) := by
  have H := Lib.hid (fun o => hb.alloc o)
  clear hb
  unfold auxVal
  go_enter Tryd.func83, Tryd.ntmps83
  go_wp2_with (first
   | (go_at_call 124; refine (aux_Type g s p y _ ((H.out _).drewN 0).cell).mono ?_; rintro e w' ⟨rfl, n1, rfl⟩)
   | (go_at_call 125; refine (aux_Sym g s p y _ ((H.out _).drewN _).cell p0 p1 y0 y1 ((H.out _).drewN _).lt).mono ?_; rintro e w1 ⟨rfl, hb1⟩)
   | (go_at_call 89; refine (told_any p y _).mono ?_; rintro e w2 ⟨rfl, hb2⟩; have r := (((Blk.new w _ _).drewN _).here hb1).here hb2; have hrc := r.cell; have hrf := r.frozen; have hB := Lib.hid (below_from (below_from (by (repeat' (first | (with_reducible exact Below.refl _ _) | (with_reducible assumption) | (with_reducible refine below_drewN ?_ _) | (with_reducible refine Below.alloc ?_ ?_ _) | (with_reducible refine Below.drew ?_) | (with_reducible refine Below.setCell ?_ ?_ _) | go_size))) hb1) hb2 : Below w.heap.size w w2); clear r hb1 hb2))
  have hB := hB.out
  have hz := hB.size
  exact bodyPost_ret (v := auxVal s p y) (by simp [results, Tryd.results83, go_sem, hrc]) rfl ⟨rfl, by (repeat' (first | (with_reducible exact Below.refl _ _) | (with_reducible assumption) | (with_reducible refine below_drewN ?_ _) | (with_reducible refine Below.alloc ?_ ?_ _) | (with_reducible refine Below.drew ?_) | (with_reducible refine Below.setCell ?_ ?_ _) | go_size))⟩


set_option maxHeartbeats 400000 in
theorem flagsTold_any (g : Nat) (t_ : TypeId) (p y s t : Int) (w : World) (hb : Blk w g t_ (flagsCells p y s t)) (p0 : 0 ≤ p) (p1 : p < 4294967296) (y0 : 0 ≤ y) (y1 : y < 4294967296) : Calls Tryd.prog 86 #[.pointer (some ⟨g, 0, none⟩)] w (RetV (flagsVal p y s t) w) := by
  have H := Lib.hid (fun o => hb.alloc o)
  clear hb
  unfold flagsVal
  go_enter Tryd.func86, Tryd.ntmps86
  go_wp2_with (first
   | (go_at_call 126; refine (flags_Sym g p y s t _ (H.out _).cell p0 p1 y0 y1 (H.out _).lt).mono ?_; rintro e w1 ⟨rfl, hb1⟩; have K1 := Lib.hid ((H.out _).here hb1))
   | (go_at_call 89; refine (told_any p y _).mono ?_; rintro e w2 ⟨rfl, hb2⟩; have r := Lib.hid (((Blk.new w _ _).here hb1).here hb2); have K2 := Lib.hid (K1.out.here hb2); have hB := Lib.hid (below_from (below_from (by (repeat' (first | (with_reducible exact Below.refl _ _) | (with_reducible assumption) | (with_reducible refine below_drewN ?_ _) | (with_reducible refine Below.alloc ?_ ?_ _) | (with_reducible refine Below.drew ?_) | (with_reducible refine Below.setCell ?_ ?_ _) | go_size))) hb1) hb2 : Below w.heap.size w w2); clear hb1 hb2)
   | (go_at_call 127; refine (flags_Flag g p y s t _ (K2.out.drewN 0).cell).mono ?_; rintro e w' ⟨rfl, n1, rfl⟩)
   | (go_at_call 128; refine (flags_Flag2 g p y s t _ (K2.out.drewN _).cell).mono ?_; rintro e w' ⟨rfl, n2, rfl⟩; have hrc := r.out.cell; have hrf := r.out.frozen))
  have hB := hB.out
  have hz := hB.size
  exact bodyPost_ret (v := flagsVal p y s t) (by simp [results, Tryd.results86, go_sem, hrc]) rfl ⟨rfl, by (repeat' (first | (with_reducible exact Below.refl _ _) | (with_reducible assumption) | (with_reducible refine below_drewN ?_ _) | (with_reducible refine Below.alloc ?_ ?_ _) | (with_reducible refine Below.drew ?_) | (with_reducible refine Below.setCell ?_ ?_ _) | go_size))⟩


theorem aux_cells (s p y : Int) : auxCells s p y = (bcs ([s] ++ (leN 4 p ++ leN 4 y))).toArray := by
  simp only [leN4, bcs, auxCells, List.cons_append, List.nil_append, List.map_cons, List.map_nil]

theorem aux_Write (B wb b mb : Nat) (xs : List Int) (w : World) (h : IsWriter B wb b mb xs w) (hB : B ≤ w.heap.size) (g : Nat) (t_ : TypeId) (s p y : Int) (hb : Blk w g t_ (auxCells s p y)) (hg : g ≠ b) (hx : xs.length + 9 < 4294967296) :
    Calls Tryd.prog 144 #[.pointer (some ⟨g, 0, none⟩), .pointer (some ⟨wb, 0, none⟩)] w (Wrote B wb b mb (xs ++ ([s] ++ (leN 4 p ++ leN 4 y))) w) := by
  have H := Lib.hid h
  have HB := Lib.hid hb
  clear h hb
  go_enter Tryd.func144, Tryd.ntmps144
  go_wp2_with fail
  refine (writer_Bytes B wb b mb xs w H.out hB ⟨g, 0, none⟩ 9 9 ([s] ++ (leN 4 p ++ leN 4 y)) (by simp [leN_length]) hg (fun j u hu => by rw [Lib.addr_add, HB.out.cell, aux_cells, List.getElem?_toArray, Nat.zero_add]; exact hu) hx).mono ?_
  rintro e w1 ⟨rfl, h1, h2⟩
  go_wp2_with fail
  go_end0
  exact ⟨rfl, h1, h2⟩


theorem reloc_cells (a s k d p y : Int) : relocCells a s k d p y = (bcs (leN 4 a ++ ([s] ++ (leN 2 k ++ (leN 8 d ++ (leN 4 p ++ leN 4 y)))))).toArray := by
  simp only [leN8, leN4, leN2, bcs, relocCells, List.cons_append, List.nil_append, List.map_cons, List.map_nil]

theorem reloc_Write (B wb b mb : Nat) (xs : List Int) (w : World) (h : IsWriter B wb b mb xs w) (hB : B ≤ w.heap.size) (g : Nat) (t_ : TypeId) (a s k d p y : Int) (hb : Blk w g t_ (relocCells a s k d p y)) (hg : g ≠ b) (hx : xs.length + 23 < 4294967296) :
    Calls Tryd.prog 142 #[.pointer (some ⟨g, 0, none⟩), .pointer (some ⟨wb, 0, none⟩)] w (Wrote B wb b mb (xs ++ (leN 4 a ++ ([s] ++ (leN 2 k ++ (leN 8 d ++ (leN 4 p ++ leN 4 y)))))) w) := by
  have H := Lib.hid h
  have HB := Lib.hid hb
  clear h hb
  go_enter Tryd.func142, Tryd.ntmps142
  go_wp2_with fail
  refine (writer_Bytes B wb b mb xs w H.out hB ⟨g, 0, none⟩ 23 23 (leN 4 a ++ ([s] ++ (leN 2 k ++ (leN 8 d ++ (leN 4 p ++ leN 4 y))))) (by simp [leN_length]) hg (fun j u hu => by rw [Lib.addr_add, HB.out.cell, reloc_cells, List.getElem?_toArray, Nat.zero_add]; exact hu) hx).mono ?_
  rintro e w1 ⟨rfl, h1, h2⟩
  go_wp2_with fail
  go_end0
  exact ⟨rfl, h1, h2⟩


theorem flags_cells (p y s t : Int) : flagsCells p y s t = (bcs ((leN 4 p ++ leN 4 y) ++ [s, t])).toArray := by
  simp only [leN4, bcs, flagsCells, List.cons_append, List.nil_append, List.map_cons, List.map_nil]

theorem flags_Write (B wb b mb : Nat) (xs : List Int) (w : World) (h : IsWriter B wb b mb xs w) (hB : B ≤ w.heap.size) (g : Nat) (t_ : TypeId) (p y s t : Int) (hb : Blk w g t_ (flagsCells p y s t)) (hg : g ≠ b) (hx : xs.length + 10 < 4294967296) :
    Calls Tryd.prog 111 #[.pointer (some ⟨g, 0, none⟩), .pointer (some ⟨wb, 0, none⟩)] w (Wrote B wb b mb (xs ++ ((leN 4 p ++ leN 4 y) ++ [s, t])) w) := by
  have H := Lib.hid h
  have HB := Lib.hid hb
  clear h hb
  go_enter Tryd.func111, Tryd.ntmps111
  go_wp2_with fail
  refine (writer_Bytes B wb b mb xs w H.out hB ⟨g, 0, none⟩ 10 10 ((leN 4 p ++ leN 4 y) ++ [s, t]) (by simp [leN_length]) hg (fun j u hu => by rw [Lib.addr_add, HB.out.cell, flags_cells, List.getElem?_toArray, Nat.zero_add]; exact hu) hx).mono ?_
  rintro e w1 ⟨rfl, h1, h2⟩
  go_wp2_with fail
  go_end0
  exact ⟨rfl, h1, h2⟩





end Go.Proofs.YtimdaolbdgafcaaDoor
