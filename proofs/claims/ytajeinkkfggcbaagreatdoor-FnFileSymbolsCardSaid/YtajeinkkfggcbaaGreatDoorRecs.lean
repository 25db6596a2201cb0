/- Auxiliary symbols, relocations, flags: told again, written as bytes; the laws. -/
import Derived.Test.YtajeinkkfggcbaaGreatDoorAux
import Derived.Test.YtajeinkkfggcbaaGreatDoorBuf
import Derived.Test.YtajeinkkfggcbaaGreatDoorSpecR
namespace Go.Proofs.YtajeinkkfggcbaaGreatDoor
open Go.RowKit

theorem leN4 (v : Int) : leN 4 v = [v % 256, v / 256 % 256, v / 65536 % 256, v / 16777216 % 256] := by
  simp only [leN]
  rw [show v / 256 / 256 = v / 65536 from by omega, show v / 65536 / 256 = v / 16777216 from by omega]
theorem leN2 (v : Int) : leN 2 v = [v % 256, v / 256 % 256] := by simp only [leN]
theorem leN8 (v : Int) : leN 8 v = leN 4 v ++ leN 4 (v / 4294967296) := by
  rw [leN4, leN4]
  simp only [leN, List.cons_append, List.nil_append]
  rw [show v / 256 / 256 = v / 65536 from by omega, show v / 65536 / 256 = v / 16777216 from by omega, show v / 16777216 / 256 = v / 4294967296 from by omega, show v / 4294967296 / 256 / 256 = v / 4294967296 / 65536 from by omega, show v / 4294967296 / 65536 / 256 = v / 4294967296 / 16777216 from by omega]





theorem aux_cells (s p y : Int) : auxCells s p y = (bcs ([s] ++ (leN 4 p ++ leN 4 y))).toArray := by
  simp only [leN4, bcs, auxCells, List.cons_append, List.nil_append, List.map_cons, List.map_nil]

theorem aux_Write (B wb b mb : Nat) (xs : List Int) (w : World) (h : IsWriter B wb b mb xs w) (hB : B ≤ w.heap.size) (g : Nat) (t_ : TypeId) (s p y : Int) (hb : Blk w g t_ (auxCells s p y)) (hg : g ≠ b) (hx : xs.length + 9 < 4294967296) :
    Calls Tryz.prog 85 #[.pointer (some ⟨g, 0, none⟩), .pointer (some ⟨wb, 0, none⟩)] w (Wrote B wb b mb (xs ++ ([s] ++ (leN 4 p ++ leN 4 y))) w) := by
  have H := Lib.hid h
  have HB := Lib.hid hb
  clear h hb
  go_enter Tryz.func85, Tryz.ntmps85
  go_wp2_with fail
  refine (writer_Bytes B wb b mb xs w H.out hB ⟨g, 0, none⟩ 9 9 ([s] ++ (leN 4 p ++ leN 4 y)) (by simp [leN_length]) hg (fun j u hu => by rw [Lib.addr_add, HB.out.cell, aux_cells, List.getElem?_toArray, Nat.zero_add]; exact hu) hx).mono ?_
  rintro e w1 ⟨rfl, h1, h2⟩
  go_wp2_with fail
  go_end0
  exact ⟨rfl, h1, h2⟩


theorem reloc_cells (a s k d p y : Int) : relocCells a s k d p y = (bcs (leN 4 a ++ ([s] ++ (leN 2 k ++ (leN 8 d ++ (leN 4 p ++ leN 4 y)))))).toArray := by
  simp only [leN8, leN4, leN2, bcs, relocCells, List.cons_append, List.nil_append, List.map_cons, List.map_nil]

theorem reloc_Write (B wb b mb : Nat) (xs : List Int) (w : World) (h : IsWriter B wb b mb xs w) (hB : B ≤ w.heap.size) (g : Nat) (t_ : TypeId) (a s k d p y : Int) (hb : Blk w g t_ (relocCells a s k d p y)) (hg : g ≠ b) (hx : xs.length + 23 < 4294967296) :
    Calls Tryz.prog 83 #[.pointer (some ⟨g, 0, none⟩), .pointer (some ⟨wb, 0, none⟩)] w (Wrote B wb b mb (xs ++ (leN 4 a ++ ([s] ++ (leN 2 k ++ (leN 8 d ++ (leN 4 p ++ leN 4 y)))))) w) := by
  have H := Lib.hid h
  have HB := Lib.hid hb
  clear h hb
  go_enter Tryz.func83, Tryz.ntmps83
  go_wp2_with fail
  refine (writer_Bytes B wb b mb xs w H.out hB ⟨g, 0, none⟩ 23 23 (leN 4 a ++ ([s] ++ (leN 2 k ++ (leN 8 d ++ (leN 4 p ++ leN 4 y))))) (by simp [leN_length]) hg (fun j u hu => by rw [Lib.addr_add, HB.out.cell, reloc_cells, List.getElem?_toArray, Nat.zero_add]; exact hu) hx).mono ?_
  rintro e w1 ⟨rfl, h1, h2⟩
  go_wp2_with fail
  go_end0
  exact ⟨rfl, h1, h2⟩


theorem flags_cells (p y s t : Int) : flagsCells p y s t = (bcs ((leN 4 p ++ leN 4 y) ++ [s, t])).toArray := by
  simp only [leN4, bcs, flagsCells, List.cons_append, List.nil_append, List.map_cons, List.map_nil]

theorem flags_Write (B wb b mb : Nat) (xs : List Int) (w : World) (h : IsWriter B wb b mb xs w) (hB : B ≤ w.heap.size) (g : Nat) (t_ : TypeId) (p y s t : Int) (hb : Blk w g t_ (flagsCells p y s t)) (hg : g ≠ b) (hx : xs.length + 10 < 4294967296) :
    Calls Tryz.prog 45 #[.pointer (some ⟨g, 0, none⟩), .pointer (some ⟨wb, 0, none⟩)] w (Wrote B wb b mb (xs ++ ((leN 4 p ++ leN 4 y) ++ [s, t])) w) := by
  have H := Lib.hid h
  have HB := Lib.hid hb
  clear h hb
  go_enter Tryz.func45, Tryz.ntmps45
  go_wp2_with fail
  refine (writer_Bytes B wb b mb xs w H.out hB ⟨g, 0, none⟩ 10 10 ((leN 4 p ++ leN 4 y) ++ [s, t]) (by simp [leN_length]) hg (fun j u hu => by rw [Lib.addr_add, HB.out.cell, flags_cells, List.getElem?_toArray, Nat.zero_add]; exact hu) hx).mono ?_
  rintro e w1 ⟨rfl, h1, h2⟩
  go_wp2_with fail
  go_end0
  exact ⟨rfl, h1, h2⟩





end Go.Proofs.YtajeinkkfggcbaaGreatDoor
