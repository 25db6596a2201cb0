/- Auxiliary symbols, relocations, flags: told again, written as bytes; the laws. -/
import Derived.Test.YtnbojmciolecgaaDoorAux
import Derived.Test.YtnbojmciolecgaaDoorBuf
import Derived.Test.YtnbojmciolecgaaDoorSpecR
namespace Go.Proofs.YtnbojmciolecgaaDoor
open Go.RowKit

theorem leN4 (v : Int) : leN 4 v = [v % 256, v / 256 % 256, v / 65536 % 256, v / 16777216 % 256] := by
  simp only [leN]
  rw [show v / 256 / 256 = v / 65536 from by omega, show v / 65536 / 256 = v / 16777216 from by omega]
theorem leN2 (v : Int) : leN 2 v = [v % 256, v / 256 % 256] := by simp only [leN]
theorem leN8 (v : Int) : leN 8 v = leN 4 v ++ leN 4 (v / 4294967296) := by
  rw [leN4, leN4]
  simp only [leN, List.cons_append, List.nil_append]
  rw [show v / 256 / 256 = v / 65536 from by omega, show v / 65536 / 256 = v / 16777216 from by omega, show v / 16777216 / 256 = v / 4294967296 from by omega, show v / 4294967296 / 256 / 256 = v / 4294967296 / 65536 from by omega, show v / 4294967296 / 65536 / 256 = v / 4294967296 / 16777216 from by omega]

set_option maxHeartbeats 400000 in
theorem auxTold_any (g : Nat) (t_ : TypeId) (s p y : Int) (w : World) (hb : Blk w g t_ (auxCells s p y)) (p0 : 0 ≤ p) (p1 : p < 4294967296) (y0 : 0 ≤ y) (y1 : y < 4294967296) : Calls Tryd.prog 38 #[.pointer (some ⟨g, 0, none⟩)] w (RetV (auxVal s p y) w) := by
  have H := Lib.hid (fun o => hb.alloc o)
  clear hb
  unfold auxVal
  go_enter Tryd.func38, Tryd.ntmps38
  go_wp2_with (first
   | (go_at_call 71; refine (aux_Type g s p y _ ((H.out _).drewN 0).cell).mono ?_; rintro e w' ⟨rfl, n1, rfl⟩)
   | (go_at_call 73; refine (aux_Sym g s p y _ ((H.out _).drewN _).cell p0 p1 y0 y1 ((H.out _).drewN _).lt).mono ?_; rintro e w1 ⟨rfl, hb1⟩)
   | (go_at_call 72; refine (told_any p y _).mono ?_; rintro e w2 ⟨rfl, hb2⟩; have r := (((Blk.new w _ _).drewN _).here hb1).here hb2; have hrc := r.cell; have hrf := r.frozen; have hB := Lib.hid (below_from (below_from (by (repeat' (first | (with_reducible exact Below.refl _ _) | (with_reducible assumption) | (with_reducible refine below_drewN ?_ _) | (with_reducible refine Below.alloc ?_ ?_ _) | (with_reducible refine Below.drew ?_) | (with_reducible refine Below.setCell ?_ ?_ _) | go_size))) hb1) hb2 : Below w.heap.size w w2); clear r hb1 hb2))
  have hB := hB.out
  have hz := hB.size
  exact bodyPost_ret (v := auxVal s p y) (by simp [results, Tryd.results38, go_sem, hrc]) rfl ⟨rfl, by (repeat' (first | (with_reducible exact Below.refl _ _) | (with_reducible assumption) | (with_reducible refine below_drewN ?_ _) | (with_reducible refine Below.alloc ?_ ?_ _) | (with_reducible refine Below.drew ?_) | (with_reducible refine Below.setCell ?_ ?_ _) | go_size))⟩

set_option maxHeartbeats 400000 in
theorem auxBack_any (s p y : Int) (w : World) (p0 : 0 ≤ p) (p1 : p < 4294967296) (y0 : 0 ≤ y) (y1 : y < 4294967296) : Calls Tryd.prog 14 #[auxVal s p y] w (RetV (auxVal s p y) w) := by
  unfold auxVal
  go_enter Tryd.func14, Tryd.ntmps14
  go_wp2_with fail
  refine (aux_any s p y _ p0 p1 y0 y1).mono ?_
  rintro e w1 ⟨g, rfl, hg, hblk, hb1⟩
  go_wp2_with fail
  refine (auxTold_any g _ s p y _ hblk p0 p1 y0 y1).mono ?_
  rintro e w2 ⟨rfl, hb2⟩
  have r := ((Blk.new1 w _ _ _).here hb1).here hb2
  have hrc := r.cell
  have hrf := r.frozen
  have hB := Lib.hid (below_from (below_from (by (repeat' (first | (with_reducible exact Below.refl _ _) | (with_reducible assumption) | (with_reducible refine below_drewN ?_ _) | (with_reducible refine Below.alloc ?_ ?_ _) | (with_reducible refine Below.drew ?_) | (with_reducible refine Below.setCell ?_ ?_ _) | go_size))) hb1) hb2 : Below w.heap.size w w2)
  clear r hb1 hb2 hg hblk
  go_wp2_with fail
  have hB := hB.out
  have hz := hB.size
  exact bodyPost_ret (v := auxVal s p y) (by simp [results, Tryd.results14, go_sem, hrc]) rfl ⟨rfl, by (repeat' (first | (with_reducible exact Below.refl _ _) | (with_reducible assumption) | (with_reducible refine below_drewN ?_ _) | (with_reducible refine Below.alloc ?_ ?_ _) | (with_reducible refine Below.drew ?_) | (with_reducible refine Below.setCell ?_ ?_ _) | go_size))⟩

set_option maxHeartbeats 400000 in
theorem flagsTold_any (g : Nat) (t_ : TypeId) (p y s t : Int) (w : World) (hb : Blk w g t_ (flagsCells p y s t)) (p0 : 0 ≤ p) (p1 : p < 4294967296) (y0 : 0 ≤ y) (y1 : y < 4294967296) : Calls Tryd.prog 47 #[.pointer (some ⟨g, 0, none⟩)] w (RetV (flagsVal p y s t) w) := by
  have H := Lib.hid (fun o => hb.alloc o)
  clear hb
  unfold flagsVal
  go_enter Tryd.func47, Tryd.ntmps47
  go_wp2_with (first
   | (go_at_call 78; refine (flags_Sym g p y s t _ (H.out _).cell p0 p1 y0 y1 (H.out _).lt).mono ?_; rintro e w1 ⟨rfl, hb1⟩; have K1 := Lib.hid ((H.out _).here hb1))
   | (go_at_call 72; refine (told_any p y _).mono ?_; rintro e w2 ⟨rfl, hb2⟩; have r := Lib.hid (((Blk.new w _ _).here hb1).here hb2); have K2 := Lib.hid (K1.out.here hb2); have hB := Lib.hid (below_from (below_from (by (repeat' (first | (with_reducible exact Below.refl _ _) | (with_reducible assumption) | (with_reducible refine below_drewN ?_ _) | (with_reducible refine Below.alloc ?_ ?_ _) | (with_reducible refine Below.drew ?_) | (with_reducible refine Below.setCell ?_ ?_ _) | go_size))) hb1) hb2 : Below w.heap.size w w2); clear hb1 hb2)
   | (go_at_call 79; refine (flags_Flag g p y s t _ (K2.out.drewN 0).cell).mono ?_; rintro e w' ⟨rfl, n1, rfl⟩)
   | (go_at_call 80; refine (flags_Flag2 g p y s t _ (K2.out.drewN _).cell).mono ?_; rintro e w' ⟨rfl, n2, rfl⟩; have hrc := r.out.cell; have hrf := r.out.frozen))
  have hB := hB.out
  have hz := hB.size
  exact bodyPost_ret (v := flagsVal p y s t) (by simp [results, Tryd.results47, go_sem, hrc]) rfl ⟨rfl, by (repeat' (first | (with_reducible exact Below.refl _ _) | (with_reducible assumption) | (with_reducible refine below_drewN ?_ _) | (with_reducible refine Below.alloc ?_ ?_ _) | (with_reducible refine Below.drew ?_) | (with_reducible refine Below.setCell ?_ ?_ _) | go_size))⟩

set_option maxHeartbeats 400000 in
theorem flagsBack_any (p y s t : Int) (w : World) (p0 : 0 ≤ p) (p1 : p < 4294967296) (y0 : 0 ≤ y) (y1 : y < 4294967296) : Calls Tryd.prog 20 #[flagsVal p y s t] w (RetV (flagsVal p y s t) w) := by
  unfold flagsVal
  go_enter Tryd.func20, Tryd.ntmps20
  go_wp2_with fail
  refine (flags_any p y s t _ p0 p1 y0 y1).mono ?_
  rintro e w1 ⟨g, rfl, hg, hblk, hb1⟩
  go_wp2_with fail
  refine (flagsTold_any g _ p y s t _ hblk p0 p1 y0 y1).mono ?_
  rintro e w2 ⟨rfl, hb2⟩
  have r := ((Blk.new1 w _ _ _).here hb1).here hb2
  have hrc := r.cell
  have hrf := r.frozen
  have hB := Lib.hid (below_from (below_from (by (repeat' (first | (with_reducible exact Below.refl _ _) | (with_reducible assumption) | (with_reducible refine below_drewN ?_ _) | (with_reducible refine Below.alloc ?_ ?_ _) | (with_reducible refine Below.drew ?_) | (with_reducible refine Below.setCell ?_ ?_ _) | go_size))) hb1) hb2 : Below w.heap.size w w2)
  clear r hb1 hb2 hg hblk
  go_wp2_with fail
  have hB := hB.out
  have hz := hB.size
  exact bodyPost_ret (v := flagsVal p y s t) (by simp [results, Tryd.results20, go_sem, hrc]) rfl ⟨rfl, by (repeat' (first | (with_reducible exact Below.refl _ _) | (with_reducible assumption) | (with_reducible refine below_drewN ?_ _) | (with_reducible refine Below.alloc ?_ ?_ _) | (with_reducible refine Below.drew ?_) | (with_reducible refine Below.setCell ?_ ?_ _) | go_size))⟩

theorem aux_cells (s p y : Int) : auxCells s p y = (bcs ([s] ++ (leN 4 p ++ leN 4 y))).toArray := by
  simp only [leN4, bcs, auxCells, List.cons_append, List.nil_append, List.map_cons, List.map_nil]

theorem aux_Write (B wb b mb : Nat) (xs : List Int) (w : World) (h : IsWriter B wb b mb xs w) (hB : B ≤ w.heap.size) (g : Nat) (t_ : TypeId) (s p y : Int) (hb : Blk w g t_ (auxCells s p y)) (hg : g ≠ b) (hx : xs.length + 9 < 4294967296) :
    Calls Tryd.prog 40 #[.pointer (some ⟨g, 0, none⟩), .pointer (some ⟨wb, 0, none⟩)] w (Wrote B wb b mb (xs ++ ([s] ++ (leN 4 p ++ leN 4 y))) w) := by
  have H := Lib.hid h
  have HB := Lib.hid hb
  clear h hb
  go_enter Tryd.func40, Tryd.ntmps40
  go_wp2_with fail
  refine (writer_Bytes B wb b mb xs w H.out hB ⟨g, 0, none⟩ 9 9 ([s] ++ (leN 4 p ++ leN 4 y)) (by simp [leN_length]) hg (fun j u hu => by rw [Lib.addr_add, HB.out.cell, aux_cells, List.getElem?_toArray, Nat.zero_add]; exact hu) hx).mono ?_
  rintro e w1 ⟨rfl, h1, h2⟩
  go_wp2_with fail
  go_end0
  exact ⟨rfl, h1, h2⟩

set_option maxHeartbeats 400000 in
theorem auxBytes_any (s p y : Int) (w : World) (p0 : 0 ≤ p) (p1 : p < 4294967296) (y0 : 0 ≤ y) (y1 : y < 4294967296) : Calls Tryd.prog 16 #[auxVal s p y] w (RetB ([s] ++ (leN 4 p ++ leN 4 y)) w) := by
  unfold auxVal
  have hx : Blk ((w.alloc (.cells #[.int .u8 s, .int .u32 p, .int .u32 y] 26)).alloc (.cells #[.slice none 0 0, .int .i64 0, .int .i8 0] 78)) (w.heap.size + 1) _ _ := Blk.new1 w _ _ _
  have hz : ((w.alloc (.cells #[.int .u8 s, .int .u32 p, .int .u32 y] 26)).alloc (.cells #[.slice none 0 0, .int .i64 0, .int .i8 0] 78)).heap.size = w.heap.size + 2 := by simp
  have hbw : Below w.heap.size w ((w.alloc (.cells #[.int .u8 s, .int .u32 p, .int .u32 y] 26)).alloc (.cells #[.slice none 0 0, .int .i64 0, .int .i8 0] 78)) := by (repeat' (first | (with_reducible exact Below.refl _ _) | (with_reducible assumption) | (with_reducible refine below_drewN ?_ _) | (with_reducible refine Below.alloc ?_ ?_ _) | (with_reducible refine Below.drew ?_) | (with_reducible refine Below.setCell ?_ ?_ _) | go_size))
  go_enter Tryd.func16, Tryd.ntmps16
  go_wp2_with fail
  refine (aux_any s p y _ p0 p1 y0 y1).mono ?_
  rintro e w1 ⟨g, rfl, hg, hblk, hb1⟩
  have hbuf := isBuf_new (B := w.heap.size) (by omega) (hx.here hb1)
  have hB1 := Lib.hid (below_from hbw hb1)
  have z1 := Lib.hid hb1.size
  clear hx hbw hb1
  go_wp2_with fail
  refine (newWriter_any w.heap.size (w.heap.size + 1) [] w1 hbuf rfl).mono ?_
  rintro e w2 ⟨wb, mb, rfl, hw2, hwb, hb2⟩
  have hk2 := hblk.here hb2
  have hB2 := Lib.hid (below_from hB1.out hb2)
  clear hbuf hb2 hblk hB1
  go_wp2_with fail
  refine (aux_Write w.heap.size wb (w.heap.size + 1) mb [] w2 hw2 hB2.out.size g _ s p y hk2 (by omega) (by simp)).mono ?_
  rintro e w3 ⟨rfl, hw3, hf3⟩
  have hB3 := Lib.hid (Below.trans hB2.out ⟨hf3.os, hf3.tape, hf3.output, hf3.size, hf3.low⟩ : Below w.heap.size w w3)
  have h3 := hw3.buf
  clear hw2 hk2 hf3 hw3 hB2
  go_wp2_with fail
  refine (buffer_Bytes w.heap.size (w.heap.size + 1) _ w3 h3).mono ?_
  rintro e w4 ⟨A, c, rfl, h1, h2, n, rfl⟩
  clear h3 z1 hg
  go_wp2_with fail
  go_ret
  exact ⟨A, c, by simp, by simpa using h1, by simpa using h2, below_drewN hB3.out n⟩

theorem reloc_cells (a s k d p y : Int) : relocCells a s k d p y = (bcs (leN 4 a ++ ([s] ++ (leN 2 k ++ (leN 8 d ++ (leN 4 p ++ leN 4 y)))))).toArray := by
  simp only [leN8, leN4, leN2, bcs, relocCells, List.cons_append, List.nil_append, List.map_cons, List.map_nil]

theorem reloc_Write (B wb b mb : Nat) (xs : List Int) (w : World) (h : IsWriter B wb b mb xs w) (hB : B ≤ w.heap.size) (g : Nat) (t_ : TypeId) (a s k d p y : Int) (hb : Blk w g t_ (relocCells a s k d p y)) (hg : g ≠ b) (hx : xs.length + 23 < 4294967296) :
    Calls Tryd.prog 45 #[.pointer (some ⟨g, 0, none⟩), .pointer (some ⟨wb, 0, none⟩)] w (Wrote B wb b mb (xs ++ (leN 4 a ++ ([s] ++ (leN 2 k ++ (leN 8 d ++ (leN 4 p ++ leN 4 y)))))) w) := by
  have H := Lib.hid h
  have HB := Lib.hid hb
  clear h hb
  go_enter Tryd.func45, Tryd.ntmps45
  go_wp2_with fail
  refine (writer_Bytes B wb b mb xs w H.out hB ⟨g, 0, none⟩ 23 23 (leN 4 a ++ ([s] ++ (leN 2 k ++ (leN 8 d ++ (leN 4 p ++ leN 4 y))))) (by simp [leN_length]) hg (fun j u hu => by rw [Lib.addr_add, HB.out.cell, reloc_cells, List.getElem?_toArray, Nat.zero_add]; exact hu) hx).mono ?_
  rintro e w1 ⟨rfl, h1, h2⟩
  go_wp2_with fail
  go_end0
  exact ⟨rfl, h1, h2⟩

set_option maxHeartbeats 400000 in
theorem relocBytes_any (a s k d p y : Int) (w : World) (k0 : 0 ≤ k) (k1 : k < 65536) (p0 : 0 ≤ p) (p1 : p < 4294967296) (y0 : 0 ≤ y) (y1 : y < 4294967296) : Calls Tryd.prog 18 #[relocVal a s k d p y] w (RetB (leN 4 a ++ ([s] ++ (leN 2 k ++ (leN 8 d ++ (leN 4 p ++ leN 4 y))))) w) := by
  unfold relocVal
  have hx : Blk ((w.alloc (.cells #[.int .i32 a, .int .u8 s, .int .u16 k, .int .i64 d, .int .u32 p, .int .u32 y] 34)).alloc (.cells #[.slice none 0 0, .int .i64 0, .int .i8 0] 78)) (w.heap.size + 1) _ _ := Blk.new1 w _ _ _
  have hz : ((w.alloc (.cells #[.int .i32 a, .int .u8 s, .int .u16 k, .int .i64 d, .int .u32 p, .int .u32 y] 34)).alloc (.cells #[.slice none 0 0, .int .i64 0, .int .i8 0] 78)).heap.size = w.heap.size + 2 := by simp
  have hbw : Below w.heap.size w ((w.alloc (.cells #[.int .i32 a, .int .u8 s, .int .u16 k, .int .i64 d, .int .u32 p, .int .u32 y] 34)).alloc (.cells #[.slice none 0 0, .int .i64 0, .int .i8 0] 78)) := by (repeat' (first | (with_reducible exact Below.refl _ _) | (with_reducible assumption) | (with_reducible refine below_drewN ?_ _) | (with_reducible refine Below.alloc ?_ ?_ _) | (with_reducible refine Below.drew ?_) | (with_reducible refine Below.setCell ?_ ?_ _) | go_size))
  go_enter Tryd.func18, Tryd.ntmps18
  go_wp2_with fail
  refine (reloc_any a s k d p y _ k0 k1 p0 p1 y0 y1).mono ?_
  rintro e w1 ⟨g, rfl, hg, hblk, hb1⟩
  have hbuf := isBuf_new (B := w.heap.size) (by omega) (hx.here hb1)
  have hB1 := Lib.hid (below_from hbw hb1)
  have z1 := Lib.hid hb1.size
  clear hx hbw hb1
  go_wp2_with fail
  refine (newWriter_any w.heap.size (w.heap.size + 1) [] w1 hbuf rfl).mono ?_
  rintro e w2 ⟨wb, mb, rfl, hw2, hwb, hb2⟩
  have hk2 := hblk.here hb2
  have hB2 := Lib.hid (below_from hB1.out hb2)
  clear hbuf hb2 hblk hB1
  go_wp2_with fail
  refine (reloc_Write w.heap.size wb (w.heap.size + 1) mb [] w2 hw2 hB2.out.size g _ a s k d p y hk2 (by omega) (by simp)).mono ?_
  rintro e w3 ⟨rfl, hw3, hf3⟩
  have hB3 := Lib.hid (Below.trans hB2.out ⟨hf3.os, hf3.tape, hf3.output, hf3.size, hf3.low⟩ : Below w.heap.size w w3)
  have h3 := hw3.buf
  clear hw2 hk2 hf3 hw3 hB2
  go_wp2_with fail
  refine (buffer_Bytes w.heap.size (w.heap.size + 1) _ w3 h3).mono ?_
  rintro e w4 ⟨A, c, rfl, h1, h2, n, rfl⟩
  clear h3 z1 hg
  go_wp2_with fail
  go_ret
  exact ⟨A, c, by simp, by simpa using h1, by simpa using h2, below_drewN hB3.out n⟩

theorem flags_cells (p y s t : Int) : flagsCells p y s t = (bcs ((leN 4 p ++ leN 4 y) ++ [s, t])).toArray := by
  simp only [leN4, bcs, flagsCells, List.cons_append, List.nil_append, List.map_cons, List.map_nil]

theorem flags_Write (B wb b mb : Nat) (xs : List Int) (w : World) (h : IsWriter B wb b mb xs w) (hB : B ≤ w.heap.size) (g : Nat) (t_ : TypeId) (p y s t : Int) (hb : Blk w g t_ (flagsCells p y s t)) (hg : g ≠ b) (hx : xs.length + 10 < 4294967296) :
    Calls Tryd.prog 49 #[.pointer (some ⟨g, 0, none⟩), .pointer (some ⟨wb, 0, none⟩)] w (Wrote B wb b mb (xs ++ ((leN 4 p ++ leN 4 y) ++ [s, t])) w) := by
  have H := Lib.hid h
  have HB := Lib.hid hb
  clear h hb
  go_enter Tryd.func49, Tryd.ntmps49
  go_wp2_with fail
  refine (writer_Bytes B wb b mb xs w H.out hB ⟨g, 0, none⟩ 10 10 ((leN 4 p ++ leN 4 y) ++ [s, t]) (by simp [leN_length]) hg (fun j u hu => by rw [Lib.addr_add, HB.out.cell, flags_cells, List.getElem?_toArray, Nat.zero_add]; exact hu) hx).mono ?_
  rintro e w1 ⟨rfl, h1, h2⟩
  go_wp2_with fail
  go_end0
  exact ⟨rfl, h1, h2⟩

set_option maxHeartbeats 400000 in
theorem flagsBytes_any (p y s t : Int) (w : World) (p0 : 0 ≤ p) (p1 : p < 4294967296) (y0 : 0 ≤ y) (y1 : y < 4294967296) : Calls Tryd.prog 21 #[flagsVal p y s t] w (RetB ((leN 4 p ++ leN 4 y) ++ [s, t]) w) := by
  unfold flagsVal
  have hx : Blk ((w.alloc (.cells #[.int .u32 p, .int .u32 y, .int .u8 s, .int .u8 t] 38)).alloc (.cells #[.slice none 0 0, .int .i64 0, .int .i8 0] 78)) (w.heap.size + 1) _ _ := Blk.new1 w _ _ _
  have hz : ((w.alloc (.cells #[.int .u32 p, .int .u32 y, .int .u8 s, .int .u8 t] 38)).alloc (.cells #[.slice none 0 0, .int .i64 0, .int .i8 0] 78)).heap.size = w.heap.size + 2 := by simp
  have hbw : Below w.heap.size w ((w.alloc (.cells #[.int .u32 p, .int .u32 y, .int .u8 s, .int .u8 t] 38)).alloc (.cells #[.slice none 0 0, .int .i64 0, .int .i8 0] 78)) := by (repeat' (first | (with_reducible exact Below.refl _ _) | (with_reducible assumption) | (with_reducible refine below_drewN ?_ _) | (with_reducible refine Below.alloc ?_ ?_ _) | (with_reducible refine Below.drew ?_) | (with_reducible refine Below.setCell ?_ ?_ _) | go_size))
  go_enter Tryd.func21, Tryd.ntmps21
  go_wp2_with fail
  refine (flags_any p y s t _ p0 p1 y0 y1).mono ?_
  rintro e w1 ⟨g, rfl, hg, hblk, hb1⟩
  have hbuf := isBuf_new (B := w.heap.size) (by omega) (hx.here hb1)
  have hB1 := Lib.hid (below_from hbw hb1)
  have z1 := Lib.hid hb1.size
  clear hx hbw hb1
  go_wp2_with fail
  refine (newWriter_any w.heap.size (w.heap.size + 1) [] w1 hbuf rfl).mono ?_
  rintro e w2 ⟨wb, mb, rfl, hw2, hwb, hb2⟩
  have hk2 := hblk.here hb2
  have hB2 := Lib.hid (below_from hB1.out hb2)
  clear hbuf hb2 hblk hB1
  go_wp2_with fail
  refine (flags_Write w.heap.size wb (w.heap.size + 1) mb [] w2 hw2 hB2.out.size g _ p y s t hk2 (by omega) (by simp)).mono ?_
  rintro e w3 ⟨rfl, hw3, hf3⟩
  have hB3 := Lib.hid (Below.trans hB2.out ⟨hf3.os, hf3.tape, hf3.output, hf3.size, hf3.low⟩ : Below w.heap.size w w3)
  have h3 := hw3.buf
  clear hw2 hk2 hf3 hw3 hB2
  go_wp2_with fail
  refine (buffer_Bytes w.heap.size (w.heap.size + 1) _ w3 h3).mono ?_
  rintro e w4 ⟨A, c, rfl, h1, h2, n, rfl⟩
  clear h3 z1 hg
  go_wp2_with fail
  go_ret
  exact ⟨A, c, by simp, by simpa using h1, by simpa using h2, below_drewN hB3.out n⟩

set_option maxHeartbeats 1000000 in
theorem fnAuxiliary_any (s p y : Int) (w : World) (_ : 0 ≤ s ∧ s < 256) (bp : 0 ≤ p ∧ p < 4294967296) (bq : 0 ≤ y ∧ y < 4294967296) : Calls Tryd.prog 3 #[auxVal s p y] w (LawEnd w) := by
  unfold auxVal
  go_enter Tryd.func3, Tryd.ntmps3
  go_wp2_with fail
  go_region_held3 (fun w' => w'.cell? ⟨w.heap.size, 0, none⟩ = some (.int .u8 s) ∧ w'.cell? ⟨w.heap.size, 1, none⟩ = some (.int .u32 p) ∧ w'.cell? ⟨w.heap.size, 2, none⟩ = some (.int .u32 y))
    (first | go_keep | (go_split_ands; refine ⟨?_, ?_, ?_⟩ <;> (refine keep_cell hb3 ?_; first | assumption | (simp [go_sem]; done))) | (go_split_ands; refine ⟨?_, ?_, ?_⟩ <;> (refine keep_cell hb2 ?_; first | assumption | (simp [go_sem]; done))) | (go_split_ands; refine ⟨?_, ?_, ?_⟩ <;> (refine keep_cell hb1 ?_; first | assumption | (simp [go_sem]; done))))
    (first | (go_at_call 14; refine (auxBack_any s p y _ bp.1 bp.2 bq.1 bq.2).mono ?_; rintro e w1 ⟨rfl, hb1⟩) | (go_at_call 16; refine (auxBytes_any s p y _ bp.1 bp.2 bq.1 bq.2).mono ?_; rintro e w2 ⟨A2, c2, rfl, s2, l2, hb2⟩) | (go_at_call 17; refine (auxiliaryBytes_any s p y _).mono ?_; rintro e w3 ⟨A3, c3, rfl, s3, l3, hb3⟩) | (go_at_call 15; refine (sameBytes_any A2 A3 c2 c3 ([s] ++ (leN 4 p ++ leN 4 y)) _ (s2.here hb3) s3 (by simp [leN_length, maxLen])).mono ?_; rintro e w4 ⟨rfl, n4, rfl⟩))
  go_wp2_with fail
  go_returns
  exact ⟨by simp, below_drewN (below_from (below_from (below_from (by (repeat' (first | (with_reducible exact Below.refl _ _) | (with_reducible assumption) | (with_reducible refine below_drewN ?_ _) | (with_reducible refine Below.alloc ?_ ?_ _) | (with_reducible refine Below.drew ?_) | (with_reducible refine Below.setCell ?_ ?_ _) | go_size))) hb1) hb2) hb3) n4⟩

set_option maxHeartbeats 1000000 in
theorem fnRelocationBytes_any (a s k d p y : Int) (w : World) (_ : -2147483648 ≤ a ∧ a < 2147483648) (_ : 0 ≤ s ∧ s < 256) (bk : 0 ≤ k ∧ k < 65536) (_ : -9223372036854775808 ≤ d ∧ d < 9223372036854775808) (bp : 0 ≤ p ∧ p < 4294967296) (bq : 0 ≤ y ∧ y < 4294967296) : Calls Tryd.prog 4 #[relocVal a s k d p y] w (LawEnd w) := by
  unfold relocVal
  go_enter Tryd.func4, Tryd.ntmps4
  go_wp2_with fail
  go_region_held3 (fun w' => w'.cell? ⟨w.heap.size, 0, none⟩ = some (.int .i32 a) ∧ w'.cell? ⟨w.heap.size, 1, none⟩ = some (.int .u8 s) ∧ w'.cell? ⟨w.heap.size, 2, none⟩ = some (.int .u16 k) ∧ w'.cell? ⟨w.heap.size, 3, none⟩ = some (.int .i64 d) ∧ w'.cell? ⟨w.heap.size, 4, none⟩ = some (.int .u32 p) ∧ w'.cell? ⟨w.heap.size, 5, none⟩ = some (.int .u32 y))
    (first | go_keep | (go_split_ands; refine ⟨?_, ?_, ?_, ?_, ?_, ?_⟩ <;> (refine keep_cell hb3 ?_; first | assumption | (simp [go_sem]; done))) | (go_split_ands; refine ⟨?_, ?_, ?_, ?_, ?_, ?_⟩ <;> (refine keep_cell hb2 ?_; first | assumption | (simp [go_sem]; done))) | (go_split_ands; refine ⟨?_, ?_, ?_, ?_, ?_, ?_⟩ <;> (refine keep_cell hb1 ?_; first | assumption | (simp [go_sem]; done))))
    (first | (go_at_call 18; refine (relocBytes_any a s k d p y _ bk.1 bk.2 bp.1 bp.2 bq.1 bq.2).mono ?_; rintro e w2 ⟨A2, c2, rfl, s2, l2, hb2⟩) | (go_at_call 19; refine (relocationBytes_any a s k d p y _).mono ?_; rintro e w3 ⟨A3, c3, rfl, s3, l3, hb3⟩) | (go_at_call 15; refine (sameBytes_any A2 A3 c2 c3 (leN 4 a ++ ([s] ++ (leN 2 k ++ (leN 8 d ++ (leN 4 p ++ leN 4 y))))) _ (s2.here hb3) s3 (by simp [leN_length, maxLen])).mono ?_; rintro e w4 ⟨rfl, n4, rfl⟩))
  go_wp2_with fail
  go_returns
  exact ⟨by simp, below_drewN (below_from (below_from (by (repeat' (first | (with_reducible exact Below.refl _ _) | (with_reducible assumption) | (with_reducible refine below_drewN ?_ _) | (with_reducible refine Below.alloc ?_ ?_ _) | (with_reducible refine Below.drew ?_) | (with_reducible refine Below.setCell ?_ ?_ _) | go_size))) hb2) hb3) n4⟩

set_option maxHeartbeats 1000000 in
theorem fnFlagged_any (p y s t : Int) (w : World) (bp : 0 ≤ p ∧ p < 4294967296) (bq : 0 ≤ y ∧ y < 4294967296) (_ : 0 ≤ s ∧ s < 256) (_ : 0 ≤ t ∧ t < 256) : Calls Tryd.prog 5 #[flagsVal p y s t] w (LawEnd w) := by
  unfold flagsVal
  go_enter Tryd.func5, Tryd.ntmps5
  go_wp2_with fail
  go_region_held3 (fun w' => w'.cell? ⟨w.heap.size, 0, none⟩ = some (.int .u32 p) ∧ w'.cell? ⟨w.heap.size, 1, none⟩ = some (.int .u32 y) ∧ w'.cell? ⟨w.heap.size, 2, none⟩ = some (.int .u8 s) ∧ w'.cell? ⟨w.heap.size, 3, none⟩ = some (.int .u8 t))
    (first | go_keep | (go_split_ands; refine ⟨?_, ?_, ?_, ?_⟩ <;> (refine keep_cell hb3 ?_; first | assumption | (simp [go_sem]; done))) | (go_split_ands; refine ⟨?_, ?_, ?_, ?_⟩ <;> (refine keep_cell hb2 ?_; first | assumption | (simp [go_sem]; done))) | (go_split_ands; refine ⟨?_, ?_, ?_, ?_⟩ <;> (refine keep_cell hb1 ?_; first | assumption | (simp [go_sem]; done))))
    (first | (go_at_call 20; refine (flagsBack_any p y s t _ bp.1 bp.2 bq.1 bq.2).mono ?_; rintro e w1 ⟨rfl, hb1⟩) | (go_at_call 21; refine (flagsBytes_any p y s t _ bp.1 bp.2 bq.1 bq.2).mono ?_; rintro e w2 ⟨A2, c2, rfl, s2, l2, hb2⟩) | (go_at_call 22; refine (flaggedBytes_any p y s t _).mono ?_; rintro e w3 ⟨A3, c3, rfl, s3, l3, hb3⟩) | (go_at_call 15; refine (sameBytes_any A2 A3 c2 c3 ((leN 4 p ++ leN 4 y) ++ [s, t]) _ (s2.here hb3) s3 (by simp [leN_length, maxLen])).mono ?_; rintro e w4 ⟨rfl, n4, rfl⟩))
  go_wp2_with fail
  go_returns
  exact ⟨by simp, below_drewN (below_from (below_from (below_from (by (repeat' (first | (with_reducible exact Below.refl _ _) | (with_reducible assumption) | (with_reducible refine below_drewN ?_ _) | (with_reducible refine Below.alloc ?_ ?_ _) | (with_reducible refine Below.drew ?_) | (with_reducible refine Below.setCell ?_ ?_ _) | go_size))) hb1) hb2) hb3) n4⟩

end Go.Proofs.YtnbojmciolecgaaDoor
