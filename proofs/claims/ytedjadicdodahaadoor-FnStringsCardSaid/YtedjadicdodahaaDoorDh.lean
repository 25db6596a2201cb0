/- How many elements a section has. (printed by gen_pdf.py) -/
import Derived.Test.YtedjadicdodahaaDoorQDe
namespace Go.Proofs.YtedjadicdodahaaDoor
open Go.RowKit

set_option maxRecDepth 100000 in
set_option maxHeartbeats 1000000 in
theorem numElems_0 {pb : Nat} {v : Nat} {s : Bool} {path : ByteArray} {p : Pk} {fp : List UInt8} {sc : Value} {w : World} (h : PkQ pb v s path p fp sc w) (hn : (p.elems 10).length ≤ 1000000) :
    Calls Tryd.prog 22 #[.pointer (some ⟨pb, 0, none⟩), .int .i32 0] w (RetQ (.int .i64 ((p 0).length : Nat)) w) := by
  obtain ⟨g, c, hb, _, _, _⟩ := h.is
  have h1 : (p.elems (0 + 1)).length = (p.elems 0).length + (p 0).length := by rw [Pk.elems_succ, List.length_append]
  have h2 : (p.elems (0 + 1)).length ≤ 1000000 := Nat.le_trans (p.elems_pre (0 + 1) 10 (by decide)).length_le hn
  obtain ⟨a, ha⟩ : ∃ a, a = (p.elems 0).length := ⟨_, rfl⟩
  obtain ⟨b, hb9⟩ : ∃ b, b = (p.elems (0 + 1)).length := ⟨_, rfl⟩
  obtain ⟨d, hd⟩ : ∃ d, d = (p 0).length := ⟨_, rfl⟩
  have q2 : w.cell? ⟨pb, 5, none⟩ = some (.int .u32 b) := by rw [hb9]; exact hb.cell 5
  rw [← ha, ← hb9, ← hd] at h1
  rw [← hb9] at h2
  rw [← hd]
  have ha0 : a = 0 := by rw [ha]; rfl
  obtain rfl : b = d := by omega
  have b0 : (0 : Int) ≤ b := by omega
  have b1 : (b : Int) ≤ 1000000 := by omega
  have wb : IntKind.i64.wrap (b : Int) = b := by rw [IntKind.wrap_i64]; omega
  clear h hb h1 h2 ha hb9 hd
  go_enter Tryd.func22, Tryd.ntmps22
  go_wp2
  go_ret
  exact ⟨rfl, 0, rfl⟩
set_option maxRecDepth 100000 in
set_option maxHeartbeats 1000000 in
theorem numElems_1 {pb : Nat} {v : Nat} {s : Bool} {path : ByteArray} {p : Pk} {fp : List UInt8} {sc : Value} {w : World} (h : PkQ pb v s path p fp sc w) (hn : (p.elems 10).length ≤ 1000000) :
    Calls Tryd.prog 22 #[.pointer (some ⟨pb, 0, none⟩), .int .i32 1] w (RetQ (.int .i64 ((p 1).length : Nat)) w) := by
  obtain ⟨g, c, hb, _, _, _⟩ := h.is
  have h1 : (p.elems (1 + 1)).length = (p.elems 1).length + (p 1).length := by rw [Pk.elems_succ, List.length_append]
  have h2 : (p.elems (1 + 1)).length ≤ 1000000 := Nat.le_trans (p.elems_pre (1 + 1) 10 (by decide)).length_le hn
  obtain ⟨a, ha⟩ : ∃ a, a = (p.elems 1).length := ⟨_, rfl⟩
  obtain ⟨b, hb9⟩ : ∃ b, b = (p.elems (1 + 1)).length := ⟨_, rfl⟩
  obtain ⟨d, hd⟩ : ∃ d, d = (p 1).length := ⟨_, rfl⟩
  have q1 : w.cell? ⟨pb, 5, none⟩ = some (.int .u32 a) := by rw [ha]; exact hb.cell 5
  have q2 : w.cell? ⟨pb, 6, none⟩ = some (.int .u32 b) := by rw [hb9]; exact hb.cell 6
  rw [← ha, ← hb9, ← hd] at h1
  rw [← hb9] at h2
  rw [← hd]
  have b0 : (0 : Int) ≤ b := by omega
  have b1 : (b : Int) ≤ 1000000 := by omega
  have wb : IntKind.i64.wrap (b : Int) = b := by rw [IntKind.wrap_i64]; omega
  have a0 : (0 : Int) ≤ a := by omega
  have a1 : (a : Int) ≤ 1000000 := by omega
  have wa : IntKind.i64.wrap (a : Int) = a := by rw [IntKind.wrap_i64]; omega
  have hd9 : (b : Int) - a = d := by omega
  have wd : IntKind.i64.wrap (d : Int) = d := by rw [IntKind.wrap_i64]; omega
  clear h hb h1 h2 ha hb9 hd
  go_enter Tryd.func22, Tryd.ntmps22
  go_wp2
  go_ret
  exact ⟨rfl, 0, rfl⟩
set_option maxRecDepth 100000 in
set_option maxHeartbeats 1000000 in
theorem numElems_2 {pb : Nat} {v : Nat} {s : Bool} {path : ByteArray} {p : Pk} {fp : List UInt8} {sc : Value} {w : World} (h : PkQ pb v s path p fp sc w) (hn : (p.elems 10).length ≤ 1000000) :
    Calls Tryd.prog 22 #[.pointer (some ⟨pb, 0, none⟩), .int .i32 2] w (RetQ (.int .i64 ((p 2).length : Nat)) w) := by
  obtain ⟨g, c, hb, _, _, _⟩ := h.is
  have h1 : (p.elems (2 + 1)).length = (p.elems 2).length + (p 2).length := by rw [Pk.elems_succ, List.length_append]
  have h2 : (p.elems (2 + 1)).length ≤ 1000000 := Nat.le_trans (p.elems_pre (2 + 1) 10 (by decide)).length_le hn
  obtain ⟨a, ha⟩ : ∃ a, a = (p.elems 2).length := ⟨_, rfl⟩
  obtain ⟨b, hb9⟩ : ∃ b, b = (p.elems (2 + 1)).length := ⟨_, rfl⟩
  obtain ⟨d, hd⟩ : ∃ d, d = (p 2).length := ⟨_, rfl⟩
  have q1 : w.cell? ⟨pb, 6, none⟩ = some (.int .u32 a) := by rw [ha]; exact hb.cell 6
  have q2 : w.cell? ⟨pb, 7, none⟩ = some (.int .u32 b) := by rw [hb9]; exact hb.cell 7
  rw [← ha, ← hb9, ← hd] at h1
  rw [← hb9] at h2
  rw [← hd]
  have b0 : (0 : Int) ≤ b := by omega
  have b1 : (b : Int) ≤ 1000000 := by omega
  have wb : IntKind.i64.wrap (b : Int) = b := by rw [IntKind.wrap_i64]; omega
  have a0 : (0 : Int) ≤ a := by omega
  have a1 : (a : Int) ≤ 1000000 := by omega
  have wa : IntKind.i64.wrap (a : Int) = a := by rw [IntKind.wrap_i64]; omega
  have hd9 : (b : Int) - a = d := by omega
  have wd : IntKind.i64.wrap (d : Int) = d := by rw [IntKind.wrap_i64]; omega
  clear h hb h1 h2 ha hb9 hd
  go_enter Tryd.func22, Tryd.ntmps22
  go_wp2
  go_ret
  exact ⟨rfl, 0, rfl⟩
set_option maxRecDepth 100000 in
set_option maxHeartbeats 1000000 in
theorem numElems_3 {pb : Nat} {v : Nat} {s : Bool} {path : ByteArray} {p : Pk} {fp : List UInt8} {sc : Value} {w : World} (h : PkQ pb v s path p fp sc w) (hn : (p.elems 10).length ≤ 1000000) :
    Calls Tryd.prog 22 #[.pointer (some ⟨pb, 0, none⟩), .int .i32 3] w (RetQ (.int .i64 ((p 3).length : Nat)) w) := by
  obtain ⟨g, c, hb, _, _, _⟩ := h.is
  have h1 : (p.elems (3 + 1)).length = (p.elems 3).length + (p 3).length := by rw [Pk.elems_succ, List.length_append]
  have h2 : (p.elems (3 + 1)).length ≤ 1000000 := Nat.le_trans (p.elems_pre (3 + 1) 10 (by decide)).length_le hn
  obtain ⟨a, ha⟩ : ∃ a, a = (p.elems 3).length := ⟨_, rfl⟩
  obtain ⟨b, hb9⟩ : ∃ b, b = (p.elems (3 + 1)).length := ⟨_, rfl⟩
  obtain ⟨d, hd⟩ : ∃ d, d = (p 3).length := ⟨_, rfl⟩
  have q1 : w.cell? ⟨pb, 7, none⟩ = some (.int .u32 a) := by rw [ha]; exact hb.cell 7
  have q2 : w.cell? ⟨pb, 8, none⟩ = some (.int .u32 b) := by rw [hb9]; exact hb.cell 8
  rw [← ha, ← hb9, ← hd] at h1
  rw [← hb9] at h2
  rw [← hd]
  have b0 : (0 : Int) ≤ b := by omega
  have b1 : (b : Int) ≤ 1000000 := by omega
  have wb : IntKind.i64.wrap (b : Int) = b := by rw [IntKind.wrap_i64]; omega
  have a0 : (0 : Int) ≤ a := by omega
  have a1 : (a : Int) ≤ 1000000 := by omega
  have wa : IntKind.i64.wrap (a : Int) = a := by rw [IntKind.wrap_i64]; omega
  have hd9 : (b : Int) - a = d := by omega
  have wd : IntKind.i64.wrap (d : Int) = d := by rw [IntKind.wrap_i64]; omega
  clear h hb h1 h2 ha hb9 hd
  go_enter Tryd.func22, Tryd.ntmps22
  go_wp2
  go_ret
  exact ⟨rfl, 0, rfl⟩
set_option maxRecDepth 100000 in
set_option maxHeartbeats 1000000 in
theorem numElems_4 {pb : Nat} {v : Nat} {s : Bool} {path : ByteArray} {p : Pk} {fp : List UInt8} {sc : Value} {w : World} (h : PkQ pb v s path p fp sc w) (hn : (p.elems 10).length ≤ 1000000) :
    Calls Tryd.prog 22 #[.pointer (some ⟨pb, 0, none⟩), .int .i32 4] w (RetQ (.int .i64 ((p 4).length : Nat)) w) := by
  obtain ⟨g, c, hb, _, _, _⟩ := h.is
  have h1 : (p.elems (4 + 1)).length = (p.elems 4).length + (p 4).length := by rw [Pk.elems_succ, List.length_append]
  have h2 : (p.elems (4 + 1)).length ≤ 1000000 := Nat.le_trans (p.elems_pre (4 + 1) 10 (by decide)).length_le hn
  obtain ⟨a, ha⟩ : ∃ a, a = (p.elems 4).length := ⟨_, rfl⟩
  obtain ⟨b, hb9⟩ : ∃ b, b = (p.elems (4 + 1)).length := ⟨_, rfl⟩
  obtain ⟨d, hd⟩ : ∃ d, d = (p 4).length := ⟨_, rfl⟩
  have q1 : w.cell? ⟨pb, 8, none⟩ = some (.int .u32 a) := by rw [ha]; exact hb.cell 8
  have q2 : w.cell? ⟨pb, 9, none⟩ = some (.int .u32 b) := by rw [hb9]; exact hb.cell 9
  rw [← ha, ← hb9, ← hd] at h1
  rw [← hb9] at h2
  rw [← hd]
  have b0 : (0 : Int) ≤ b := by omega
  have b1 : (b : Int) ≤ 1000000 := by omega
  have wb : IntKind.i64.wrap (b : Int) = b := by rw [IntKind.wrap_i64]; omega
  have a0 : (0 : Int) ≤ a := by omega
  have a1 : (a : Int) ≤ 1000000 := by omega
  have wa : IntKind.i64.wrap (a : Int) = a := by rw [IntKind.wrap_i64]; omega
  have hd9 : (b : Int) - a = d := by omega
  have wd : IntKind.i64.wrap (d : Int) = d := by rw [IntKind.wrap_i64]; omega
  clear h hb h1 h2 ha hb9 hd
  go_enter Tryd.func22, Tryd.ntmps22
  go_wp2
  go_ret
  exact ⟨rfl, 0, rfl⟩
set_option maxRecDepth 100000 in
set_option maxHeartbeats 1000000 in
theorem numElems_5 {pb : Nat} {v : Nat} {s : Bool} {path : ByteArray} {p : Pk} {fp : List UInt8} {sc : Value} {w : World} (h : PkQ pb v s path p fp sc w) (hn : (p.elems 10).length ≤ 1000000) :
    Calls Tryd.prog 22 #[.pointer (some ⟨pb, 0, none⟩), .int .i32 5] w (RetQ (.int .i64 ((p 5).length : Nat)) w) := by
  obtain ⟨g, c, hb, _, _, _⟩ := h.is
  have h1 : (p.elems (5 + 1)).length = (p.elems 5).length + (p 5).length := by rw [Pk.elems_succ, List.length_append]
  have h2 : (p.elems (5 + 1)).length ≤ 1000000 := Nat.le_trans (p.elems_pre (5 + 1) 10 (by decide)).length_le hn
  obtain ⟨a, ha⟩ : ∃ a, a = (p.elems 5).length := ⟨_, rfl⟩
  obtain ⟨b, hb9⟩ : ∃ b, b = (p.elems (5 + 1)).length := ⟨_, rfl⟩
  obtain ⟨d, hd⟩ : ∃ d, d = (p 5).length := ⟨_, rfl⟩
  have q1 : w.cell? ⟨pb, 9, none⟩ = some (.int .u32 a) := by rw [ha]; exact hb.cell 9
  have q2 : w.cell? ⟨pb, 10, none⟩ = some (.int .u32 b) := by rw [hb9]; exact hb.cell 10
  rw [← ha, ← hb9, ← hd] at h1
  rw [← hb9] at h2
  rw [← hd]
  have b0 : (0 : Int) ≤ b := by omega
  have b1 : (b : Int) ≤ 1000000 := by omega
  have wb : IntKind.i64.wrap (b : Int) = b := by rw [IntKind.wrap_i64]; omega
  have a0 : (0 : Int) ≤ a := by omega
  have a1 : (a : Int) ≤ 1000000 := by omega
  have wa : IntKind.i64.wrap (a : Int) = a := by rw [IntKind.wrap_i64]; omega
  have hd9 : (b : Int) - a = d := by omega
  have wd : IntKind.i64.wrap (d : Int) = d := by rw [IntKind.wrap_i64]; omega
  clear h hb h1 h2 ha hb9 hd
  go_enter Tryd.func22, Tryd.ntmps22
  go_wp2
  go_ret
  exact ⟨rfl, 0, rfl⟩
set_option maxRecDepth 100000 in
set_option maxHeartbeats 1000000 in
theorem numElems_6 {pb : Nat} {v : Nat} {s : Bool} {path : ByteArray} {p : Pk} {fp : List UInt8} {sc : Value} {w : World} (h : PkQ pb v s path p fp sc w) (hn : (p.elems 10).length ≤ 1000000) :
    Calls Tryd.prog 22 #[.pointer (some ⟨pb, 0, none⟩), .int .i32 6] w (RetQ (.int .i64 ((p 6).length : Nat)) w) := by
  obtain ⟨g, c, hb, _, _, _⟩ := h.is
  have h1 : (p.elems (6 + 1)).length = (p.elems 6).length + (p 6).length := by rw [Pk.elems_succ, List.length_append]
  have h2 : (p.elems (6 + 1)).length ≤ 1000000 := Nat.le_trans (p.elems_pre (6 + 1) 10 (by decide)).length_le hn
  obtain ⟨a, ha⟩ : ∃ a, a = (p.elems 6).length := ⟨_, rfl⟩
  obtain ⟨b, hb9⟩ : ∃ b, b = (p.elems (6 + 1)).length := ⟨_, rfl⟩
  obtain ⟨d, hd⟩ : ∃ d, d = (p 6).length := ⟨_, rfl⟩
  have q1 : w.cell? ⟨pb, 10, none⟩ = some (.int .u32 a) := by rw [ha]; exact hb.cell 10
  have q2 : w.cell? ⟨pb, 11, none⟩ = some (.int .u32 b) := by rw [hb9]; exact hb.cell 11
  rw [← ha, ← hb9, ← hd] at h1
  rw [← hb9] at h2
  rw [← hd]
  have b0 : (0 : Int) ≤ b := by omega
  have b1 : (b : Int) ≤ 1000000 := by omega
  have wb : IntKind.i64.wrap (b : Int) = b := by rw [IntKind.wrap_i64]; omega
  have a0 : (0 : Int) ≤ a := by omega
  have a1 : (a : Int) ≤ 1000000 := by omega
  have wa : IntKind.i64.wrap (a : Int) = a := by rw [IntKind.wrap_i64]; omega
  have hd9 : (b : Int) - a = d := by omega
  have wd : IntKind.i64.wrap (d : Int) = d := by rw [IntKind.wrap_i64]; omega
  clear h hb h1 h2 ha hb9 hd
  go_enter Tryd.func22, Tryd.ntmps22
  go_wp2
  go_ret
  exact ⟨rfl, 0, rfl⟩
set_option maxRecDepth 100000 in
set_option maxHeartbeats 1000000 in
theorem numElems_7 {pb : Nat} {v : Nat} {s : Bool} {path : ByteArray} {p : Pk} {fp : List UInt8} {sc : Value} {w : World} (h : PkQ pb v s path p fp sc w) (hn : (p.elems 10).length ≤ 1000000) :
    Calls Tryd.prog 22 #[.pointer (some ⟨pb, 0, none⟩), .int .i32 7] w (RetQ (.int .i64 ((p 7).length : Nat)) w) := by
  obtain ⟨g, c, hb, _, _, _⟩ := h.is
  have h1 : (p.elems (7 + 1)).length = (p.elems 7).length + (p 7).length := by rw [Pk.elems_succ, List.length_append]
  have h2 : (p.elems (7 + 1)).length ≤ 1000000 := Nat.le_trans (p.elems_pre (7 + 1) 10 (by decide)).length_le hn
  obtain ⟨a, ha⟩ : ∃ a, a = (p.elems 7).length := ⟨_, rfl⟩
  obtain ⟨b, hb9⟩ : ∃ b, b = (p.elems (7 + 1)).length := ⟨_, rfl⟩
  obtain ⟨d, hd⟩ : ∃ d, d = (p 7).length := ⟨_, rfl⟩
  have q1 : w.cell? ⟨pb, 11, none⟩ = some (.int .u32 a) := by rw [ha]; exact hb.cell 11
  have q2 : w.cell? ⟨pb, 12, none⟩ = some (.int .u32 b) := by rw [hb9]; exact hb.cell 12
  rw [← ha, ← hb9, ← hd] at h1
  rw [← hb9] at h2
  rw [← hd]
  have b0 : (0 : Int) ≤ b := by omega
  have b1 : (b : Int) ≤ 1000000 := by omega
  have wb : IntKind.i64.wrap (b : Int) = b := by rw [IntKind.wrap_i64]; omega
  have a0 : (0 : Int) ≤ a := by omega
  have a1 : (a : Int) ≤ 1000000 := by omega
  have wa : IntKind.i64.wrap (a : Int) = a := by rw [IntKind.wrap_i64]; omega
  have hd9 : (b : Int) - a = d := by omega
  have wd : IntKind.i64.wrap (d : Int) = d := by rw [IntKind.wrap_i64]; omega
  clear h hb h1 h2 ha hb9 hd
  go_enter Tryd.func22, Tryd.ntmps22
  go_wp2
  go_ret
  exact ⟨rfl, 0, rfl⟩
set_option maxRecDepth 100000 in
set_option maxHeartbeats 1000000 in
theorem numElems_8 {pb : Nat} {v : Nat} {s : Bool} {path : ByteArray} {p : Pk} {fp : List UInt8} {sc : Value} {w : World} (h : PkQ pb v s path p fp sc w) (hn : (p.elems 10).length ≤ 1000000) :
    Calls Tryd.prog 22 #[.pointer (some ⟨pb, 0, none⟩), .int .i32 8] w (RetQ (.int .i64 ((p 8).length : Nat)) w) := by
  obtain ⟨g, c, hb, _, _, _⟩ := h.is
  have h1 : (p.elems (8 + 1)).length = (p.elems 8).length + (p 8).length := by rw [Pk.elems_succ, List.length_append]
  have h2 : (p.elems (8 + 1)).length ≤ 1000000 := Nat.le_trans (p.elems_pre (8 + 1) 10 (by decide)).length_le hn
  obtain ⟨a, ha⟩ : ∃ a, a = (p.elems 8).length := ⟨_, rfl⟩
  obtain ⟨b, hb9⟩ : ∃ b, b = (p.elems (8 + 1)).length := ⟨_, rfl⟩
  obtain ⟨d, hd⟩ : ∃ d, d = (p 8).length := ⟨_, rfl⟩
  have q1 : w.cell? ⟨pb, 12, none⟩ = some (.int .u32 a) := by rw [ha]; exact hb.cell 12
  have q2 : w.cell? ⟨pb, 13, none⟩ = some (.int .u32 b) := by rw [hb9]; exact hb.cell 13
  rw [← ha, ← hb9, ← hd] at h1
  rw [← hb9] at h2
  rw [← hd]
  have b0 : (0 : Int) ≤ b := by omega
  have b1 : (b : Int) ≤ 1000000 := by omega
  have wb : IntKind.i64.wrap (b : Int) = b := by rw [IntKind.wrap_i64]; omega
  have a0 : (0 : Int) ≤ a := by omega
  have a1 : (a : Int) ≤ 1000000 := by omega
  have wa : IntKind.i64.wrap (a : Int) = a := by rw [IntKind.wrap_i64]; omega
  have hd9 : (b : Int) - a = d := by omega
  have wd : IntKind.i64.wrap (d : Int) = d := by rw [IntKind.wrap_i64]; omega
  clear h hb h1 h2 ha hb9 hd
  go_enter Tryd.func22, Tryd.ntmps22
  go_wp2
  go_ret
  exact ⟨rfl, 0, rfl⟩
set_option maxRecDepth 100000 in
set_option maxHeartbeats 1000000 in
theorem numElems_9 {pb : Nat} {v : Nat} {s : Bool} {path : ByteArray} {p : Pk} {fp : List UInt8} {sc : Value} {w : World} (h : PkQ pb v s path p fp sc w) (hn : (p.elems 10).length ≤ 1000000) :
    Calls Tryd.prog 22 #[.pointer (some ⟨pb, 0, none⟩), .int .i32 9] w (RetQ (.int .i64 ((p 9).length : Nat)) w) := by
  obtain ⟨g, c, hb, _, _, _⟩ := h.is
  have h1 : (p.elems (9 + 1)).length = (p.elems 9).length + (p 9).length := by rw [Pk.elems_succ, List.length_append]
  have h2 : (p.elems (9 + 1)).length ≤ 1000000 := Nat.le_trans (p.elems_pre (9 + 1) 10 (by decide)).length_le hn
  obtain ⟨a, ha⟩ : ∃ a, a = (p.elems 9).length := ⟨_, rfl⟩
  obtain ⟨b, hb9⟩ : ∃ b, b = (p.elems (9 + 1)).length := ⟨_, rfl⟩
  obtain ⟨d, hd⟩ : ∃ d, d = (p 9).length := ⟨_, rfl⟩
  have q1 : w.cell? ⟨pb, 13, none⟩ = some (.int .u32 a) := by rw [ha]; exact hb.cell 13
  have q2 : w.cell? ⟨pb, 14, none⟩ = some (.int .u32 b) := by rw [hb9]; exact hb.cell 14
  rw [← ha, ← hb9, ← hd] at h1
  rw [← hb9] at h2
  rw [← hd]
  have b0 : (0 : Int) ≤ b := by omega
  have b1 : (b : Int) ≤ 1000000 := by omega
  have wb : IntKind.i64.wrap (b : Int) = b := by rw [IntKind.wrap_i64]; omega
  have a0 : (0 : Int) ≤ a := by omega
  have a1 : (a : Int) ≤ 1000000 := by omega
  have wa : IntKind.i64.wrap (a : Int) = a := by rw [IntKind.wrap_i64]; omega
  have hd9 : (b : Int) - a = d := by omega
  have wd : IntKind.i64.wrap (d : Int) = d := by rw [IntKind.wrap_i64]; omega
  clear h hb h1 h2 ha hb9 hd
  go_enter Tryd.func22, Tryd.ntmps22
  go_wp2
  go_ret
  exact ⟨rfl, 0, rfl⟩
theorem numElems_any {pb : Nat} {v : Nat} {s : Bool} {path : ByteArray} {p : Pk} {fp : List UInt8} {sc : Value} {w : World} (h : PkQ pb v s path p fp sc w) (k : Nat) (hk : k < 10) (hn : (p.elems 10).length ≤ 1000000) :
    Calls Tryd.prog 22 #[.pointer (some ⟨pb, 0, none⟩), .int .i32 k] w (RetQ (.int .i64 ((p k).length : Nat)) w) := by
  match k, hk with
  | 0, _ => exact numElems_0 h hn
  | 1, _ => exact numElems_1 h hn
  | 2, _ => exact numElems_2 h hn
  | 3, _ => exact numElems_3 h hn
  | 4, _ => exact numElems_4 h hn
  | 5, _ => exact numElems_5 h hn
  | 6, _ => exact numElems_6 h hn
  | 7, _ => exact numElems_7 h hn
  | 8, _ => exact numElems_8 h hn
  | 9, _ => exact numElems_9 h hn
  | k + 10, hk => omega
set_option maxRecDepth 100000 in
set_option maxHeartbeats 2000000 in
theorem elements_any {t : ByteArray} {v : Nat} {s : Bool} {p : Pk} {fp : List UInt8} {w : World} (hT : PkT t v s p fp) (hG : Gv w) (k : Nat) (hk : k < 10) :
    Calls Tryd.prog 13 #[.string t, .int .i64 k] w (RetV (.int .i64 ((p k).length : Nat)) w) := by
  have ND := Lib.hid (fun (W : World) (hb : Below w.heap.size w W) => newPkgDecoder_any ⟨#[]⟩ t v s p fp W hT.eq hT.fp8 hT.ver hT.syn hT.one hT.cnt hT.siz (hG.here hb).i (hG.here hb).r)
  have HT := Lib.hid hT
  have k0 : (0 : Int) ≤ k := by omega
  have k1 : (k : Int) < 10 := by omega
  have hk32 : IntKind.i32.wrap (k : Int) = k := by rw [IntKind.wrap_i32]; omega
  clear hT hG
  go_enter Tryd.func13, Tryd.ntmps13
  go_wp2_with fail
  refine (ND.out w (Below.refl _ _)).mono ?_
  rintro e w1 ⟨g, c, rfl, hc, _, hcl, b1⟩
  have PD := Lib.hid (PkQ.new (v := v) (s := s) (path := ⟨#[]⟩) (fp := fp) hc hcl HT.out.one)
  have B1 := Lib.hid (b1.alloc b1.size (.cells (rdArr v s ⟨#[]⟩ (str (p.data ++ fp)) (.slice (some ⟨g, 0, none⟩) (p.elems 10).length c) (fun k => (p.elems (k + 1)).length) (.slice none 0 0)) 55))
  clear hc hcl b1 ND
  go_wp2_with fail
  refine (numElems_any PD.out k hk HT.out.cnt).mono ?_
  rintro e w2 ⟨rfl, n2, rfl⟩
  go_wp2_with fail
  go_ret
  exact ⟨rfl, below_drewN B1.out n2⟩
end Go.Proofs.YtedjadicdodahaaDoor
