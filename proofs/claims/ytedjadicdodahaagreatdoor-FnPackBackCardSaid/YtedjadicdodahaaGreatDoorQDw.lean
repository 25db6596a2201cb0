/- An element's decoder: its strings; a value read. (printed by gen_pdv.py) -/
import Derived.Deep.Cut
import Derived.Test.YtedjadicdodahaaGreatDoorQDu
import Derived.Test.YtedjadicdodahaaGreatDoorPEnF
import Derived.Great.Walk
import Derived.Test.YtedjadicdodahaaGreatDoorPf
import Derived.BigRegion
import Derived.Test.YtedjadicdodahaaGreatDoorQPh
namespace Go.Proofs.YtedjadicdodahaaGreatDoor
open Go.RowKit

theorem Tryz.infoStrD : (Tryz.prog.info? 9).map (fun i => (i.zero, i.size, i.bytes)) = some (some (.string ⟨#[]⟩), 1, 16) := by kernel_rfl
/-- The strings read so far. -/
structure Strs (g : Nat) (l : List ByteArray) (j : Nat) (w : World) : Prop where
  is : ∃ cs : Array Value, Blk w g 9 cs ∧ cs.size = l.length ∧ ∀ q t, q < j → l[q]? = some t → cs[q]? = some (.string t)
section
variable {g : Nat} {l : List ByteArray} {j : Nat} {w w' : World}
theorem Strs.fr {G : List Nat} (h : Strs g l j w) (f : Fr G w w') (hg : g ∉ G) : Strs g l j w' := by
  obtain ⟨cs, hb, h1, h2⟩ := h.is
  exact ⟨cs, hb.fr f hg, h1, h2⟩
theorem Strs.cell {q : Nat} (h : Strs g l j w) (hq : q < l.length) : (∃ y, w.cell? ⟨g, q, none⟩ = some y) ∧ w.frozen? ⟨g, q, none⟩ = false := by
  obtain ⟨cs, hb, h1, _⟩ := h.is
  exact ⟨⟨cs[q]'(by omega), by rw [hb.cell, Array.getElem?_eq_getElem]⟩, hb.frozen _⟩
theorem Strs.next (h : Strs g l j w) (hj : j < l.length) : Strs g l (j + 1) (w.setCell ⟨g, j, none⟩ (.string l[j])) := by
  obtain ⟨cs, hb, h1, h2⟩ := h.is
  refine ⟨_, hb.set_ j (.string l[j]), by rw [Array.size_setIfInBounds]; exact h1, fun q t hq ht => ?_⟩
  by_cases e : q = j
  · subst e
    rw [List.getElem?_eq_getElem hj, Option.some.injEq] at ht
    subst ht
    rw [Array.getElem?_setIfInBounds_self_of_lt (by omega)]
  · rw [Array.getElem?_setIfInBounds_ne (by omega)]
    exact h2 q t (by omega) ht
theorem Strs.rows (h : Strs g l l.length w) : SlR 1 w (some ⟨g, 0, none⟩) (l.map strCells) := fun _ => by
  obtain ⟨cs, hb, h1, h2⟩ := h.is
  refine ⟨g, 0, rfl, fun q ps hq i u hu => ?_⟩
  rw [List.getElem?_map, Option.map_eq_some_iff] at hq
  obtain ⟨r, hr, rfl⟩ := hq
  match i, hu with
  | 0, hu =>
    obtain rfl : Value.string r = u := by simpa using hu
    rw [Nat.zero_add, Nat.mul_one, Nat.add_zero, hb.cell]
    exact h2 q r (List.getElem?_eq_some_iff.1 hr).1 hr
  | i + 1, hu => simp at hu
end
set_option maxRecDepth 100000 in
set_option maxHeartbeats 2000000 in
theorem dStrings_any {w0 : World} {pb v : Nat} {s : Bool} {path : ByteArray} {p : Pk} {fp : List UInt8} {sc : Value} {A : Option Addr} {rs : List (Int × Int)} (B : Dbs w0 pb v s path p fp sc A rs) {d : Nat} {R : Nat → Option Value} {t : ByteArray} {i : Nat} {w : World} (h : Dst pb s d R t i w) (be : Below w0.heap.size w0 w) (dz : w0.heap.size ≤ d) (c : Nat) (hR : R 1 = some (.slice A rs.length c)) (l : List ByteArray) (e : Es) (hl : l.length ≤ 20) (h1 : (l.foldl (fun e t => e.str s t) e).rs <+: rs) (h2 : (l.foldl (fun e t => e.str s t) e).ss <+: p 0) (hs : Sat t i (eU s l.length ++ strsD s l e)) :
    Calls Tryz.prog 120 #[.pointer (some ⟨d, 0, none⟩)] w fun e' w' => ∃ g, e' = .returned (.slice (some ⟨g, 0, none⟩) l.length l.length) ∧ SlR 1 w' (some ⟨g, 0, none⟩) (l.map strCells) ∧ w.heap.size ≤ g ∧ Dst pb s d R t (i + (eU s l.length ++ strsD s l e).length) w' ∧ Fr [d] w w' := by
  have SA0 := Lib.hid hs.left
  have SA1 := Lib.hid (show Sat t (i + (eU s l.length).length) (strsD s (l.drop 0) (strsE s l e 0)) from hs.right)
  have HE := Lib.hid (show i + (eU s l.length ++ strsD s l e).length = i + (eU s l.length).length + (strsD s (l.drop 0) (strsE s l e 0)).length from by rw [List.length_append, Nat.add_assoc]; rfl)
  have ST := Lib.hid (fun (W : World) (pos j : Nat) (hj : j < l.length) (hd : Dst pb s d R t pos W) (hb : Below w0.heap.size w0 W) (hsat : Sat t pos (strsD s (l.drop j) (strsE s l e j))) => show Calls Tryz.prog 119 #[.pointer (some ⟨d, 0, none⟩)] W (Dmet pb s d R t (pos + (strD s l[j] (strsE s l e j)).length) (.string l[j]) W) ∧ Sat t (pos + (strD s l[j] (strsE s l e j)).length) (strsD s (l.drop (j + 1)) (strsE s l e (j + 1))) ∧ (strsD s (l.drop j) (strsE s l e j)).length = (strD s l[j] (strsE s l e j)).length + (strsD s (l.drop (j + 1)) (strsE s l e (j + 1))).length from by
    have hd1 := strsD_drop s l e j hj
    rw [hd1] at hsat
    have hp := strsE_pre s l e (j + 1)
    rw [strsE_succ s l e j hj] at hp
    obtain ⟨a1, a2⟩ := str_at (hp.rs.trans h1) (hp.ss.trans h2)
    exact ⟨dString_any B hd hb dz c hR _ _ _ a1 a2 hsat.left, hsat.right, by rw [hd1, List.length_append]⟩)
  have BF := Lib.hid (fun (W : World) (f : Fr [d] w W) => below_fr be f (fun q hq => by rw [List.mem_singleton.1 hq]; exact dz) be.size)
  obtain ⟨n, hn9⟩ : ∃ n, n = l.length := ⟨_, rfl⟩
  have HN := Lib.hid hn9
  have D0 := Lib.hid h
  have n0 : (0 : Int) ≤ n := by omega
  have n1 : (n : Int) ≤ 20 := by omega
  have hn2 : n < 9223372036854775808 := by omega
  rw [← hn9] at SA0 SA1 HE ⊢
  clear h hs be B hR h1 h2 hl hn9
  go_enter Tryz.func120, Tryz.ntmps120
  go_wp2_with fail
  refine (dLen_any D0.out n hn2 SA0.out).mono ?_
  rintro e1 w1 ⟨rfl, d1, f1⟩
  obtain ⟨i0, hi0, hz0, hz1, hz2⟩ := info_parts Tryz.infoStrD
  obtain ⟨M, hM⟩ : ∃ M, M = madeCells (Value.string ⟨#[]⟩).cells (n * i0.size) := ⟨_, rfl⟩
  have hMs : M.size = n := by rw [hM, size_madeCells, hz1, Nat.mul_one]
  have hmk : ∀ W : World, (Instr.makeSlice 39 (.int .i64 (n : Int)) (.int .i64 (n : Int))).run Tryz.prog W = .ok (.slice (some ⟨W.heap.size, 0, none⟩) n n) (W.alloc (.cells M 9)) := fun W => by
    have h := run_makeSlice (P := Tryz.prog) W 39 9 i0 (.string ⟨#[]⟩) Tryz.underlying39 hi0 hz0 .i64 .i64 (n : Int) (n : Int) (by omega) (by omega) (by rw [hz1]; omega) (by rw [hz2]; omega) (by omega)
    rw [show ((n : Int)).toNat = n from by omega, ← hM] at h
    exact h
  have hlt1 := d1.lt
  obtain ⟨w2, hw2⟩ : ∃ w2, w2 = w1.alloc (.cells M 9) := ⟨_, rfl⟩
  have b2 : Below w1.heap.size w1 w2 := by rw [hw2]; exact Below.alloc (Below.refl _ _) (Nat.le_refl _) _
  have D2 := Lib.hid (d1.here b2)
  have F2 := Lib.hid (f1.trans0 b2)
  obtain ⟨g, hg⟩ : ∃ g, g = w1.heap.size := ⟨_, rfl⟩
  have S2 := Lib.hid (show Strs g l 0 w2 from ⟨M, by rw [hw2, hg]; exact Blk.new _ _ _, by rw [hMs, HN.out], fun q t hq => by omega⟩)
  have HW2 := Lib.hid hw2
  have HG := Lib.hid hg
  have GE := Lib.hid (show w.heap.size ≤ g from by rw [hg]; exact f1.size)
  have hgd : g ≠ d := by omega
  clear hM hMs hz0 hz1 hz2 hi0 d1 f1 b2 hw2 hlt1 hg
  go_wp2_with fail
  rw [← HW2.out, ← HG.out]
  clear hmk
  go_loopw [4, 10] (fun _ x wr => ∃ (j pos : Nat), j ≤ n ∧ x = .int .i64 j ∧ Dst pb s d R t pos wr ∧ Sat t pos (strsD s (l.drop j) (strsE s l e j)) ∧ i + (eU s n ++ strsD s l e).length = pos + (strsD s (l.drop j) (strsE s l e j)).length ∧ Strs g l j wr ∧ Fr [d] w wr) (fun _ x _ => n - (intOf x).toNat)
  case atStart => exact ⟨0, _, by omega, rfl, D2.out, SA1.out, HE.out, S2.out, F2.out⟩
  case round =>
    obtain ⟨j, pos, hj, rfl, dj, sj, ej, tj, fj⟩ := hrel
    have TJ := Lib.hid tj
    have FJ := Lib.hid fj
    have DJ := Lib.hid dj
    have EJ := Lib.hid ej
    by_cases hlt : j < n
    · have hjl : j < l.length := by rw [← HN.out]; exact hlt
      obtain ⟨c1, c2, c3⟩ := ST.out wr pos j hjl dj (BF.out wr fj) sj
      have C1 := Lib.hid c1
      have C2 := Lib.hid c2
      have C3 := Lib.hid c3
      have NX := Lib.hid (fun (W : World) (h : Strs g l j W) => h.next hjl)
      have CE := Lib.hid (fun (W : World) (h : Strs g l j W) => h.cell hjl)
      have j0 : (0 : Int) ≤ j := by omega
      have j1 : (j : Int) < n := by omega
      clear dj sj ej tj fj c1 c2 c3
      generalize l[j] = T at *
      go_wp2_with fail
      refine C1.out.mono ?_
      rintro e3 w3 ⟨rfl, d3, f3⟩
      have D3 := Lib.hid d3
      have T3 := TJ.out.fr f3 (by simpa using hgd)
      obtain ⟨⟨y0, e0⟩, x0⟩ := CE.out w3 T3
      have F3 := Lib.hid (FJ.out.trans1 f3)
      have N3 := Lib.hid (NX.out w3 T3)
      have F4 := Lib.hid ((Fr.refl [g] w3).setCell (p := ⟨g, j, none⟩) (.inl (List.mem_singleton.2 rfl)) (.string T))
      have dg : d ∉ [g] := by simpa using hgd.symm
      have pg : pb ∉ [g] := by
        have h9 := World.block_lt_of_cell? _ _ D0.out.sy
        simp only at h9
        simp
        have := GE.out
        omega
      clear d3 f3 T3
      go_wp2_with fail
      go_roundw
      case rel => exact ⟨j + 1, _, by omega, by go_num, D3.out.far F4.out dg pg, C2.out, by rw [EJ.out, C3.out, Nat.add_assoc], N3.out, F3.out.setCell (.inr GE.out) _⟩
      case measure => simp [intOf]; omega
    · obtain rfl : j = n := by omega
      have hp9 : pos = i + (eU s j ++ strsD s l e).length := by
        rw [EJ.out, List.drop_eq_nil_of_le (by rw [← HN.out]; exact Nat.le_refl _)]
        simp [strsD]
      have RR := Lib.hid (show SlR 1 wr (some ⟨g, 0, none⟩) (l.map strCells) from by
        have h9 := TJ.out
        rw [HN.out] at h9
        exact h9.rows)
      clear dj sj ej tj fj
      go_wp2_with fail
      go_returns
      exact ⟨g, rfl, RR.out, GE.out, by rw [← hp9]; exact DJ.out, FJ.out⟩
end Go.Proofs.YtedjadicdodahaaGreatDoor

namespace Go.Proofs.YtedjadicdodahaaGreatDoor
open Go.RowKit

/-- What is due of a value. -/
def dueN (b : Bt) : Int := if b.kind = 0 then (if b.num ≠ 0 then 1 else 0) else if b.kind = 6 ∨ b.kind = 7 then 0 else b.num
def dueT (b : Bt) : ByteArray := if b.kind = 6 then b.text else ⟨#[]⟩
def dueL (b : Bt) : List ByteArray := if b.kind = 7 then b.texts.l else []
/-- A value read: its slice stands. -/
def Gotten (b : Bt) (v : Value) (n : Nat) (w : World) : Prop := ∃ (A : Option Addr) (c : Nat), v = .agg #[.int .i64 b.kind, .int .i64 (dueN b), .int .i64 b.sec, .string (dueT b), .slice A (dueL b).length c] ∧ SlR 1 w A ((dueL b).map strCells) ∧ ∀ a, A = some a → n ≤ a.block
/-- What reading a value leaves. -/
def ReadOut (pb : Nat) (s : Bool) (d : Nat) (R : Nat → Option Value) (t : ByteArray) (i : Nat) (b : Bt) (w : World) (e' : Ending) (w' : World) : Prop := ∃ v, e' = .returned v ∧ Gotten b v w.heap.size w' ∧ Dst pb s d R t i w' ∧ Fr [d] w w'
abbrev zBit : Array Value := #[.int .i64 0, .int .i64 0, .int .i64 0, .string ⟨#[]⟩, .slice none 0 0]
theorem slr_fr {size : Nat} {w w' : World} {g : Nat} {css : List (List Value)} {G : List Nat} (h : SlR size w (some ⟨g, 0, none⟩) css) (f : Fr G w w') (hg : g ∉ G) : SlR size w' (some ⟨g, 0, none⟩) css := fun hn => by
  obtain ⟨b, o, h1, h2⟩ := h hn
  refine ⟨b, o, h1, fun j cs hj i u hu => f.cell (h2 j cs hj i u hu) ?_⟩
  injection h1 with h1
  injection h1 with h3 h4
  subst h3
  exact hg
set_option maxRecDepth 100000 in
set_option maxHeartbeats 2000000 in
theorem read_0 {w0 : World} {pb v : Nat} {s : Bool} {path : ByteArray} {p : Pk} {fp : List UInt8} {sc : Value} {A : Option Addr} {rs : List (Int × Int)} (_ : Dbs w0 pb v s path p fp sc A rs) {d : Nat} {R : Nat → Option Value} {t : ByteArray} {i : Nat} {w : World} (h : Dst pb s d R t i w) (be : Below w0.heap.size w0 w) (dz : w0.heap.size ≤ d) (c : Nat) (_ : R 1 = some (.slice A rs.length c)) (b : Bt) (hb : b.Ok) (hk : b.kind = 0) (e : Es) (h1 : (e.bit s b).rs <+: rs) (h2 : (e.bit s b).ss <+: p 0) (hs : Sat t i (bitD s b e)) :
    Calls Tryz.prog 104 #[.pointer (some ⟨d, 0, none⟩), .agg b.arr2] w (ReadOut pb s d R t (i + (bitD s b e).length) b w) := by
  obtain ⟨kind, num, bsec, text, ⟨TA, tc, tl⟩⟩ := b
  obtain rfl : kind = 0 := hk
  have sat : Sat t i (eB s (decide (num ≠ 0))) := hs
  show Calls Tryz.prog 104 #[.pointer (some ⟨d, 0, none⟩), .agg #[.int .i64 0, .int .i64 num, .int .i64 bsec, .string text, .slice TA tl.length tc]] w (ReadOut pb s d R t (i + (eB s (decide (num ≠ 0))).length) ⟨0, num, bsec, text, ⟨TA, tc, tl⟩⟩ w)
  obtain ⟨w3, hw3⟩ : ∃ w3, w3 = ((w.alloc (.cells #[.int .i64 0, .int .i64 num, .int .i64 bsec, .string text, .slice TA tl.length tc] 41)).alloc (.cells zBit 41)).alloc (.cells #[.int .i64 0, .int .i64 0, .int .i64 bsec, .string ⟨#[]⟩, .slice none 0 0] 41) := ⟨_, rfl⟩
  have b3 : Below w.heap.size w w3 := by rw [hw3]; exact Below.alloc (Below.alloc (Below.alloc (Below.refl _ _) (Nat.le_refl _) _) (by simp) _) (by simp; omega) _
  have KB := Lib.hid (show Blk w3 w.heap.size 41 #[.int .i64 0, .int .i64 num, .int .i64 bsec, .string text, .slice TA tl.length tc] from by rw [hw3]; exact ((Blk.new w _ _).alloc _).alloc _)
  obtain ⟨rb, hrb⟩ : ∃ rb, rb = w.heap.size + 1 := ⟨_, rfl⟩
  obtain ⟨ob, hob⟩ : ∃ ob, ob = w.heap.size + 2 := ⟨_, rfl⟩
  have KR := Lib.hid (show Blk w3 rb 41 zBit from by rw [hw3, hrb]; exact (Blk.new1 w _ _ _).alloc _)
  have KO := Lib.hid (show Blk w3 ob 41 #[.int .i64 0, .int .i64 0, .int .i64 bsec, .string ⟨#[]⟩, .slice none 0 0] from by
    rw [hw3, hob]
    have h9 := Blk.new1 (w.alloc (.cells #[.int .i64 0, .int .i64 num, .int .i64 bsec, .string text, .slice TA tl.length tc] 41)) (.cells zBit 41) 41 #[.int .i64 0, .int .i64 0, .int .i64 bsec, .string ⟨#[]⟩, .slice none 0 0]
    simpa using h9)
  have hdl := h.lt
  have dB : w.heap.size ∉ [d] := by simp; omega
  have dR : rb ∉ [d] := by simp; omega
  have dO : ob ∉ [d] := by simp; omega
  have od : d ∉ [ob] := by simp; omega
  have op : pb ∉ [ob] := by
    have h9 := World.block_lt_of_cell? _ _ h.sy
    simp only at h9
    simp
    omega
  have or_ : rb ∉ [ob] := by simp; omega
  have rd : d ∉ [rb] := by simp; omega
  have rp : pb ∉ [rb] := by
    have h9 := World.block_lt_of_cell? _ _ h.sy
    simp only at h9
    simp
    omega
  have GO := Lib.hid (show w.heap.size ≤ ob ∧ w.heap.size ≤ rb from by omega)
  have D3 := Lib.hid (h.here b3)
  have B3 := Lib.hid (below_from be b3)
  have SAT := Lib.hid sat
  have F3 := Lib.hid (Fr.of_below (gs := [d]) b3)
  have BF := Lib.hid (fun (W : World) (f : Fr [d] w3 W) => below_fr B3.out f (fun q hq => by rw [List.mem_singleton.1 hq]; exact dz) (below_from be b3).size)
  have HW3 := Lib.hid hw3
  have HRB := Lib.hid hrb
  have HOB := Lib.hid hob
  have hnum : -9223372036854775808 ≤ num ∧ num < 9223372036854775808 := hb.num
  have n0 := hnum.1
  have n1 := hnum.2
  have SZ : (Tryz.prog.info? 41).map (·.size) = some 5 := by kernel_rfl
  have e0 := KB.out.cell 0
  have e1 := KB.out.cell 1
  have e2 := KB.out.cell 2
  clear hw3 hrb hob h be h1 h2 hs sat b3 hdl hb hnum
  go_enter Tryz.func104, Tryz.ntmps104
  go_upto_region 2 with fail
  rw [← HW3.out, ← HOB.out, ← HRB.out]
  go_wp2_with fail
  refine (dBool_any D3.out (decide (num ≠ 0)) SAT.out).mono ?_
  rintro e4 w4 ⟨rfl, d4, f4⟩
  have KO4 := Lib.hid (KO.out.fr f4 dO)
  have KR4 := Lib.hid (KR.out.fr f4 dR)
  have KB4 := Lib.hid (KB.out.fr f4 dB)
  have D4 := Lib.hid d4
  have F4 := Lib.hid (F3.out.trans1 f4)
  have o1 := KO4.out.cell 1
  have p1 := KO4.out.frozen 1
  clear d4 f4 e0 e1 e2
  by_cases h0 : num = 0
  · subst h0
    rw [show decide ((0 : Int) ≠ 0) = false from rfl]
    go_upto_region 31 with fail
    obtain ⟨w5, hw5⟩ : ∃ w5, w5 = w4 := ⟨_, rfl⟩
    rw [← hw5]
    have KO5 : Blk w5 ob 41 #[.int .i64 0, .int .i64 0, .int .i64 bsec, .string ⟨#[]⟩, .slice none 0 0] := by rw [hw5]; exact KO4.out
    have KR5 := hw5.symm ▸ KR4.out
    have D5 := hw5.symm ▸ D4.out
    have F5 : Fr [d] w w5 := by rw [hw5]; exact F4.out
    have K5 := Lib.hid KO5
    have R5 := Lib.hid KR5
    have DD5 := Lib.hid D5
    have FF5 := Lib.hid F5
    clear KO5 KR5 D5 F5 hw5 o1 p1
    go_wp2_with (first | (refine wpList_load_row rfl 41 (.tmp 5) (by rfl) ob (by rfl) 41 _ (0, 0) _ K5.out Tryz.underlying41 rfl SZ ?_) | (refine wpList_store_row rfl 41 (.tmp 4) (.tmp 90) (by rfl) rb #[.int .i64 0, .int .i64 0, .int .i64 bsec, .string ⟨#[]⟩, .slice none 0 0] (by rfl) (by rfl) 41 _ R5.out SZ rfl (by simp [Value.oneCell']) ?_))
    refine bodyPost_ret (v := .agg #[.int .i64 0, .int .i64 0, .int .i64 bsec, .string ⟨#[]⟩, .slice none 0 0]) (results_cell_row rfl _ _ rb 41 _ (0, 0) _ rfl (setRow_heap _ _ _ _ _ _ R5.out) Tryz.underlying41 rfl SZ) rfl ?_
    have F6 : Fr [rb] w5 (w5.setRow rb #[.int .i64 0, .int .i64 0, .int .i64 bsec, .string ⟨#[]⟩, .slice none 0 0]) := fr_setRow (Fr.refl _ _) (.inl (by simp)) _
    exact ⟨_, rfl, ⟨none, 0, by rfl, fun hh => absurd hh (by simp [dueL]), fun a ha => by cases ha⟩, DD5.out.far F6 rd rp, FF5.out.trans F6 (fun q hq => .inr (by rw [List.mem_singleton.1 hq]; exact GO.out.2))⟩
  · rw [show decide (num ≠ 0) = true from decide_eq_true h0]
    go_upto_region 31 with fail
    obtain ⟨w5, hw5⟩ : ∃ w5, w5 = w4.setCell ⟨ob, 1, none⟩ (.int .i64 1) := ⟨_, rfl⟩
    rw [← hw5]
    have f5 : Fr [ob] w4 w5 := by rw [hw5]; exact (Fr.refl [ob] w4).setCell (.inl (by simp)) _
    have KO5 : Blk w5 ob 41 #[.int .i64 0, .int .i64 1, .int .i64 bsec, .string ⟨#[]⟩, .slice none 0 0] := by rw [hw5]; exact KO4.out.set_ 1 (.int .i64 1)
    have KR5 := KR4.out.fr f5 or_
    have D5 := D4.out.far f5 od op
    have F5 : Fr [d] w w5 := by rw [hw5]; exact F4.out.setCell (.inr GO.out.1) _
    have K5 := Lib.hid KO5
    have R5 := Lib.hid KR5
    have DD5 := Lib.hid D5
    have FF5 := Lib.hid F5
    clear f5 KO5 KR5 D5 F5 hw5 o1 p1
    go_wp2_with (first | (refine wpList_load_row rfl 41 (.tmp 5) (by rfl) ob (by rfl) 41 _ (0, 0) _ K5.out Tryz.underlying41 rfl SZ ?_) | (refine wpList_store_row rfl 41 (.tmp 4) (.tmp 90) (by rfl) rb #[.int .i64 0, .int .i64 1, .int .i64 bsec, .string ⟨#[]⟩, .slice none 0 0] (by rfl) (by rfl) 41 _ R5.out SZ rfl (by simp [Value.oneCell']) ?_))
    refine bodyPost_ret (v := .agg #[.int .i64 0, .int .i64 1, .int .i64 bsec, .string ⟨#[]⟩, .slice none 0 0]) (results_cell_row rfl _ _ rb 41 _ (0, 0) _ rfl (setRow_heap _ _ _ _ _ _ R5.out) Tryz.underlying41 rfl SZ) rfl ?_
    have F6 : Fr [rb] w5 (w5.setRow rb #[.int .i64 0, .int .i64 1, .int .i64 bsec, .string ⟨#[]⟩, .slice none 0 0]) := fr_setRow (Fr.refl _ _) (.inl (by simp)) _
    exact ⟨_, rfl, ⟨none, 0, by (simp [dueN, dueT, dueL, h0]), fun hh => absurd hh (by simp [dueL]), fun a ha => by cases ha⟩, DD5.out.far F6 rd rp, FF5.out.trans F6 (fun q hq => .inr (by rw [List.mem_singleton.1 hq]; exact GO.out.2))⟩
set_option maxRecDepth 100000 in
set_option maxHeartbeats 2000000 in
theorem read_1 {w0 : World} {pb v : Nat} {s : Bool} {path : ByteArray} {p : Pk} {fp : List UInt8} {sc : Value} {A : Option Addr} {rs : List (Int × Int)} (_ : Dbs w0 pb v s path p fp sc A rs) {d : Nat} {R : Nat → Option Value} {t : ByteArray} {i : Nat} {w : World} (h : Dst pb s d R t i w) (be : Below w0.heap.size w0 w) (dz : w0.heap.size ≤ d) (c : Nat) (_ : R 1 = some (.slice A rs.length c)) (b : Bt) (hb : b.Ok) (hk : b.kind = 1) (e : Es) (h1 : (e.bit s b).rs <+: rs) (h2 : (e.bit s b).ss <+: p 0) (hs : Sat t i (bitD s b e)) :
    Calls Tryz.prog 104 #[.pointer (some ⟨d, 0, none⟩), .agg b.arr2] w (ReadOut pb s d R t (i + (bitD s b e).length) b w) := by
  obtain ⟨kind, num, bsec, text, ⟨TA, tc, tl⟩⟩ := b
  obtain rfl : kind = 1 := hk
  have sat : Sat t i (eI s num) := hs
  show Calls Tryz.prog 104 #[.pointer (some ⟨d, 0, none⟩), .agg #[.int .i64 1, .int .i64 num, .int .i64 bsec, .string text, .slice TA tl.length tc]] w (ReadOut pb s d R t (i + (eI s num).length) ⟨1, num, bsec, text, ⟨TA, tc, tl⟩⟩ w)
  obtain ⟨w3, hw3⟩ : ∃ w3, w3 = ((w.alloc (.cells #[.int .i64 1, .int .i64 num, .int .i64 bsec, .string text, .slice TA tl.length tc] 41)).alloc (.cells zBit 41)).alloc (.cells #[.int .i64 1, .int .i64 0, .int .i64 bsec, .string ⟨#[]⟩, .slice none 0 0] 41) := ⟨_, rfl⟩
  have b3 : Below w.heap.size w w3 := by rw [hw3]; exact Below.alloc (Below.alloc (Below.alloc (Below.refl _ _) (Nat.le_refl _) _) (by simp) _) (by simp; omega) _
  have KB := Lib.hid (show Blk w3 w.heap.size 41 #[.int .i64 1, .int .i64 num, .int .i64 bsec, .string text, .slice TA tl.length tc] from by rw [hw3]; exact ((Blk.new w _ _).alloc _).alloc _)
  obtain ⟨rb, hrb⟩ : ∃ rb, rb = w.heap.size + 1 := ⟨_, rfl⟩
  obtain ⟨ob, hob⟩ : ∃ ob, ob = w.heap.size + 2 := ⟨_, rfl⟩
  have KR := Lib.hid (show Blk w3 rb 41 zBit from by rw [hw3, hrb]; exact (Blk.new1 w _ _ _).alloc _)
  have KO := Lib.hid (show Blk w3 ob 41 #[.int .i64 1, .int .i64 0, .int .i64 bsec, .string ⟨#[]⟩, .slice none 0 0] from by
    rw [hw3, hob]
    have h9 := Blk.new1 (w.alloc (.cells #[.int .i64 1, .int .i64 num, .int .i64 bsec, .string text, .slice TA tl.length tc] 41)) (.cells zBit 41) 41 #[.int .i64 1, .int .i64 0, .int .i64 bsec, .string ⟨#[]⟩, .slice none 0 0]
    simpa using h9)
  have hdl := h.lt
  have dB : w.heap.size ∉ [d] := by simp; omega
  have dR : rb ∉ [d] := by simp; omega
  have dO : ob ∉ [d] := by simp; omega
  have od : d ∉ [ob] := by simp; omega
  have op : pb ∉ [ob] := by
    have h9 := World.block_lt_of_cell? _ _ h.sy
    simp only at h9
    simp
    omega
  have or_ : rb ∉ [ob] := by simp; omega
  have rd : d ∉ [rb] := by simp; omega
  have rp : pb ∉ [rb] := by
    have h9 := World.block_lt_of_cell? _ _ h.sy
    simp only at h9
    simp
    omega
  have GO := Lib.hid (show w.heap.size ≤ ob ∧ w.heap.size ≤ rb from by omega)
  have D3 := Lib.hid (h.here b3)
  have B3 := Lib.hid (below_from be b3)
  have SAT := Lib.hid sat
  have F3 := Lib.hid (Fr.of_below (gs := [d]) b3)
  have BF := Lib.hid (fun (W : World) (f : Fr [d] w3 W) => below_fr B3.out f (fun q hq => by rw [List.mem_singleton.1 hq]; exact dz) (below_from be b3).size)
  have HW3 := Lib.hid hw3
  have HRB := Lib.hid hrb
  have HOB := Lib.hid hob
  have hnum : -9223372036854775808 ≤ num ∧ num < 9223372036854775808 := hb.num
  have n0 := hnum.1
  have n1 := hnum.2
  have SZ : (Tryz.prog.info? 41).map (·.size) = some 5 := by kernel_rfl
  have e0 := KB.out.cell 0
  have e1 := KB.out.cell 1
  have e2 := KB.out.cell 2
  clear hw3 hrb hob h be h1 h2 hs sat b3 hdl hb hnum
  go_enter Tryz.func104, Tryz.ntmps104
  go_upto_region 2 with fail
  rw [← HW3.out, ← HOB.out, ← HRB.out]
  go_wp2_with fail
  refine (dInt64_any D3.out num n0 n1 SAT.out).mono ?_
  rintro e4 w4 ⟨rfl, d4, f4⟩
  have KO4 := Lib.hid (KO.out.fr f4 dO)
  have KR4 := Lib.hid (KR.out.fr f4 dR)
  have KB4 := Lib.hid (KB.out.fr f4 dB)
  have D4 := Lib.hid d4
  have F4 := Lib.hid (F3.out.trans1 f4)
  have o1 := KO4.out.cell 1
  have p1 := KO4.out.frozen 1
  clear d4 f4 e0 e1 e2
  go_upto_region 31 with fail
  obtain ⟨w5, hw5⟩ : ∃ w5, w5 = w4.setCell ⟨ob, 1, none⟩ (.int .i64 num) := ⟨_, rfl⟩
  rw [← hw5]
  have f5 : Fr [ob] w4 w5 := by rw [hw5]; exact (Fr.refl [ob] w4).setCell (.inl (by simp)) _
  have KO5 : Blk w5 ob 41 #[.int .i64 1, .int .i64 num, .int .i64 bsec, .string ⟨#[]⟩, .slice none 0 0] := by rw [hw5]; exact KO4.out.set_ 1 (.int .i64 num)
  have KR5 := KR4.out.fr f5 or_
  have D5 := D4.out.far f5 od op
  have F5 : Fr [d] w w5 := by rw [hw5]; exact F4.out.setCell (.inr GO.out.1) _
  have K5 := Lib.hid KO5
  have R5 := Lib.hid KR5
  have DD5 := Lib.hid D5
  have FF5 := Lib.hid F5
  clear f5 KO5 KR5 D5 F5 hw5 o1 p1
  go_wp2_with (first | (refine wpList_load_row rfl 41 (.tmp 5) (by rfl) ob (by rfl) 41 _ (0, 0) _ K5.out Tryz.underlying41 rfl SZ ?_) | (refine wpList_store_row rfl 41 (.tmp 4) (.tmp 90) (by rfl) rb #[.int .i64 1, .int .i64 num, .int .i64 bsec, .string ⟨#[]⟩, .slice none 0 0] (by rfl) (by rfl) 41 _ R5.out SZ rfl (by simp [Value.oneCell']) ?_))
  refine bodyPost_ret (v := .agg #[.int .i64 1, .int .i64 num, .int .i64 bsec, .string ⟨#[]⟩, .slice none 0 0]) (results_cell_row rfl _ _ rb 41 _ (0, 0) _ rfl (setRow_heap _ _ _ _ _ _ R5.out) Tryz.underlying41 rfl SZ) rfl ?_
  have F6 : Fr [rb] w5 (w5.setRow rb #[.int .i64 1, .int .i64 num, .int .i64 bsec, .string ⟨#[]⟩, .slice none 0 0]) := fr_setRow (Fr.refl _ _) (.inl (by simp)) _
  exact ⟨_, rfl, ⟨none, 0, by rfl, fun hh => absurd hh (by simp [dueL]), fun a ha => by cases ha⟩, DD5.out.far F6 rd rp, FF5.out.trans F6 (fun q hq => .inr (by rw [List.mem_singleton.1 hq]; exact GO.out.2))⟩
set_option maxRecDepth 100000 in
set_option maxHeartbeats 2000000 in
theorem read_2 {w0 : World} {pb v : Nat} {s : Bool} {path : ByteArray} {p : Pk} {fp : List UInt8} {sc : Value} {A : Option Addr} {rs : List (Int × Int)} (_ : Dbs w0 pb v s path p fp sc A rs) {d : Nat} {R : Nat → Option Value} {t : ByteArray} {i : Nat} {w : World} (h : Dst pb s d R t i w) (be : Below w0.heap.size w0 w) (dz : w0.heap.size ≤ d) (c : Nat) (_ : R 1 = some (.slice A rs.length c)) (b : Bt) (hb : b.Ok) (hk : b.kind = 2) (e : Es) (h1 : (e.bit s b).rs <+: rs) (h2 : (e.bit s b).ss <+: p 0) (hs : Sat t i (bitD s b e)) :
    Calls Tryz.prog 104 #[.pointer (some ⟨d, 0, none⟩), .agg b.arr2] w (ReadOut pb s d R t (i + (bitD s b e).length) b w) := by
  obtain ⟨kind, num, bsec, text, ⟨TA, tc, tl⟩⟩ := b
  obtain rfl : kind = 2 := hk
  have sat : Sat t i (eU s (num % 18446744073709551616).toNat) := hs
  show Calls Tryz.prog 104 #[.pointer (some ⟨d, 0, none⟩), .agg #[.int .i64 2, .int .i64 num, .int .i64 bsec, .string text, .slice TA tl.length tc]] w (ReadOut pb s d R t (i + (eU s (num % 18446744073709551616).toNat).length) ⟨2, num, bsec, text, ⟨TA, tc, tl⟩⟩ w)
  obtain ⟨w3, hw3⟩ : ∃ w3, w3 = ((w.alloc (.cells #[.int .i64 2, .int .i64 num, .int .i64 bsec, .string text, .slice TA tl.length tc] 41)).alloc (.cells zBit 41)).alloc (.cells #[.int .i64 2, .int .i64 0, .int .i64 bsec, .string ⟨#[]⟩, .slice none 0 0] 41) := ⟨_, rfl⟩
  have b3 : Below w.heap.size w w3 := by rw [hw3]; exact Below.alloc (Below.alloc (Below.alloc (Below.refl _ _) (Nat.le_refl _) _) (by simp) _) (by simp; omega) _
  have KB := Lib.hid (show Blk w3 w.heap.size 41 #[.int .i64 2, .int .i64 num, .int .i64 bsec, .string text, .slice TA tl.length tc] from by rw [hw3]; exact ((Blk.new w _ _).alloc _).alloc _)
  obtain ⟨rb, hrb⟩ : ∃ rb, rb = w.heap.size + 1 := ⟨_, rfl⟩
  obtain ⟨ob, hob⟩ : ∃ ob, ob = w.heap.size + 2 := ⟨_, rfl⟩
  have KR := Lib.hid (show Blk w3 rb 41 zBit from by rw [hw3, hrb]; exact (Blk.new1 w _ _ _).alloc _)
  have KO := Lib.hid (show Blk w3 ob 41 #[.int .i64 2, .int .i64 0, .int .i64 bsec, .string ⟨#[]⟩, .slice none 0 0] from by
    rw [hw3, hob]
    have h9 := Blk.new1 (w.alloc (.cells #[.int .i64 2, .int .i64 num, .int .i64 bsec, .string text, .slice TA tl.length tc] 41)) (.cells zBit 41) 41 #[.int .i64 2, .int .i64 0, .int .i64 bsec, .string ⟨#[]⟩, .slice none 0 0]
    simpa using h9)
  have hdl := h.lt
  have dB : w.heap.size ∉ [d] := by simp; omega
  have dR : rb ∉ [d] := by simp; omega
  have dO : ob ∉ [d] := by simp; omega
  have od : d ∉ [ob] := by simp; omega
  have op : pb ∉ [ob] := by
    have h9 := World.block_lt_of_cell? _ _ h.sy
    simp only at h9
    simp
    omega
  have or_ : rb ∉ [ob] := by simp; omega
  have rd : d ∉ [rb] := by simp; omega
  have rp : pb ∉ [rb] := by
    have h9 := World.block_lt_of_cell? _ _ h.sy
    simp only at h9
    simp
    omega
  have GO := Lib.hid (show w.heap.size ≤ ob ∧ w.heap.size ≤ rb from by omega)
  have D3 := Lib.hid (h.here b3)
  have B3 := Lib.hid (below_from be b3)
  have SAT := Lib.hid sat
  have F3 := Lib.hid (Fr.of_below (gs := [d]) b3)
  have BF := Lib.hid (fun (W : World) (f : Fr [d] w3 W) => below_fr B3.out f (fun q hq => by rw [List.mem_singleton.1 hq]; exact dz) (below_from be b3).size)
  have HW3 := Lib.hid hw3
  have HRB := Lib.hid hrb
  have HOB := Lib.hid hob
  have hnum : -9223372036854775808 ≤ num ∧ num < 9223372036854775808 := hb.num
  have n0 := hnum.1
  have n1 := hnum.2
  have SZ : (Tryz.prog.info? 41).map (·.size) = some 5 := by kernel_rfl
  obtain ⟨x, hx⟩ : ∃ x, x = (num % 18446744073709551616).toNat := ⟨_, rfl⟩
  rw [← hx] at SAT ⊢
  have hx1 : x < 18446744073709551616 := by omega
  have hxw : IntKind.i64.wrap (x : Int) = num := by rw [IntKind.wrap_i64]; omega
  clear hx
  have e0 := KB.out.cell 0
  have e1 := KB.out.cell 1
  have e2 := KB.out.cell 2
  clear hw3 hrb hob h be h1 h2 hs sat b3 hdl hb hnum
  go_enter Tryz.func104, Tryz.ntmps104
  go_upto_region 2 with fail
  rw [← HW3.out, ← HOB.out, ← HRB.out]
  go_wp2_with fail
  refine (dUint64_any D3.out x hx1 SAT.out).mono ?_
  rintro e4 w4 ⟨rfl, d4, f4⟩
  have KO4 := Lib.hid (KO.out.fr f4 dO)
  have KR4 := Lib.hid (KR.out.fr f4 dR)
  have KB4 := Lib.hid (KB.out.fr f4 dB)
  have D4 := Lib.hid d4
  have F4 := Lib.hid (F3.out.trans1 f4)
  have o1 := KO4.out.cell 1
  have p1 := KO4.out.frozen 1
  clear d4 f4 e0 e1 e2
  go_upto_region 31 with fail
  obtain ⟨w5, hw5⟩ : ∃ w5, w5 = w4.setCell ⟨ob, 1, none⟩ (.int .i64 num) := ⟨_, rfl⟩
  rw [← hw5]
  have f5 : Fr [ob] w4 w5 := by rw [hw5]; exact (Fr.refl [ob] w4).setCell (.inl (by simp)) _
  have KO5 : Blk w5 ob 41 #[.int .i64 2, .int .i64 num, .int .i64 bsec, .string ⟨#[]⟩, .slice none 0 0] := by rw [hw5]; exact KO4.out.set_ 1 (.int .i64 num)
  have KR5 := KR4.out.fr f5 or_
  have D5 := D4.out.far f5 od op
  have F5 : Fr [d] w w5 := by rw [hw5]; exact F4.out.setCell (.inr GO.out.1) _
  have K5 := Lib.hid KO5
  have R5 := Lib.hid KR5
  have DD5 := Lib.hid D5
  have FF5 := Lib.hid F5
  clear f5 KO5 KR5 D5 F5 hw5 o1 p1
  go_wp2_with (first | (refine wpList_load_row rfl 41 (.tmp 5) (by rfl) ob (by rfl) 41 _ (0, 0) _ K5.out Tryz.underlying41 rfl SZ ?_) | (refine wpList_store_row rfl 41 (.tmp 4) (.tmp 90) (by rfl) rb #[.int .i64 2, .int .i64 num, .int .i64 bsec, .string ⟨#[]⟩, .slice none 0 0] (by rfl) (by rfl) 41 _ R5.out SZ rfl (by simp [Value.oneCell']) ?_))
  refine bodyPost_ret (v := .agg #[.int .i64 2, .int .i64 num, .int .i64 bsec, .string ⟨#[]⟩, .slice none 0 0]) (results_cell_row rfl _ _ rb 41 _ (0, 0) _ rfl (setRow_heap _ _ _ _ _ _ R5.out) Tryz.underlying41 rfl SZ) rfl ?_
  have F6 : Fr [rb] w5 (w5.setRow rb #[.int .i64 2, .int .i64 num, .int .i64 bsec, .string ⟨#[]⟩, .slice none 0 0]) := fr_setRow (Fr.refl _ _) (.inl (by simp)) _
  exact ⟨_, rfl, ⟨none, 0, by rfl, fun hh => absurd hh (by simp [dueL]), fun a ha => by cases ha⟩, DD5.out.far F6 rd rp, FF5.out.trans F6 (fun q hq => .inr (by rw [List.mem_singleton.1 hq]; exact GO.out.2))⟩
set_option maxRecDepth 100000 in
set_option maxHeartbeats 2000000 in
theorem read_3 {w0 : World} {pb v : Nat} {s : Bool} {path : ByteArray} {p : Pk} {fp : List UInt8} {sc : Value} {A : Option Addr} {rs : List (Int × Int)} (_ : Dbs w0 pb v s path p fp sc A rs) {d : Nat} {R : Nat → Option Value} {t : ByteArray} {i : Nat} {w : World} (h : Dst pb s d R t i w) (be : Below w0.heap.size w0 w) (dz : w0.heap.size ≤ d) (c : Nat) (_ : R 1 = some (.slice A rs.length c)) (b : Bt) (hb : b.Ok) (hk : b.kind = 3) (e : Es) (h1 : (e.bit s b).rs <+: rs) (h2 : (e.bit s b).ss <+: p 0) (hs : Sat t i (bitD s b e)) :
    Calls Tryz.prog 104 #[.pointer (some ⟨d, 0, none⟩), .agg b.arr2] w (ReadOut pb s d R t (i + (bitD s b e).length) b w) := by
  obtain ⟨kind, num, bsec, text, ⟨TA, tc, tl⟩⟩ := b
  obtain rfl : kind = 3 := hk
  have sat : Sat t i (eU s (num % 18446744073709551616).toNat) := hs
  show Calls Tryz.prog 104 #[.pointer (some ⟨d, 0, none⟩), .agg #[.int .i64 3, .int .i64 num, .int .i64 bsec, .string text, .slice TA tl.length tc]] w (ReadOut pb s d R t (i + (eU s (num % 18446744073709551616).toNat).length) ⟨3, num, bsec, text, ⟨TA, tc, tl⟩⟩ w)
  obtain ⟨w3, hw3⟩ : ∃ w3, w3 = ((w.alloc (.cells #[.int .i64 3, .int .i64 num, .int .i64 bsec, .string text, .slice TA tl.length tc] 41)).alloc (.cells zBit 41)).alloc (.cells #[.int .i64 3, .int .i64 0, .int .i64 bsec, .string ⟨#[]⟩, .slice none 0 0] 41) := ⟨_, rfl⟩
  have b3 : Below w.heap.size w w3 := by rw [hw3]; exact Below.alloc (Below.alloc (Below.alloc (Below.refl _ _) (Nat.le_refl _) _) (by simp) _) (by simp; omega) _
  have KB := Lib.hid (show Blk w3 w.heap.size 41 #[.int .i64 3, .int .i64 num, .int .i64 bsec, .string text, .slice TA tl.length tc] from by rw [hw3]; exact ((Blk.new w _ _).alloc _).alloc _)
  obtain ⟨rb, hrb⟩ : ∃ rb, rb = w.heap.size + 1 := ⟨_, rfl⟩
  obtain ⟨ob, hob⟩ : ∃ ob, ob = w.heap.size + 2 := ⟨_, rfl⟩
  have KR := Lib.hid (show Blk w3 rb 41 zBit from by rw [hw3, hrb]; exact (Blk.new1 w _ _ _).alloc _)
  have KO := Lib.hid (show Blk w3 ob 41 #[.int .i64 3, .int .i64 0, .int .i64 bsec, .string ⟨#[]⟩, .slice none 0 0] from by
    rw [hw3, hob]
    have h9 := Blk.new1 (w.alloc (.cells #[.int .i64 3, .int .i64 num, .int .i64 bsec, .string text, .slice TA tl.length tc] 41)) (.cells zBit 41) 41 #[.int .i64 3, .int .i64 0, .int .i64 bsec, .string ⟨#[]⟩, .slice none 0 0]
    simpa using h9)
  have hdl := h.lt
  have dB : w.heap.size ∉ [d] := by simp; omega
  have dR : rb ∉ [d] := by simp; omega
  have dO : ob ∉ [d] := by simp; omega
  have od : d ∉ [ob] := by simp; omega
  have op : pb ∉ [ob] := by
    have h9 := World.block_lt_of_cell? _ _ h.sy
    simp only at h9
    simp
    omega
  have or_ : rb ∉ [ob] := by simp; omega
  have rd : d ∉ [rb] := by simp; omega
  have rp : pb ∉ [rb] := by
    have h9 := World.block_lt_of_cell? _ _ h.sy
    simp only at h9
    simp
    omega
  have GO := Lib.hid (show w.heap.size ≤ ob ∧ w.heap.size ≤ rb from by omega)
  have D3 := Lib.hid (h.here b3)
  have B3 := Lib.hid (below_from be b3)
  have SAT := Lib.hid sat
  have F3 := Lib.hid (Fr.of_below (gs := [d]) b3)
  have BF := Lib.hid (fun (W : World) (f : Fr [d] w3 W) => below_fr B3.out f (fun q hq => by rw [List.mem_singleton.1 hq]; exact dz) (below_from be b3).size)
  have HW3 := Lib.hid hw3
  have HRB := Lib.hid hrb
  have HOB := Lib.hid hob
  have hnum : -9223372036854775808 ≤ num ∧ num < 9223372036854775808 := hb.num
  have n0 := hnum.1
  have n1 := hnum.2
  have SZ : (Tryz.prog.info? 41).map (·.size) = some 5 := by kernel_rfl
  have hn3 := hb.len rfl
  obtain ⟨x, rfl⟩ : ∃ x : Nat, num = x := ⟨num.toNat, by simp only at hn3; omega⟩
  rw [show ((x : Int) % 18446744073709551616).toNat = x from by omega] at SAT ⊢
  have hx1 : x < 9223372036854775808 := by omega
  clear hn3 n0 n1 hnum
  have e0 := KB.out.cell 0
  have e1 := KB.out.cell 1
  have e2 := KB.out.cell 2
  clear hw3 hrb hob h be h1 h2 hs sat b3 hdl hb
  go_enter Tryz.func104, Tryz.ntmps104
  go_upto_region 2 with fail
  rw [← HW3.out, ← HOB.out, ← HRB.out]
  go_wp2_with fail
  refine (dLen_any D3.out x hx1 SAT.out).mono ?_
  rintro e4 w4 ⟨rfl, d4, f4⟩
  have KO4 := Lib.hid (KO.out.fr f4 dO)
  have KR4 := Lib.hid (KR.out.fr f4 dR)
  have KB4 := Lib.hid (KB.out.fr f4 dB)
  have D4 := Lib.hid d4
  have F4 := Lib.hid (F3.out.trans1 f4)
  have o1 := KO4.out.cell 1
  have p1 := KO4.out.frozen 1
  clear d4 f4 e0 e1 e2
  go_upto_region 31 with fail
  obtain ⟨w5, hw5⟩ : ∃ w5, w5 = w4.setCell ⟨ob, 1, none⟩ (.int .i64 (x : Int)) := ⟨_, rfl⟩
  rw [← hw5]
  have f5 : Fr [ob] w4 w5 := by rw [hw5]; exact (Fr.refl [ob] w4).setCell (.inl (by simp)) _
  have KO5 : Blk w5 ob 41 #[.int .i64 3, .int .i64 (x : Int), .int .i64 bsec, .string ⟨#[]⟩, .slice none 0 0] := by rw [hw5]; exact KO4.out.set_ 1 (.int .i64 (x : Int))
  have KR5 := KR4.out.fr f5 or_
  have D5 := D4.out.far f5 od op
  have F5 : Fr [d] w w5 := by rw [hw5]; exact F4.out.setCell (.inr GO.out.1) _
  have K5 := Lib.hid KO5
  have R5 := Lib.hid KR5
  have DD5 := Lib.hid D5
  have FF5 := Lib.hid F5
  clear f5 KO5 KR5 D5 F5 hw5 o1 p1
  go_wp2_with (first | (refine wpList_load_row rfl 41 (.tmp 5) (by rfl) ob (by rfl) 41 _ (0, 0) _ K5.out Tryz.underlying41 rfl SZ ?_) | (refine wpList_store_row rfl 41 (.tmp 4) (.tmp 90) (by rfl) rb #[.int .i64 3, .int .i64 (x : Int), .int .i64 bsec, .string ⟨#[]⟩, .slice none 0 0] (by rfl) (by rfl) 41 _ R5.out SZ rfl (by simp [Value.oneCell']) ?_))
  refine bodyPost_ret (v := .agg #[.int .i64 3, .int .i64 (x : Int), .int .i64 bsec, .string ⟨#[]⟩, .slice none 0 0]) (results_cell_row rfl _ _ rb 41 _ (0, 0) _ rfl (setRow_heap _ _ _ _ _ _ R5.out) Tryz.underlying41 rfl SZ) rfl ?_
  have F6 : Fr [rb] w5 (w5.setRow rb #[.int .i64 3, .int .i64 (x : Int), .int .i64 bsec, .string ⟨#[]⟩, .slice none 0 0]) := fr_setRow (Fr.refl _ _) (.inl (by simp)) _
  exact ⟨_, rfl, ⟨none, 0, by rfl, fun hh => absurd hh (by simp [dueL]), fun a ha => by cases ha⟩, DD5.out.far F6 rd rp, FF5.out.trans F6 (fun q hq => .inr (by rw [List.mem_singleton.1 hq]; exact GO.out.2))⟩
set_option maxRecDepth 100000 in
set_option maxHeartbeats 2000000 in
theorem read_4 {w0 : World} {pb v : Nat} {s : Bool} {path : ByteArray} {p : Pk} {fp : List UInt8} {sc : Value} {A : Option Addr} {rs : List (Int × Int)} (_ : Dbs w0 pb v s path p fp sc A rs) {d : Nat} {R : Nat → Option Value} {t : ByteArray} {i : Nat} {w : World} (h : Dst pb s d R t i w) (be : Below w0.heap.size w0 w) (dz : w0.heap.size ≤ d) (c : Nat) (_ : R 1 = some (.slice A rs.length c)) (b : Bt) (hb : b.Ok) (hk : b.kind = 4) (e : Es) (h1 : (e.bit s b).rs <+: rs) (h2 : (e.bit s b).ss <+: p 0) (hs : Sat t i (bitD s b e)) :
    Calls Tryz.prog 104 #[.pointer (some ⟨d, 0, none⟩), .agg b.arr2] w (ReadOut pb s d R t (i + (bitD s b e).length) b w) := by
  obtain ⟨kind, num, bsec, text, ⟨TA, tc, tl⟩⟩ := b
  obtain rfl : kind = 4 := hk
  have sat : Sat t i (eI s num) := hs
  show Calls Tryz.prog 104 #[.pointer (some ⟨d, 0, none⟩), .agg #[.int .i64 4, .int .i64 num, .int .i64 bsec, .string text, .slice TA tl.length tc]] w (ReadOut pb s d R t (i + (eI s num).length) ⟨4, num, bsec, text, ⟨TA, tc, tl⟩⟩ w)
  obtain ⟨w3, hw3⟩ : ∃ w3, w3 = ((w.alloc (.cells #[.int .i64 4, .int .i64 num, .int .i64 bsec, .string text, .slice TA tl.length tc] 41)).alloc (.cells zBit 41)).alloc (.cells #[.int .i64 4, .int .i64 0, .int .i64 bsec, .string ⟨#[]⟩, .slice none 0 0] 41) := ⟨_, rfl⟩
  have b3 : Below w.heap.size w w3 := by rw [hw3]; exact Below.alloc (Below.alloc (Below.alloc (Below.refl _ _) (Nat.le_refl _) _) (by simp) _) (by simp; omega) _
  have KB := Lib.hid (show Blk w3 w.heap.size 41 #[.int .i64 4, .int .i64 num, .int .i64 bsec, .string text, .slice TA tl.length tc] from by rw [hw3]; exact ((Blk.new w _ _).alloc _).alloc _)
  obtain ⟨rb, hrb⟩ : ∃ rb, rb = w.heap.size + 1 := ⟨_, rfl⟩
  obtain ⟨ob, hob⟩ : ∃ ob, ob = w.heap.size + 2 := ⟨_, rfl⟩
  have KR := Lib.hid (show Blk w3 rb 41 zBit from by rw [hw3, hrb]; exact (Blk.new1 w _ _ _).alloc _)
  have KO := Lib.hid (show Blk w3 ob 41 #[.int .i64 4, .int .i64 0, .int .i64 bsec, .string ⟨#[]⟩, .slice none 0 0] from by
    rw [hw3, hob]
    have h9 := Blk.new1 (w.alloc (.cells #[.int .i64 4, .int .i64 num, .int .i64 bsec, .string text, .slice TA tl.length tc] 41)) (.cells zBit 41) 41 #[.int .i64 4, .int .i64 0, .int .i64 bsec, .string ⟨#[]⟩, .slice none 0 0]
    simpa using h9)
  have hdl := h.lt
  have dB : w.heap.size ∉ [d] := by simp; omega
  have dR : rb ∉ [d] := by simp; omega
  have dO : ob ∉ [d] := by simp; omega
  have od : d ∉ [ob] := by simp; omega
  have op : pb ∉ [ob] := by
    have h9 := World.block_lt_of_cell? _ _ h.sy
    simp only at h9
    simp
    omega
  have or_ : rb ∉ [ob] := by simp; omega
  have rd : d ∉ [rb] := by simp; omega
  have rp : pb ∉ [rb] := by
    have h9 := World.block_lt_of_cell? _ _ h.sy
    simp only at h9
    simp
    omega
  have GO := Lib.hid (show w.heap.size ≤ ob ∧ w.heap.size ≤ rb from by omega)
  have D3 := Lib.hid (h.here b3)
  have B3 := Lib.hid (below_from be b3)
  have SAT := Lib.hid sat
  have F3 := Lib.hid (Fr.of_below (gs := [d]) b3)
  have BF := Lib.hid (fun (W : World) (f : Fr [d] w3 W) => below_fr B3.out f (fun q hq => by rw [List.mem_singleton.1 hq]; exact dz) (below_from be b3).size)
  have HW3 := Lib.hid hw3
  have HRB := Lib.hid hrb
  have HOB := Lib.hid hob
  have hnum : -9223372036854775808 ≤ num ∧ num < 9223372036854775808 := hb.num
  have n0 := hnum.1
  have n1 := hnum.2
  have SZ : (Tryz.prog.info? 41).map (·.size) = some 5 := by kernel_rfl
  have e0 := KB.out.cell 0
  have e1 := KB.out.cell 1
  have e2 := KB.out.cell 2
  clear hw3 hrb hob h be h1 h2 hs sat b3 hdl hb hnum
  go_enter Tryz.func104, Tryz.ntmps104
  go_upto_region 2 with fail
  rw [← HW3.out, ← HOB.out, ← HRB.out]
  go_wp2_with fail
  refine (dInt_any D3.out num n0 n1 SAT.out).mono ?_
  rintro e4 w4 ⟨rfl, d4, f4⟩
  have KO4 := Lib.hid (KO.out.fr f4 dO)
  have KR4 := Lib.hid (KR.out.fr f4 dR)
  have KB4 := Lib.hid (KB.out.fr f4 dB)
  have D4 := Lib.hid d4
  have F4 := Lib.hid (F3.out.trans1 f4)
  have o1 := KO4.out.cell 1
  have p1 := KO4.out.frozen 1
  clear d4 f4 e0 e1 e2
  go_upto_region 31 with fail
  obtain ⟨w5, hw5⟩ : ∃ w5, w5 = w4.setCell ⟨ob, 1, none⟩ (.int .i64 num) := ⟨_, rfl⟩
  rw [← hw5]
  have f5 : Fr [ob] w4 w5 := by rw [hw5]; exact (Fr.refl [ob] w4).setCell (.inl (by simp)) _
  have KO5 : Blk w5 ob 41 #[.int .i64 4, .int .i64 num, .int .i64 bsec, .string ⟨#[]⟩, .slice none 0 0] := by rw [hw5]; exact KO4.out.set_ 1 (.int .i64 num)
  have KR5 := KR4.out.fr f5 or_
  have D5 := D4.out.far f5 od op
  have F5 : Fr [d] w w5 := by rw [hw5]; exact F4.out.setCell (.inr GO.out.1) _
  have K5 := Lib.hid KO5
  have R5 := Lib.hid KR5
  have DD5 := Lib.hid D5
  have FF5 := Lib.hid F5
  clear f5 KO5 KR5 D5 F5 hw5 o1 p1
  go_wp2_with (first | (refine wpList_load_row rfl 41 (.tmp 5) (by rfl) ob (by rfl) 41 _ (0, 0) _ K5.out Tryz.underlying41 rfl SZ ?_) | (refine wpList_store_row rfl 41 (.tmp 4) (.tmp 90) (by rfl) rb #[.int .i64 4, .int .i64 num, .int .i64 bsec, .string ⟨#[]⟩, .slice none 0 0] (by rfl) (by rfl) 41 _ R5.out SZ rfl (by simp [Value.oneCell']) ?_))
  refine bodyPost_ret (v := .agg #[.int .i64 4, .int .i64 num, .int .i64 bsec, .string ⟨#[]⟩, .slice none 0 0]) (results_cell_row rfl _ _ rb 41 _ (0, 0) _ rfl (setRow_heap _ _ _ _ _ _ R5.out) Tryz.underlying41 rfl SZ) rfl ?_
  have F6 : Fr [rb] w5 (w5.setRow rb #[.int .i64 4, .int .i64 num, .int .i64 bsec, .string ⟨#[]⟩, .slice none 0 0]) := fr_setRow (Fr.refl _ _) (.inl (by simp)) _
  exact ⟨_, rfl, ⟨none, 0, by rfl, fun hh => absurd hh (by simp [dueL]), fun a ha => by cases ha⟩, DD5.out.far F6 rd rp, FF5.out.trans F6 (fun q hq => .inr (by rw [List.mem_singleton.1 hq]; exact GO.out.2))⟩
set_option maxRecDepth 100000 in
set_option maxHeartbeats 2000000 in
theorem read_5 {w0 : World} {pb v : Nat} {s : Bool} {path : ByteArray} {p : Pk} {fp : List UInt8} {sc : Value} {A : Option Addr} {rs : List (Int × Int)} (_ : Dbs w0 pb v s path p fp sc A rs) {d : Nat} {R : Nat → Option Value} {t : ByteArray} {i : Nat} {w : World} (h : Dst pb s d R t i w) (be : Below w0.heap.size w0 w) (dz : w0.heap.size ≤ d) (c : Nat) (_ : R 1 = some (.slice A rs.length c)) (b : Bt) (hb : b.Ok) (hk : b.kind = 5) (e : Es) (h1 : (e.bit s b).rs <+: rs) (h2 : (e.bit s b).ss <+: p 0) (hs : Sat t i (bitD s b e)) :
    Calls Tryz.prog 104 #[.pointer (some ⟨d, 0, none⟩), .agg b.arr2] w (ReadOut pb s d R t (i + (bitD s b e).length) b w) := by
  obtain ⟨kind, num, bsec, text, ⟨TA, tc, tl⟩⟩ := b
  obtain rfl : kind = 5 := hk
  have sat : Sat t i (eU s (num % 18446744073709551616).toNat) := hs
  show Calls Tryz.prog 104 #[.pointer (some ⟨d, 0, none⟩), .agg #[.int .i64 5, .int .i64 num, .int .i64 bsec, .string text, .slice TA tl.length tc]] w (ReadOut pb s d R t (i + (eU s (num % 18446744073709551616).toNat).length) ⟨5, num, bsec, text, ⟨TA, tc, tl⟩⟩ w)
  obtain ⟨w3, hw3⟩ : ∃ w3, w3 = ((w.alloc (.cells #[.int .i64 5, .int .i64 num, .int .i64 bsec, .string text, .slice TA tl.length tc] 41)).alloc (.cells zBit 41)).alloc (.cells #[.int .i64 5, .int .i64 0, .int .i64 bsec, .string ⟨#[]⟩, .slice none 0 0] 41) := ⟨_, rfl⟩
  have b3 : Below w.heap.size w w3 := by rw [hw3]; exact Below.alloc (Below.alloc (Below.alloc (Below.refl _ _) (Nat.le_refl _) _) (by simp) _) (by simp; omega) _
  have KB := Lib.hid (show Blk w3 w.heap.size 41 #[.int .i64 5, .int .i64 num, .int .i64 bsec, .string text, .slice TA tl.length tc] from by rw [hw3]; exact ((Blk.new w _ _).alloc _).alloc _)
  obtain ⟨rb, hrb⟩ : ∃ rb, rb = w.heap.size + 1 := ⟨_, rfl⟩
  obtain ⟨ob, hob⟩ : ∃ ob, ob = w.heap.size + 2 := ⟨_, rfl⟩
  have KR := Lib.hid (show Blk w3 rb 41 zBit from by rw [hw3, hrb]; exact (Blk.new1 w _ _ _).alloc _)
  have KO := Lib.hid (show Blk w3 ob 41 #[.int .i64 5, .int .i64 0, .int .i64 bsec, .string ⟨#[]⟩, .slice none 0 0] from by
    rw [hw3, hob]
    have h9 := Blk.new1 (w.alloc (.cells #[.int .i64 5, .int .i64 num, .int .i64 bsec, .string text, .slice TA tl.length tc] 41)) (.cells zBit 41) 41 #[.int .i64 5, .int .i64 0, .int .i64 bsec, .string ⟨#[]⟩, .slice none 0 0]
    simpa using h9)
  have hdl := h.lt
  have dB : w.heap.size ∉ [d] := by simp; omega
  have dR : rb ∉ [d] := by simp; omega
  have dO : ob ∉ [d] := by simp; omega
  have od : d ∉ [ob] := by simp; omega
  have op : pb ∉ [ob] := by
    have h9 := World.block_lt_of_cell? _ _ h.sy
    simp only at h9
    simp
    omega
  have or_ : rb ∉ [ob] := by simp; omega
  have rd : d ∉ [rb] := by simp; omega
  have rp : pb ∉ [rb] := by
    have h9 := World.block_lt_of_cell? _ _ h.sy
    simp only at h9
    simp
    omega
  have GO := Lib.hid (show w.heap.size ≤ ob ∧ w.heap.size ≤ rb from by omega)
  have D3 := Lib.hid (h.here b3)
  have B3 := Lib.hid (below_from be b3)
  have SAT := Lib.hid sat
  have F3 := Lib.hid (Fr.of_below (gs := [d]) b3)
  have BF := Lib.hid (fun (W : World) (f : Fr [d] w3 W) => below_fr B3.out f (fun q hq => by rw [List.mem_singleton.1 hq]; exact dz) (below_from be b3).size)
  have HW3 := Lib.hid hw3
  have HRB := Lib.hid hrb
  have HOB := Lib.hid hob
  have hnum : -9223372036854775808 ≤ num ∧ num < 9223372036854775808 := hb.num
  have n0 := hnum.1
  have n1 := hnum.2
  have SZ : (Tryz.prog.info? 41).map (·.size) = some 5 := by kernel_rfl
  obtain ⟨x, hx⟩ : ∃ x, x = (num % 18446744073709551616).toNat := ⟨_, rfl⟩
  rw [← hx] at SAT ⊢
  have hx1 : x < 18446744073709551616 := by omega
  have hxw : IntKind.i64.wrap (x : Int) = num := by rw [IntKind.wrap_i64]; omega
  clear hx
  have e0 := KB.out.cell 0
  have e1 := KB.out.cell 1
  have e2 := KB.out.cell 2
  clear hw3 hrb hob h be h1 h2 hs sat b3 hdl hb hnum
  go_enter Tryz.func104, Tryz.ntmps104
  go_upto_region 2 with fail
  rw [← HW3.out, ← HOB.out, ← HRB.out]
  go_wp2_with fail
  refine (dUint_any D3.out x hx1 SAT.out).mono ?_
  rintro e4 w4 ⟨rfl, d4, f4⟩
  have KO4 := Lib.hid (KO.out.fr f4 dO)
  have KR4 := Lib.hid (KR.out.fr f4 dR)
  have KB4 := Lib.hid (KB.out.fr f4 dB)
  have D4 := Lib.hid d4
  have F4 := Lib.hid (F3.out.trans1 f4)
  have o1 := KO4.out.cell 1
  have p1 := KO4.out.frozen 1
  clear d4 f4 e0 e1 e2
  go_upto_region 31 with fail
  obtain ⟨w5, hw5⟩ : ∃ w5, w5 = w4.setCell ⟨ob, 1, none⟩ (.int .i64 num) := ⟨_, rfl⟩
  rw [← hw5]
  have f5 : Fr [ob] w4 w5 := by rw [hw5]; exact (Fr.refl [ob] w4).setCell (.inl (by simp)) _
  have KO5 : Blk w5 ob 41 #[.int .i64 5, .int .i64 num, .int .i64 bsec, .string ⟨#[]⟩, .slice none 0 0] := by rw [hw5]; exact KO4.out.set_ 1 (.int .i64 num)
  have KR5 := KR4.out.fr f5 or_
  have D5 := D4.out.far f5 od op
  have F5 : Fr [d] w w5 := by rw [hw5]; exact F4.out.setCell (.inr GO.out.1) _
  have K5 := Lib.hid KO5
  have R5 := Lib.hid KR5
  have DD5 := Lib.hid D5
  have FF5 := Lib.hid F5
  clear f5 KO5 KR5 D5 F5 hw5 o1 p1
  go_wp2_with (first | (refine wpList_load_row rfl 41 (.tmp 5) (by rfl) ob (by rfl) 41 _ (0, 0) _ K5.out Tryz.underlying41 rfl SZ ?_) | (refine wpList_store_row rfl 41 (.tmp 4) (.tmp 90) (by rfl) rb #[.int .i64 5, .int .i64 num, .int .i64 bsec, .string ⟨#[]⟩, .slice none 0 0] (by rfl) (by rfl) 41 _ R5.out SZ rfl (by simp [Value.oneCell']) ?_))
  refine bodyPost_ret (v := .agg #[.int .i64 5, .int .i64 num, .int .i64 bsec, .string ⟨#[]⟩, .slice none 0 0]) (results_cell_row rfl _ _ rb 41 _ (0, 0) _ rfl (setRow_heap _ _ _ _ _ _ R5.out) Tryz.underlying41 rfl SZ) rfl ?_
  have F6 : Fr [rb] w5 (w5.setRow rb #[.int .i64 5, .int .i64 num, .int .i64 bsec, .string ⟨#[]⟩, .slice none 0 0]) := fr_setRow (Fr.refl _ _) (.inl (by simp)) _
  exact ⟨_, rfl, ⟨none, 0, by rfl, fun hh => absurd hh (by simp [dueL]), fun a ha => by cases ha⟩, DD5.out.far F6 rd rp, FF5.out.trans F6 (fun q hq => .inr (by rw [List.mem_singleton.1 hq]; exact GO.out.2))⟩
set_option maxRecDepth 100000 in
set_option maxHeartbeats 2000000 in
theorem read_6 {w0 : World} {pb v : Nat} {s : Bool} {path : ByteArray} {p : Pk} {fp : List UInt8} {sc : Value} {A : Option Addr} {rs : List (Int × Int)} (B : Dbs w0 pb v s path p fp sc A rs) {d : Nat} {R : Nat → Option Value} {t : ByteArray} {i : Nat} {w : World} (h : Dst pb s d R t i w) (be : Below w0.heap.size w0 w) (dz : w0.heap.size ≤ d) (c : Nat) (hR : R 1 = some (.slice A rs.length c)) (b : Bt) (hb : b.Ok) (hk : b.kind = 6) (e : Es) (h1 : (e.bit s b).rs <+: rs) (h2 : (e.bit s b).ss <+: p 0) (hs : Sat t i (bitD s b e)) :
    Calls Tryz.prog 104 #[.pointer (some ⟨d, 0, none⟩), .agg b.arr2] w (ReadOut pb s d R t (i + (bitD s b e).length) b w) := by
  obtain ⟨kind, num, bsec, text, ⟨TA, tc, tl⟩⟩ := b
  obtain rfl : kind = 6 := hk
  have sat : Sat t i (strD s text e) := hs
  show Calls Tryz.prog 104 #[.pointer (some ⟨d, 0, none⟩), .agg #[.int .i64 6, .int .i64 num, .int .i64 bsec, .string text, .slice TA tl.length tc]] w (ReadOut pb s d R t (i + (strD s text e).length) ⟨6, num, bsec, text, ⟨TA, tc, tl⟩⟩ w)
  obtain ⟨w3, hw3⟩ : ∃ w3, w3 = ((w.alloc (.cells #[.int .i64 6, .int .i64 num, .int .i64 bsec, .string text, .slice TA tl.length tc] 41)).alloc (.cells zBit 41)).alloc (.cells #[.int .i64 6, .int .i64 0, .int .i64 bsec, .string ⟨#[]⟩, .slice none 0 0] 41) := ⟨_, rfl⟩
  have b3 : Below w.heap.size w w3 := by rw [hw3]; exact Below.alloc (Below.alloc (Below.alloc (Below.refl _ _) (Nat.le_refl _) _) (by simp) _) (by simp; omega) _
  have KB := Lib.hid (show Blk w3 w.heap.size 41 #[.int .i64 6, .int .i64 num, .int .i64 bsec, .string text, .slice TA tl.length tc] from by rw [hw3]; exact ((Blk.new w _ _).alloc _).alloc _)
  obtain ⟨rb, hrb⟩ : ∃ rb, rb = w.heap.size + 1 := ⟨_, rfl⟩
  obtain ⟨ob, hob⟩ : ∃ ob, ob = w.heap.size + 2 := ⟨_, rfl⟩
  have KR := Lib.hid (show Blk w3 rb 41 zBit from by rw [hw3, hrb]; exact (Blk.new1 w _ _ _).alloc _)
  have KO := Lib.hid (show Blk w3 ob 41 #[.int .i64 6, .int .i64 0, .int .i64 bsec, .string ⟨#[]⟩, .slice none 0 0] from by
    rw [hw3, hob]
    have h9 := Blk.new1 (w.alloc (.cells #[.int .i64 6, .int .i64 num, .int .i64 bsec, .string text, .slice TA tl.length tc] 41)) (.cells zBit 41) 41 #[.int .i64 6, .int .i64 0, .int .i64 bsec, .string ⟨#[]⟩, .slice none 0 0]
    simpa using h9)
  have hdl := h.lt
  have dB : w.heap.size ∉ [d] := by simp; omega
  have dR : rb ∉ [d] := by simp; omega
  have dO : ob ∉ [d] := by simp; omega
  have od : d ∉ [ob] := by simp; omega
  have op : pb ∉ [ob] := by
    have h9 := World.block_lt_of_cell? _ _ h.sy
    simp only at h9
    simp
    omega
  have or_ : rb ∉ [ob] := by simp; omega
  have rd : d ∉ [rb] := by simp; omega
  have rp : pb ∉ [rb] := by
    have h9 := World.block_lt_of_cell? _ _ h.sy
    simp only at h9
    simp
    omega
  have GO := Lib.hid (show w.heap.size ≤ ob ∧ w.heap.size ≤ rb from by omega)
  have D3 := Lib.hid (h.here b3)
  have B3 := Lib.hid (below_from be b3)
  have SAT := Lib.hid sat
  have F3 := Lib.hid (Fr.of_below (gs := [d]) b3)
  have BF := Lib.hid (fun (W : World) (f : Fr [d] w3 W) => below_fr B3.out f (fun q hq => by rw [List.mem_singleton.1 hq]; exact dz) (below_from be b3).size)
  have HW3 := Lib.hid hw3
  have HRB := Lib.hid hrb
  have HOB := Lib.hid hob
  have hnum : -9223372036854775808 ≤ num ∧ num < 9223372036854775808 := hb.num
  have n0 := hnum.1
  have n1 := hnum.2
  have SZ : (Tryz.prog.info? 41).map (·.size) = some 5 := by kernel_rfl
  obtain ⟨a1, a2⟩ := str_at (show (e.str s text).rs <+: rs from h1) (show (e.str s text).ss <+: p 0 from h2)
  have CC := Lib.hid (dString_any B D3.out B3.out dz c hR _ _ text a1 a2 SAT.out)
  clear a1 a2
  have e0 := KB.out.cell 0
  have e1 := KB.out.cell 1
  have e2 := KB.out.cell 2
  clear hw3 hrb hob h be B hR h1 h2 hs sat b3 hdl hb hnum
  go_enter Tryz.func104, Tryz.ntmps104
  go_upto_region 2 with fail
  rw [← HW3.out, ← HOB.out, ← HRB.out]
  go_wp2_with fail
  refine (CC.out).mono ?_
  rintro e4 w4 ⟨rfl, d4, f4⟩
  have KO4 := Lib.hid (KO.out.fr f4 dO)
  have KR4 := Lib.hid (KR.out.fr f4 dR)
  have KB4 := Lib.hid (KB.out.fr f4 dB)
  have D4 := Lib.hid d4
  have F4 := Lib.hid (F3.out.trans1 f4)
  have o1 := KO4.out.cell 3
  have p1 := KO4.out.frozen 3
  clear d4 f4 e0 e1 e2
  go_upto_region 31 with fail
  obtain ⟨w5, hw5⟩ : ∃ w5, w5 = w4.setCell ⟨ob, 3, none⟩ (.string text) := ⟨_, rfl⟩
  rw [← hw5]
  have f5 : Fr [ob] w4 w5 := by rw [hw5]; exact (Fr.refl [ob] w4).setCell (.inl (by simp)) _
  have KO5 : Blk w5 ob 41 #[.int .i64 6, .int .i64 0, .int .i64 bsec, .string text, .slice none 0 0] := by rw [hw5]; exact KO4.out.set_ 3 (.string text)
  have KR5 := KR4.out.fr f5 or_
  have D5 := D4.out.far f5 od op
  have F5 : Fr [d] w w5 := by rw [hw5]; exact F4.out.setCell (.inr GO.out.1) _
  have K5 := Lib.hid KO5
  have R5 := Lib.hid KR5
  have DD5 := Lib.hid D5
  have FF5 := Lib.hid F5
  clear f5 KO5 KR5 D5 F5 hw5 o1 p1
  go_wp2_with (first | (refine wpList_load_row rfl 41 (.tmp 5) (by rfl) ob (by rfl) 41 _ (0, 0) _ K5.out Tryz.underlying41 rfl SZ ?_) | (refine wpList_store_row rfl 41 (.tmp 4) (.tmp 90) (by rfl) rb #[.int .i64 6, .int .i64 0, .int .i64 bsec, .string text, .slice none 0 0] (by rfl) (by rfl) 41 _ R5.out SZ rfl (by simp [Value.oneCell']) ?_))
  refine bodyPost_ret (v := .agg #[.int .i64 6, .int .i64 0, .int .i64 bsec, .string text, .slice none 0 0]) (results_cell_row rfl _ _ rb 41 _ (0, 0) _ rfl (setRow_heap _ _ _ _ _ _ R5.out) Tryz.underlying41 rfl SZ) rfl ?_
  have F6 : Fr [rb] w5 (w5.setRow rb #[.int .i64 6, .int .i64 0, .int .i64 bsec, .string text, .slice none 0 0]) := fr_setRow (Fr.refl _ _) (.inl (by simp)) _
  exact ⟨_, rfl, ⟨none, 0, by rfl, fun hh => absurd hh (by simp [dueL]), fun a ha => by cases ha⟩, DD5.out.far F6 rd rp, FF5.out.trans F6 (fun q hq => .inr (by rw [List.mem_singleton.1 hq]; exact GO.out.2))⟩
set_option maxRecDepth 100000 in
set_option maxHeartbeats 2000000 in
theorem read_7 {w0 : World} {pb v : Nat} {s : Bool} {path : ByteArray} {p : Pk} {fp : List UInt8} {sc : Value} {A : Option Addr} {rs : List (Int × Int)} (B : Dbs w0 pb v s path p fp sc A rs) {d : Nat} {R : Nat → Option Value} {t : ByteArray} {i : Nat} {w : World} (h : Dst pb s d R t i w) (be : Below w0.heap.size w0 w) (dz : w0.heap.size ≤ d) (c : Nat) (hR : R 1 = some (.slice A rs.length c)) (b : Bt) (hb : b.Ok) (hk : b.kind = 7) (e : Es) (h1 : (e.bit s b).rs <+: rs) (h2 : (e.bit s b).ss <+: p 0) (hs : Sat t i (bitD s b e)) :
    Calls Tryz.prog 104 #[.pointer (some ⟨d, 0, none⟩), .agg b.arr2] w (ReadOut pb s d R t (i + (bitD s b e).length) b w) := by
  obtain ⟨kind, num, bsec, text, ⟨TA, tc, tl⟩⟩ := b
  obtain rfl : kind = 7 := hk
  have sat : Sat t i (eU s tl.length ++ strsD s tl (e.put (eU s tl.length))) := hs
  show Calls Tryz.prog 104 #[.pointer (some ⟨d, 0, none⟩), .agg #[.int .i64 7, .int .i64 num, .int .i64 bsec, .string text, .slice TA tl.length tc]] w (ReadOut pb s d R t (i + (eU s tl.length ++ strsD s tl (e.put (eU s tl.length))).length) ⟨7, num, bsec, text, ⟨TA, tc, tl⟩⟩ w)
  obtain ⟨w3, hw3⟩ : ∃ w3, w3 = ((w.alloc (.cells #[.int .i64 7, .int .i64 num, .int .i64 bsec, .string text, .slice TA tl.length tc] 41)).alloc (.cells zBit 41)).alloc (.cells #[.int .i64 7, .int .i64 0, .int .i64 bsec, .string ⟨#[]⟩, .slice none 0 0] 41) := ⟨_, rfl⟩
  have b3 : Below w.heap.size w w3 := by rw [hw3]; exact Below.alloc (Below.alloc (Below.alloc (Below.refl _ _) (Nat.le_refl _) _) (by simp) _) (by simp; omega) _
  have KB := Lib.hid (show Blk w3 w.heap.size 41 #[.int .i64 7, .int .i64 num, .int .i64 bsec, .string text, .slice TA tl.length tc] from by rw [hw3]; exact ((Blk.new w _ _).alloc _).alloc _)
  obtain ⟨rb, hrb⟩ : ∃ rb, rb = w.heap.size + 1 := ⟨_, rfl⟩
  obtain ⟨ob, hob⟩ : ∃ ob, ob = w.heap.size + 2 := ⟨_, rfl⟩
  have KR := Lib.hid (show Blk w3 rb 41 zBit from by rw [hw3, hrb]; exact (Blk.new1 w _ _ _).alloc _)
  have KO := Lib.hid (show Blk w3 ob 41 #[.int .i64 7, .int .i64 0, .int .i64 bsec, .string ⟨#[]⟩, .slice none 0 0] from by
    rw [hw3, hob]
    have h9 := Blk.new1 (w.alloc (.cells #[.int .i64 7, .int .i64 num, .int .i64 bsec, .string text, .slice TA tl.length tc] 41)) (.cells zBit 41) 41 #[.int .i64 7, .int .i64 0, .int .i64 bsec, .string ⟨#[]⟩, .slice none 0 0]
    simpa using h9)
  have hdl := h.lt
  have dB : w.heap.size ∉ [d] := by simp; omega
  have dR : rb ∉ [d] := by simp; omega
  have dO : ob ∉ [d] := by simp; omega
  have od : d ∉ [ob] := by simp; omega
  have op : pb ∉ [ob] := by
    have h9 := World.block_lt_of_cell? _ _ h.sy
    simp only at h9
    simp
    omega
  have or_ : rb ∉ [ob] := by simp; omega
  have rd : d ∉ [rb] := by simp; omega
  have rp : pb ∉ [rb] := by
    have h9 := World.block_lt_of_cell? _ _ h.sy
    simp only at h9
    simp
    omega
  have GO := Lib.hid (show w.heap.size ≤ ob ∧ w.heap.size ≤ rb from by omega)
  have D3 := Lib.hid (h.here b3)
  have B3 := Lib.hid (below_from be b3)
  have SAT := Lib.hid sat
  have F3 := Lib.hid (Fr.of_below (gs := [d]) b3)
  have BF := Lib.hid (fun (W : World) (f : Fr [d] w3 W) => below_fr B3.out f (fun q hq => by rw [List.mem_singleton.1 hq]; exact dz) (below_from be b3).size)
  have HW3 := Lib.hid hw3
  have HRB := Lib.hid hrb
  have HOB := Lib.hid hob
  have hnum : -9223372036854775808 ≤ num ∧ num < 9223372036854775808 := hb.num
  have n0 := hnum.1
  have n1 := hnum.2
  have SZ : (Tryz.prog.info? 41).map (·.size) = some 5 := by kernel_rfl
  have htl := hb.texts.1
  have CC := Lib.hid (dStrings_any B D3.out B3.out dz c hR tl (e.put (eU s tl.length)) htl h1 h2 SAT.out)
  clear htl
  have e0 := KB.out.cell 0
  have e1 := KB.out.cell 1
  have e2 := KB.out.cell 2
  clear hw3 hrb hob h be B hR h1 h2 hs sat b3 hdl hb hnum
  go_enter Tryz.func104, Tryz.ntmps104
  go_upto_region 2 with fail
  rw [← HW3.out, ← HOB.out, ← HRB.out]
  go_wp2_with fail
  refine (CC.out).mono ?_
  rintro e4 w4 ⟨g4, rfl, s4, hg4, d4, f4⟩
  have KO4 := Lib.hid (KO.out.fr f4 dO)
  have KR4 := Lib.hid (KR.out.fr f4 dR)
  have KB4 := Lib.hid (KB.out.fr f4 dB)
  have D4 := Lib.hid d4
  have F4 := Lib.hid (F3.out.trans1 f4)
  have o1 := KO4.out.cell 4
  have p1 := KO4.out.frozen 4
  have S4 := Lib.hid s4
  have hob4 : g4 ∉ [ob] := by
    have h9 := KO.out.lt
    simp
    omega
  have hrb4 : g4 ∉ [rb] := by
    have h9 := KR.out.lt
    simp
    omega
  have HG4 := Lib.hid (show w.heap.size ≤ g4 from Nat.le_trans F3.out.size hg4)
  clear s4 hg4
  clear d4 f4 e0 e1 e2
  go_upto_region 31 with fail
  obtain ⟨w5, hw5⟩ : ∃ w5, w5 = w4.setCell ⟨ob, 4, none⟩ (.slice (some ⟨g4, 0, none⟩) tl.length tl.length) := ⟨_, rfl⟩
  rw [← hw5]
  have f5 : Fr [ob] w4 w5 := by rw [hw5]; exact (Fr.refl [ob] w4).setCell (.inl (by simp)) _
  have KO5 : Blk w5 ob 41 #[.int .i64 7, .int .i64 0, .int .i64 bsec, .string ⟨#[]⟩, .slice (some ⟨g4, 0, none⟩) tl.length tl.length] := by rw [hw5]; exact KO4.out.set_ 4 (.slice (some ⟨g4, 0, none⟩) tl.length tl.length)
  have KR5 := KR4.out.fr f5 or_
  have D5 := D4.out.far f5 od op
  have F5 : Fr [d] w w5 := by rw [hw5]; exact F4.out.setCell (.inr GO.out.1) _
  have S5 := Lib.hid (show SlR 1 w5 (some ⟨g4, 0, none⟩) (tl.map strCells) from slr_fr S4.out f5 hob4)
  have K5 := Lib.hid KO5
  have R5 := Lib.hid KR5
  have DD5 := Lib.hid D5
  have FF5 := Lib.hid F5
  clear f5 KO5 KR5 D5 F5 hw5 o1 p1
  go_wp2_with (first | (refine wpList_load_row rfl 41 (.tmp 5) (by rfl) ob (by rfl) 41 _ (0, 0) _ K5.out Tryz.underlying41 rfl SZ ?_) | (refine wpList_store_row rfl 41 (.tmp 4) (.tmp 90) (by rfl) rb #[.int .i64 7, .int .i64 0, .int .i64 bsec, .string ⟨#[]⟩, .slice (some ⟨g4, 0, none⟩) tl.length tl.length] (by rfl) (by rfl) 41 _ R5.out SZ rfl (by simp [Value.oneCell']) ?_))
  refine bodyPost_ret (v := .agg #[.int .i64 7, .int .i64 0, .int .i64 bsec, .string ⟨#[]⟩, .slice (some ⟨g4, 0, none⟩) tl.length tl.length]) (results_cell_row rfl _ _ rb 41 _ (0, 0) _ rfl (setRow_heap _ _ _ _ _ _ R5.out) Tryz.underlying41 rfl SZ) rfl ?_
  have F6 : Fr [rb] w5 (w5.setRow rb #[.int .i64 7, .int .i64 0, .int .i64 bsec, .string ⟨#[]⟩, .slice (some ⟨g4, 0, none⟩) tl.length tl.length]) := fr_setRow (Fr.refl _ _) (.inl (by simp)) _
  exact ⟨_, rfl, ⟨some ⟨g4, 0, none⟩, tl.length, by rfl, slr_fr S5.out F6 hrb4, fun a ha => by rw [← Option.some.inj ha]; exact HG4.out⟩, DD5.out.far F6 rd rp, FF5.out.trans F6 (fun q hq => .inr (by rw [List.mem_singleton.1 hq]; exact GO.out.2))⟩
set_option maxRecDepth 100000 in
set_option maxHeartbeats 2000000 in
theorem read_8 {w0 : World} {pb v : Nat} {s : Bool} {path : ByteArray} {p : Pk} {fp : List UInt8} {sc : Value} {A : Option Addr} {rs : List (Int × Int)} (B : Dbs w0 pb v s path p fp sc A rs) {d : Nat} {R : Nat → Option Value} {t : ByteArray} {i : Nat} {w : World} (h : Dst pb s d R t i w) (be : Below w0.heap.size w0 w) (dz : w0.heap.size ≤ d) (c : Nat) (hR : R 1 = some (.slice A rs.length c)) (b : Bt) (hb : b.Ok) (hk : b.kind = 8) (e : Es) (h1 : (e.bit s b).rs <+: rs) (h2 : (e.bit s b).ss <+: p 0) (hs : Sat t i (bitD s b e)) :
    Calls Tryz.prog 104 #[.pointer (some ⟨d, 0, none⟩), .agg b.arr2] w (ReadOut pb s d R t (i + (bitD s b e).length) b w) := by
  obtain ⟨kind, num, bsec, text, ⟨TA, tc, tl⟩⟩ := b
  obtain rfl : kind = 8 := hk
  have sat : Sat t i (refD s bsec num e) := hs
  show Calls Tryz.prog 104 #[.pointer (some ⟨d, 0, none⟩), .agg #[.int .i64 8, .int .i64 num, .int .i64 bsec, .string text, .slice TA tl.length tc]] w (ReadOut pb s d R t (i + (refD s bsec num e).length) ⟨8, num, bsec, text, ⟨TA, tc, tl⟩⟩ w)
  obtain ⟨w3, hw3⟩ : ∃ w3, w3 = ((w.alloc (.cells #[.int .i64 8, .int .i64 num, .int .i64 bsec, .string text, .slice TA tl.length tc] 41)).alloc (.cells zBit 41)).alloc (.cells #[.int .i64 8, .int .i64 0, .int .i64 bsec, .string ⟨#[]⟩, .slice none 0 0] 41) := ⟨_, rfl⟩
  have b3 : Below w.heap.size w w3 := by rw [hw3]; exact Below.alloc (Below.alloc (Below.alloc (Below.refl _ _) (Nat.le_refl _) _) (by simp) _) (by simp; omega) _
  have KB := Lib.hid (show Blk w3 w.heap.size 41 #[.int .i64 8, .int .i64 num, .int .i64 bsec, .string text, .slice TA tl.length tc] from by rw [hw3]; exact ((Blk.new w _ _).alloc _).alloc _)
  obtain ⟨rb, hrb⟩ : ∃ rb, rb = w.heap.size + 1 := ⟨_, rfl⟩
  obtain ⟨ob, hob⟩ : ∃ ob, ob = w.heap.size + 2 := ⟨_, rfl⟩
  have KR := Lib.hid (show Blk w3 rb 41 zBit from by rw [hw3, hrb]; exact (Blk.new1 w _ _ _).alloc _)
  have KO := Lib.hid (show Blk w3 ob 41 #[.int .i64 8, .int .i64 0, .int .i64 bsec, .string ⟨#[]⟩, .slice none 0 0] from by
    rw [hw3, hob]
    have h9 := Blk.new1 (w.alloc (.cells #[.int .i64 8, .int .i64 num, .int .i64 bsec, .string text, .slice TA tl.length tc] 41)) (.cells zBit 41) 41 #[.int .i64 8, .int .i64 0, .int .i64 bsec, .string ⟨#[]⟩, .slice none 0 0]
    simpa using h9)
  have hdl := h.lt
  have dB : w.heap.size ∉ [d] := by simp; omega
  have dR : rb ∉ [d] := by simp; omega
  have dO : ob ∉ [d] := by simp; omega
  have od : d ∉ [ob] := by simp; omega
  have op : pb ∉ [ob] := by
    have h9 := World.block_lt_of_cell? _ _ h.sy
    simp only at h9
    simp
    omega
  have or_ : rb ∉ [ob] := by simp; omega
  have rd : d ∉ [rb] := by simp; omega
  have rp : pb ∉ [rb] := by
    have h9 := World.block_lt_of_cell? _ _ h.sy
    simp only at h9
    simp
    omega
  have GO := Lib.hid (show w.heap.size ≤ ob ∧ w.heap.size ≤ rb from by omega)
  have D3 := Lib.hid (h.here b3)
  have B3 := Lib.hid (below_from be b3)
  have SAT := Lib.hid sat
  have F3 := Lib.hid (Fr.of_below (gs := [d]) b3)
  have BF := Lib.hid (fun (W : World) (f : Fr [d] w3 W) => below_fr B3.out f (fun q hq => by rw [List.mem_singleton.1 hq]; exact dz) (below_from be b3).size)
  have HW3 := Lib.hid hw3
  have HRB := Lib.hid hrb
  have HOB := Lib.hid hob
  have hnum : -9223372036854775808 ≤ num ∧ num < 9223372036854775808 := hb.num
  have n0 := hnum.1
  have n1 := hnum.2
  have SZ : (Tryz.prog.info? 41).map (·.size) = some 5 := by kernel_rfl
  have hr8 := hb.ref rfl
  obtain ⟨g, o, rfl, hg, hjl, q0, q1⟩ := B.ref B3.out (ref_at (show (e.ref s bsec num).rs <+: rs from h1))
  have CC := Lib.hid (dReloc_any D3.out rs.length c g o _ bsec num hR (by omega) hjl B.rn q0 q1 SAT.out)
  obtain ⟨x, rfl⟩ : ∃ x : Nat, num = x := ⟨num.toNat, by simp only at hr8; omega⟩
  obtain ⟨y, rfl⟩ : ∃ y : Nat, bsec = y := ⟨bsec.toNat, by simp only at hr8; omega⟩
  simp only at hr8
  have x0 : (0 : Int) ≤ x := by omega
  have x1 : (x : Int) ≤ 2147483647 := by omega
  have y0 : (0 : Int) ≤ y := by omega
  have y1 : (y : Int) ≤ 9 := by omega
  have wy : IntKind.i32.wrap (y : Int) = y := by rw [IntKind.wrap_i32]; omega
  have wx : IntKind.i64.wrap (x : Int) = x := by rw [IntKind.wrap_i64]; omega
  clear hr8 n0 n1 hnum q0 q1 hg hjl
  have e0 := KB.out.cell 0
  have e1 := KB.out.cell 1
  have e2 := KB.out.cell 2
  clear hw3 hrb hob h be B hR h1 h2 hs sat b3 hdl hb
  go_enter Tryz.func104, Tryz.ntmps104
  go_upto_region 2 with fail
  rw [← HW3.out, ← HOB.out, ← HRB.out]
  go_wp2_with fail
  refine (CC.out).mono ?_
  rintro e4 w4 ⟨rfl, d4, f4⟩
  have KO4 := Lib.hid (KO.out.fr f4 dO)
  have KR4 := Lib.hid (KR.out.fr f4 dR)
  have KB4 := Lib.hid (KB.out.fr f4 dB)
  have D4 := Lib.hid d4
  have F4 := Lib.hid (F3.out.trans1 f4)
  have o1 := KO4.out.cell 1
  have p1 := KO4.out.frozen 1
  clear d4 f4 e0 e1 e2
  go_upto_region 31 with fail
  obtain ⟨w5, hw5⟩ : ∃ w5, w5 = w4.setCell ⟨ob, 1, none⟩ (.int .i64 (x : Int)) := ⟨_, rfl⟩
  rw [← hw5]
  have f5 : Fr [ob] w4 w5 := by rw [hw5]; exact (Fr.refl [ob] w4).setCell (.inl (by simp)) _
  have KO5 : Blk w5 ob 41 #[.int .i64 8, .int .i64 (x : Int), .int .i64 (y : Int), .string ⟨#[]⟩, .slice none 0 0] := by rw [hw5]; exact KO4.out.set_ 1 (.int .i64 (x : Int))
  have KR5 := KR4.out.fr f5 or_
  have D5 := D4.out.far f5 od op
  have F5 : Fr [d] w w5 := by rw [hw5]; exact F4.out.setCell (.inr GO.out.1) _
  have K5 := Lib.hid KO5
  have R5 := Lib.hid KR5
  have DD5 := Lib.hid D5
  have FF5 := Lib.hid F5
  clear f5 KO5 KR5 D5 F5 hw5 o1 p1
  go_wp2_with (first | (refine wpList_load_row rfl 41 (.tmp 5) (by rfl) ob (by rfl) 41 _ (0, 0) _ K5.out Tryz.underlying41 rfl SZ ?_) | (refine wpList_store_row rfl 41 (.tmp 4) (.tmp 90) (by rfl) rb #[.int .i64 8, .int .i64 (x : Int), .int .i64 (y : Int), .string ⟨#[]⟩, .slice none 0 0] (by rfl) (by rfl) 41 _ R5.out SZ rfl (by simp [Value.oneCell']) ?_))
  refine bodyPost_ret (v := .agg #[.int .i64 8, .int .i64 (x : Int), .int .i64 (y : Int), .string ⟨#[]⟩, .slice none 0 0]) (results_cell_row rfl _ _ rb 41 _ (0, 0) _ rfl (setRow_heap _ _ _ _ _ _ R5.out) Tryz.underlying41 rfl SZ) rfl ?_
  have F6 : Fr [rb] w5 (w5.setRow rb #[.int .i64 8, .int .i64 (x : Int), .int .i64 (y : Int), .string ⟨#[]⟩, .slice none 0 0]) := fr_setRow (Fr.refl _ _) (.inl (by simp)) _
  exact ⟨_, rfl, ⟨none, 0, by rfl, fun hh => absurd hh (by simp [dueL]), fun a ha => by cases ha⟩, DD5.out.far F6 rd rp, FF5.out.trans F6 (fun q hq => .inr (by rw [List.mem_singleton.1 hq]; exact GO.out.2))⟩
set_option maxRecDepth 100000 in
set_option maxHeartbeats 2000000 in
theorem read_9 {w0 : World} {pb v : Nat} {s : Bool} {path : ByteArray} {p : Pk} {fp : List UInt8} {sc : Value} {A : Option Addr} {rs : List (Int × Int)} (_ : Dbs w0 pb v s path p fp sc A rs) {d : Nat} {R : Nat → Option Value} {t : ByteArray} {i : Nat} {w : World} (h : Dst pb s d R t i w) (be : Below w0.heap.size w0 w) (dz : w0.heap.size ≤ d) (c : Nat) (_ : R 1 = some (.slice A rs.length c)) (b : Bt) (hb : b.Ok) (hk : b.kind = 9) (e : Es) (h1 : (e.bit s b).rs <+: rs) (h2 : (e.bit s b).ss <+: p 0) (hs : Sat t i (bitD s b e)) :
    Calls Tryz.prog 104 #[.pointer (some ⟨d, 0, none⟩), .agg b.arr2] w (ReadOut pb s d R t (i + (bitD s b e).length) b w) := by
  obtain ⟨kind, num, bsec, text, ⟨TA, tc, tl⟩⟩ := b
  obtain rfl : kind = 9 := hk
  have sat : Sat t i (sy s 25 ++ eU s num.toNat) := hs
  show Calls Tryz.prog 104 #[.pointer (some ⟨d, 0, none⟩), .agg #[.int .i64 9, .int .i64 num, .int .i64 bsec, .string text, .slice TA tl.length tc]] w (ReadOut pb s d R t (i + (sy s 25 ++ eU s num.toNat).length) ⟨9, num, bsec, text, ⟨TA, tc, tl⟩⟩ w)
  obtain ⟨w3, hw3⟩ : ∃ w3, w3 = ((w.alloc (.cells #[.int .i64 9, .int .i64 num, .int .i64 bsec, .string text, .slice TA tl.length tc] 41)).alloc (.cells zBit 41)).alloc (.cells #[.int .i64 9, .int .i64 0, .int .i64 bsec, .string ⟨#[]⟩, .slice none 0 0] 41) := ⟨_, rfl⟩
  have b3 : Below w.heap.size w w3 := by rw [hw3]; exact Below.alloc (Below.alloc (Below.alloc (Below.refl _ _) (Nat.le_refl _) _) (by simp) _) (by simp; omega) _
  have KB := Lib.hid (show Blk w3 w.heap.size 41 #[.int .i64 9, .int .i64 num, .int .i64 bsec, .string text, .slice TA tl.length tc] from by rw [hw3]; exact ((Blk.new w _ _).alloc _).alloc _)
  obtain ⟨rb, hrb⟩ : ∃ rb, rb = w.heap.size + 1 := ⟨_, rfl⟩
  obtain ⟨ob, hob⟩ : ∃ ob, ob = w.heap.size + 2 := ⟨_, rfl⟩
  have KR := Lib.hid (show Blk w3 rb 41 zBit from by rw [hw3, hrb]; exact (Blk.new1 w _ _ _).alloc _)
  have KO := Lib.hid (show Blk w3 ob 41 #[.int .i64 9, .int .i64 0, .int .i64 bsec, .string ⟨#[]⟩, .slice none 0 0] from by
    rw [hw3, hob]
    have h9 := Blk.new1 (w.alloc (.cells #[.int .i64 9, .int .i64 num, .int .i64 bsec, .string text, .slice TA tl.length tc] 41)) (.cells zBit 41) 41 #[.int .i64 9, .int .i64 0, .int .i64 bsec, .string ⟨#[]⟩, .slice none 0 0]
    simpa using h9)
  have hdl := h.lt
  have dB : w.heap.size ∉ [d] := by simp; omega
  have dR : rb ∉ [d] := by simp; omega
  have dO : ob ∉ [d] := by simp; omega
  have od : d ∉ [ob] := by simp; omega
  have op : pb ∉ [ob] := by
    have h9 := World.block_lt_of_cell? _ _ h.sy
    simp only at h9
    simp
    omega
  have or_ : rb ∉ [ob] := by simp; omega
  have rd : d ∉ [rb] := by simp; omega
  have rp : pb ∉ [rb] := by
    have h9 := World.block_lt_of_cell? _ _ h.sy
    simp only at h9
    simp
    omega
  have GO := Lib.hid (show w.heap.size ≤ ob ∧ w.heap.size ≤ rb from by omega)
  have D3 := Lib.hid (h.here b3)
  have B3 := Lib.hid (below_from be b3)
  have SAT := Lib.hid sat
  have F3 := Lib.hid (Fr.of_below (gs := [d]) b3)
  have BF := Lib.hid (fun (W : World) (f : Fr [d] w3 W) => below_fr B3.out f (fun q hq => by rw [List.mem_singleton.1 hq]; exact dz) (below_from be b3).size)
  have HW3 := Lib.hid hw3
  have HRB := Lib.hid hrb
  have HOB := Lib.hid hob
  have hnum : -9223372036854775808 ≤ num ∧ num < 9223372036854775808 := hb.num
  have n0 := hnum.1
  have n1 := hnum.2
  have SZ : (Tryz.prog.info? 41).map (·.size) = some 5 := by kernel_rfl
  have hr9 := hb.obj (.inl rfl)
  simp only at hr9
  obtain ⟨x, rfl⟩ : ∃ x : Nat, num = x := ⟨num.toNat, by omega⟩
  rw [show (x : Int).toNat = x from by omega] at SAT ⊢
  have hx1 : x < 9223372036854775808 := by omega
  clear hr9 n0 n1 hnum
  have e0 := KB.out.cell 0
  have e1 := KB.out.cell 1
  have e2 := KB.out.cell 2
  clear hw3 hrb hob h be h1 h2 hs sat b3 hdl hb
  go_enter Tryz.func104, Tryz.ntmps104
  go_upto_region 2 with fail
  rw [← HW3.out, ← HOB.out, ← HRB.out]
  go_wp2_with fail
  refine (dCode_any D3.out 25 (by decide) x hx1 SAT.out).mono ?_
  rintro e4 w4 ⟨rfl, d4, f4⟩
  have KO4 := Lib.hid (KO.out.fr f4 dO)
  have KR4 := Lib.hid (KR.out.fr f4 dR)
  have KB4 := Lib.hid (KB.out.fr f4 dB)
  have D4 := Lib.hid d4
  have F4 := Lib.hid (F3.out.trans1 f4)
  have o1 := KO4.out.cell 1
  have p1 := KO4.out.frozen 1
  clear d4 f4 e0 e1 e2
  go_upto_region 31 with fail
  obtain ⟨w5, hw5⟩ : ∃ w5, w5 = w4.setCell ⟨ob, 1, none⟩ (.int .i64 (x : Int)) := ⟨_, rfl⟩
  rw [← hw5]
  have f5 : Fr [ob] w4 w5 := by rw [hw5]; exact (Fr.refl [ob] w4).setCell (.inl (by simp)) _
  have KO5 : Blk w5 ob 41 #[.int .i64 9, .int .i64 (x : Int), .int .i64 bsec, .string ⟨#[]⟩, .slice none 0 0] := by rw [hw5]; exact KO4.out.set_ 1 (.int .i64 (x : Int))
  have KR5 := KR4.out.fr f5 or_
  have D5 := D4.out.far f5 od op
  have F5 : Fr [d] w w5 := by rw [hw5]; exact F4.out.setCell (.inr GO.out.1) _
  have K5 := Lib.hid KO5
  have R5 := Lib.hid KR5
  have DD5 := Lib.hid D5
  have FF5 := Lib.hid F5
  clear f5 KO5 KR5 D5 F5 hw5 o1 p1
  go_wp2_with (first | (refine wpList_load_row rfl 41 (.tmp 5) (by rfl) ob (by rfl) 41 _ (0, 0) _ K5.out Tryz.underlying41 rfl SZ ?_) | (refine wpList_store_row rfl 41 (.tmp 4) (.tmp 90) (by rfl) rb #[.int .i64 9, .int .i64 (x : Int), .int .i64 bsec, .string ⟨#[]⟩, .slice none 0 0] (by rfl) (by rfl) 41 _ R5.out SZ rfl (by simp [Value.oneCell']) ?_))
  refine bodyPost_ret (v := .agg #[.int .i64 9, .int .i64 (x : Int), .int .i64 bsec, .string ⟨#[]⟩, .slice none 0 0]) (results_cell_row rfl _ _ rb 41 _ (0, 0) _ rfl (setRow_heap _ _ _ _ _ _ R5.out) Tryz.underlying41 rfl SZ) rfl ?_
  have F6 : Fr [rb] w5 (w5.setRow rb #[.int .i64 9, .int .i64 (x : Int), .int .i64 bsec, .string ⟨#[]⟩, .slice none 0 0]) := fr_setRow (Fr.refl _ _) (.inl (by simp)) _
  exact ⟨_, rfl, ⟨none, 0, by rfl, fun hh => absurd hh (by simp [dueL]), fun a ha => by cases ha⟩, DD5.out.far F6 rd rp, FF5.out.trans F6 (fun q hq => .inr (by rw [List.mem_singleton.1 hq]; exact GO.out.2))⟩
set_option maxRecDepth 100000 in
set_option maxHeartbeats 2000000 in
theorem read_10 {w0 : World} {pb v : Nat} {s : Bool} {path : ByteArray} {p : Pk} {fp : List UInt8} {sc : Value} {A : Option Addr} {rs : List (Int × Int)} (_ : Dbs w0 pb v s path p fp sc A rs) {d : Nat} {R : Nat → Option Value} {t : ByteArray} {i : Nat} {w : World} (h : Dst pb s d R t i w) (be : Below w0.heap.size w0 w) (dz : w0.heap.size ≤ d) (c : Nat) (_ : R 1 = some (.slice A rs.length c)) (b : Bt) (hb : b.Ok) (hk : b.kind = 10) (e : Es) (h1 : (e.bit s b).rs <+: rs) (h2 : (e.bit s b).ss <+: p 0) (hs : Sat t i (bitD s b e)) :
    Calls Tryz.prog 104 #[.pointer (some ⟨d, 0, none⟩), .agg b.arr2] w (ReadOut pb s d R t (i + (bitD s b e).length) b w) := by
  obtain ⟨kind, num, bsec, text, ⟨TA, tc, tl⟩⟩ := b
  obtain rfl : kind = 10 := hk
  have sat : Sat t i (sy s 19 ++ eU s num.toNat) := hs
  show Calls Tryz.prog 104 #[.pointer (some ⟨d, 0, none⟩), .agg #[.int .i64 10, .int .i64 num, .int .i64 bsec, .string text, .slice TA tl.length tc]] w (ReadOut pb s d R t (i + (sy s 19 ++ eU s num.toNat).length) ⟨10, num, bsec, text, ⟨TA, tc, tl⟩⟩ w)
  obtain ⟨w3, hw3⟩ : ∃ w3, w3 = ((w.alloc (.cells #[.int .i64 10, .int .i64 num, .int .i64 bsec, .string text, .slice TA tl.length tc] 41)).alloc (.cells zBit 41)).alloc (.cells #[.int .i64 10, .int .i64 0, .int .i64 bsec, .string ⟨#[]⟩, .slice none 0 0] 41) := ⟨_, rfl⟩
  have b3 : Below w.heap.size w w3 := by rw [hw3]; exact Below.alloc (Below.alloc (Below.alloc (Below.refl _ _) (Nat.le_refl _) _) (by simp) _) (by simp; omega) _
  have KB := Lib.hid (show Blk w3 w.heap.size 41 #[.int .i64 10, .int .i64 num, .int .i64 bsec, .string text, .slice TA tl.length tc] from by rw [hw3]; exact ((Blk.new w _ _).alloc _).alloc _)
  obtain ⟨rb, hrb⟩ : ∃ rb, rb = w.heap.size + 1 := ⟨_, rfl⟩
  obtain ⟨ob, hob⟩ : ∃ ob, ob = w.heap.size + 2 := ⟨_, rfl⟩
  have KR := Lib.hid (show Blk w3 rb 41 zBit from by rw [hw3, hrb]; exact (Blk.new1 w _ _ _).alloc _)
  have KO := Lib.hid (show Blk w3 ob 41 #[.int .i64 10, .int .i64 0, .int .i64 bsec, .string ⟨#[]⟩, .slice none 0 0] from by
    rw [hw3, hob]
    have h9 := Blk.new1 (w.alloc (.cells #[.int .i64 10, .int .i64 num, .int .i64 bsec, .string text, .slice TA tl.length tc] 41)) (.cells zBit 41) 41 #[.int .i64 10, .int .i64 0, .int .i64 bsec, .string ⟨#[]⟩, .slice none 0 0]
    simpa using h9)
  have hdl := h.lt
  have dB : w.heap.size ∉ [d] := by simp; omega
  have dR : rb ∉ [d] := by simp; omega
  have dO : ob ∉ [d] := by simp; omega
  have od : d ∉ [ob] := by simp; omega
  have op : pb ∉ [ob] := by
    have h9 := World.block_lt_of_cell? _ _ h.sy
    simp only at h9
    simp
    omega
  have or_ : rb ∉ [ob] := by simp; omega
  have rd : d ∉ [rb] := by simp; omega
  have rp : pb ∉ [rb] := by
    have h9 := World.block_lt_of_cell? _ _ h.sy
    simp only at h9
    simp
    omega
  have GO := Lib.hid (show w.heap.size ≤ ob ∧ w.heap.size ≤ rb from by omega)
  have D3 := Lib.hid (h.here b3)
  have B3 := Lib.hid (below_from be b3)
  have SAT := Lib.hid sat
  have F3 := Lib.hid (Fr.of_below (gs := [d]) b3)
  have BF := Lib.hid (fun (W : World) (f : Fr [d] w3 W) => below_fr B3.out f (fun q hq => by rw [List.mem_singleton.1 hq]; exact dz) (below_from be b3).size)
  have HW3 := Lib.hid hw3
  have HRB := Lib.hid hrb
  have HOB := Lib.hid hob
  have hnum : -9223372036854775808 ≤ num ∧ num < 9223372036854775808 := hb.num
  have n0 := hnum.1
  have n1 := hnum.2
  have SZ : (Tryz.prog.info? 41).map (·.size) = some 5 := by kernel_rfl
  have hr9 := hb.typ rfl
  simp only at hr9
  obtain ⟨x, rfl⟩ : ∃ x : Nat, num = x := ⟨num.toNat, by omega⟩
  rw [show (x : Int).toNat = x from by omega] at SAT ⊢
  have hx1 : x < 9223372036854775808 := by omega
  clear hr9 n0 n1 hnum
  have e0 := KB.out.cell 0
  have e1 := KB.out.cell 1
  have e2 := KB.out.cell 2
  clear hw3 hrb hob h be h1 h2 hs sat b3 hdl hb
  go_enter Tryz.func104, Tryz.ntmps104
  go_upto_region 2 with fail
  rw [← HW3.out, ← HOB.out, ← HRB.out]
  go_wp2_with fail
  refine (CodeType_Marker 0 w3).mono ?_
  rintro e4 w3' ⟨rfl, n3, rfl⟩
  go_wp2_with fail
  refine (dCode_any (D3.out.drewN n3) 19 (by decide) x hx1 SAT.out).mono ?_
  rintro e4 w4 ⟨rfl, d4, f4⟩
  replace f4 : Fr [d] w3 w4 := (Fr.refl [d] w3).drewN n3 |>.trans1 f4
  have KO4 := Lib.hid (KO.out.fr f4 dO)
  have KR4 := Lib.hid (KR.out.fr f4 dR)
  have KB4 := Lib.hid (KB.out.fr f4 dB)
  have D4 := Lib.hid d4
  have F4 := Lib.hid (F3.out.trans1 f4)
  have o1 := KO4.out.cell 1
  have p1 := KO4.out.frozen 1
  clear d4 f4 e0 e1 e2
  go_upto_region 31 with fail
  obtain ⟨w5, hw5⟩ : ∃ w5, w5 = w4.setCell ⟨ob, 1, none⟩ (.int .i64 (x : Int)) := ⟨_, rfl⟩
  rw [← hw5]
  have f5 : Fr [ob] w4 w5 := by rw [hw5]; exact (Fr.refl [ob] w4).setCell (.inl (by simp)) _
  have KO5 : Blk w5 ob 41 #[.int .i64 10, .int .i64 (x : Int), .int .i64 bsec, .string ⟨#[]⟩, .slice none 0 0] := by rw [hw5]; exact KO4.out.set_ 1 (.int .i64 (x : Int))
  have KR5 := KR4.out.fr f5 or_
  have D5 := D4.out.far f5 od op
  have F5 : Fr [d] w w5 := by rw [hw5]; exact F4.out.setCell (.inr GO.out.1) _
  have K5 := Lib.hid KO5
  have R5 := Lib.hid KR5
  have DD5 := Lib.hid D5
  have FF5 := Lib.hid F5
  clear f5 KO5 KR5 D5 F5 hw5 o1 p1
  go_wp2_with (first | (refine wpList_load_row rfl 41 (.tmp 5) (by rfl) ob (by rfl) 41 _ (0, 0) _ K5.out Tryz.underlying41 rfl SZ ?_) | (refine wpList_store_row rfl 41 (.tmp 4) (.tmp 90) (by rfl) rb #[.int .i64 10, .int .i64 (x : Int), .int .i64 bsec, .string ⟨#[]⟩, .slice none 0 0] (by rfl) (by rfl) 41 _ R5.out SZ rfl (by simp [Value.oneCell']) ?_))
  refine bodyPost_ret (v := .agg #[.int .i64 10, .int .i64 (x : Int), .int .i64 bsec, .string ⟨#[]⟩, .slice none 0 0]) (results_cell_row rfl _ _ rb 41 _ (0, 0) _ rfl (setRow_heap _ _ _ _ _ _ R5.out) Tryz.underlying41 rfl SZ) rfl ?_
  have F6 : Fr [rb] w5 (w5.setRow rb #[.int .i64 10, .int .i64 (x : Int), .int .i64 bsec, .string ⟨#[]⟩, .slice none 0 0]) := fr_setRow (Fr.refl _ _) (.inl (by simp)) _
  exact ⟨_, rfl, ⟨none, 0, by rfl, fun hh => absurd hh (by simp [dueL]), fun a ha => by cases ha⟩, DD5.out.far F6 rd rp, FF5.out.trans F6 (fun q hq => .inr (by rw [List.mem_singleton.1 hq]; exact GO.out.2))⟩
set_option maxRecDepth 100000 in
set_option maxHeartbeats 2000000 in
theorem read_11 {w0 : World} {pb v : Nat} {s : Bool} {path : ByteArray} {p : Pk} {fp : List UInt8} {sc : Value} {A : Option Addr} {rs : List (Int × Int)} (_ : Dbs w0 pb v s path p fp sc A rs) {d : Nat} {R : Nat → Option Value} {t : ByteArray} {i : Nat} {w : World} (h : Dst pb s d R t i w) (be : Below w0.heap.size w0 w) (dz : w0.heap.size ≤ d) (c : Nat) (_ : R 1 = some (.slice A rs.length c)) (b : Bt) (hb : b.Ok) (hk : b.kind = 11) (e : Es) (h1 : (e.bit s b).rs <+: rs) (h2 : (e.bit s b).ss <+: p 0) (hs : Sat t i (bitD s b e)) :
    Calls Tryz.prog 104 #[.pointer (some ⟨d, 0, none⟩), .agg b.arr2] w (ReadOut pb s d R t (i + (bitD s b e).length) b w) := by
  obtain ⟨kind, num, bsec, text, ⟨TA, tc, tl⟩⟩ := b
  obtain rfl : kind = 11 := hk
  have sat : Sat t i (sy s 7 ++ eU s num.toNat) := hs
  show Calls Tryz.prog 104 #[.pointer (some ⟨d, 0, none⟩), .agg #[.int .i64 11, .int .i64 num, .int .i64 bsec, .string text, .slice TA tl.length tc]] w (ReadOut pb s d R t (i + (sy s 7 ++ eU s num.toNat).length) ⟨11, num, bsec, text, ⟨TA, tc, tl⟩⟩ w)
  obtain ⟨w3, hw3⟩ : ∃ w3, w3 = ((w.alloc (.cells #[.int .i64 11, .int .i64 num, .int .i64 bsec, .string text, .slice TA tl.length tc] 41)).alloc (.cells zBit 41)).alloc (.cells #[.int .i64 11, .int .i64 0, .int .i64 bsec, .string ⟨#[]⟩, .slice none 0 0] 41) := ⟨_, rfl⟩
  have b3 : Below w.heap.size w w3 := by rw [hw3]; exact Below.alloc (Below.alloc (Below.alloc (Below.refl _ _) (Nat.le_refl _) _) (by simp) _) (by simp; omega) _
  have KB := Lib.hid (show Blk w3 w.heap.size 41 #[.int .i64 11, .int .i64 num, .int .i64 bsec, .string text, .slice TA tl.length tc] from by rw [hw3]; exact ((Blk.new w _ _).alloc _).alloc _)
  obtain ⟨rb, hrb⟩ : ∃ rb, rb = w.heap.size + 1 := ⟨_, rfl⟩
  obtain ⟨ob, hob⟩ : ∃ ob, ob = w.heap.size + 2 := ⟨_, rfl⟩
  have KR := Lib.hid (show Blk w3 rb 41 zBit from by rw [hw3, hrb]; exact (Blk.new1 w _ _ _).alloc _)
  have KO := Lib.hid (show Blk w3 ob 41 #[.int .i64 11, .int .i64 0, .int .i64 bsec, .string ⟨#[]⟩, .slice none 0 0] from by
    rw [hw3, hob]
    have h9 := Blk.new1 (w.alloc (.cells #[.int .i64 11, .int .i64 num, .int .i64 bsec, .string text, .slice TA tl.length tc] 41)) (.cells zBit 41) 41 #[.int .i64 11, .int .i64 0, .int .i64 bsec, .string ⟨#[]⟩, .slice none 0 0]
    simpa using h9)
  have hdl := h.lt
  have dB : w.heap.size ∉ [d] := by simp; omega
  have dR : rb ∉ [d] := by simp; omega
  have dO : ob ∉ [d] := by simp; omega
  have od : d ∉ [ob] := by simp; omega
  have op : pb ∉ [ob] := by
    have h9 := World.block_lt_of_cell? _ _ h.sy
    simp only at h9
    simp
    omega
  have or_ : rb ∉ [ob] := by simp; omega
  have rd : d ∉ [rb] := by simp; omega
  have rp : pb ∉ [rb] := by
    have h9 := World.block_lt_of_cell? _ _ h.sy
    simp only at h9
    simp
    omega
  have GO := Lib.hid (show w.heap.size ≤ ob ∧ w.heap.size ≤ rb from by omega)
  have D3 := Lib.hid (h.here b3)
  have B3 := Lib.hid (below_from be b3)
  have SAT := Lib.hid sat
  have F3 := Lib.hid (Fr.of_below (gs := [d]) b3)
  have BF := Lib.hid (fun (W : World) (f : Fr [d] w3 W) => below_fr B3.out f (fun q hq => by rw [List.mem_singleton.1 hq]; exact dz) (below_from be b3).size)
  have HW3 := Lib.hid hw3
  have HRB := Lib.hid hrb
  have HOB := Lib.hid hob
  have hnum : -9223372036854775808 ≤ num ∧ num < 9223372036854775808 := hb.num
  have n0 := hnum.1
  have n1 := hnum.2
  have SZ : (Tryz.prog.info? 41).map (·.size) = some 5 := by kernel_rfl
  have hr9 := hb.obj (.inr rfl)
  simp only at hr9
  obtain ⟨x, rfl⟩ : ∃ x : Nat, num = x := ⟨num.toNat, by omega⟩
  rw [show (x : Int).toNat = x from by omega] at SAT ⊢
  have hx1 : x < 9223372036854775808 := by omega
  clear hr9 n0 n1 hnum
  have e0 := KB.out.cell 0
  have e1 := KB.out.cell 1
  have e2 := KB.out.cell 2
  clear hw3 hrb hob h be h1 h2 hs sat b3 hdl hb
  go_enter Tryz.func104, Tryz.ntmps104
  go_upto_region 2 with fail
  rw [← HW3.out, ← HOB.out, ← HRB.out]
  go_wp2_with fail
  refine (CodeVal_Marker 0 w3).mono ?_
  rintro e4 w3' ⟨rfl, n3, rfl⟩
  go_wp2_with fail
  refine (dCode_any (D3.out.drewN n3) 7 (by decide) x hx1 SAT.out).mono ?_
  rintro e4 w4 ⟨rfl, d4, f4⟩
  replace f4 : Fr [d] w3 w4 := (Fr.refl [d] w3).drewN n3 |>.trans1 f4
  have KO4 := Lib.hid (KO.out.fr f4 dO)
  have KR4 := Lib.hid (KR.out.fr f4 dR)
  have KB4 := Lib.hid (KB.out.fr f4 dB)
  have D4 := Lib.hid d4
  have F4 := Lib.hid (F3.out.trans1 f4)
  have o1 := KO4.out.cell 1
  have p1 := KO4.out.frozen 1
  clear d4 f4 e0 e1 e2
  go_upto_region 31 with fail
  obtain ⟨w5, hw5⟩ : ∃ w5, w5 = w4.setCell ⟨ob, 1, none⟩ (.int .i64 (x : Int)) := ⟨_, rfl⟩
  rw [← hw5]
  have f5 : Fr [ob] w4 w5 := by rw [hw5]; exact (Fr.refl [ob] w4).setCell (.inl (by simp)) _
  have KO5 : Blk w5 ob 41 #[.int .i64 11, .int .i64 (x : Int), .int .i64 bsec, .string ⟨#[]⟩, .slice none 0 0] := by rw [hw5]; exact KO4.out.set_ 1 (.int .i64 (x : Int))
  have KR5 := KR4.out.fr f5 or_
  have D5 := D4.out.far f5 od op
  have F5 : Fr [d] w w5 := by rw [hw5]; exact F4.out.setCell (.inr GO.out.1) _
  have K5 := Lib.hid KO5
  have R5 := Lib.hid KR5
  have DD5 := Lib.hid D5
  have FF5 := Lib.hid F5
  clear f5 KO5 KR5 D5 F5 hw5 o1 p1
  go_wp2_with (first | (refine wpList_load_row rfl 41 (.tmp 5) (by rfl) ob (by rfl) 41 _ (0, 0) _ K5.out Tryz.underlying41 rfl SZ ?_) | (refine wpList_store_row rfl 41 (.tmp 4) (.tmp 90) (by rfl) rb #[.int .i64 11, .int .i64 (x : Int), .int .i64 bsec, .string ⟨#[]⟩, .slice none 0 0] (by rfl) (by rfl) 41 _ R5.out SZ rfl (by simp [Value.oneCell']) ?_))
  refine bodyPost_ret (v := .agg #[.int .i64 11, .int .i64 (x : Int), .int .i64 bsec, .string ⟨#[]⟩, .slice none 0 0]) (results_cell_row rfl _ _ rb 41 _ (0, 0) _ rfl (setRow_heap _ _ _ _ _ _ R5.out) Tryz.underlying41 rfl SZ) rfl ?_
  have F6 : Fr [rb] w5 (w5.setRow rb #[.int .i64 11, .int .i64 (x : Int), .int .i64 bsec, .string ⟨#[]⟩, .slice none 0 0]) := fr_setRow (Fr.refl _ _) (.inl (by simp)) _
  exact ⟨_, rfl, ⟨none, 0, by rfl, fun hh => absurd hh (by simp [dueL]), fun a ha => by cases ha⟩, DD5.out.far F6 rd rp, FF5.out.trans F6 (fun q hq => .inr (by rw [List.mem_singleton.1 hq]; exact GO.out.2))⟩
set_option maxRecDepth 100000 in
set_option maxHeartbeats 2000000 in
theorem read_12 {w0 : World} {pb v : Nat} {s : Bool} {path : ByteArray} {p : Pk} {fp : List UInt8} {sc : Value} {A : Option Addr} {rs : List (Int × Int)} (_ : Dbs w0 pb v s path p fp sc A rs) {d : Nat} {R : Nat → Option Value} {t : ByteArray} {i : Nat} {w : World} (h : Dst pb s d R t i w) (be : Below w0.heap.size w0 w) (dz : w0.heap.size ≤ d) (c : Nat) (_ : R 1 = some (.slice A rs.length c)) (b : Bt) (hb : b.Ok) (hk : b.kind = 12) (e : Es) (h1 : (e.bit s b).rs <+: rs) (h2 : (e.bit s b).ss <+: p 0) (hs : Sat t i (bitD s b e)) :
    Calls Tryz.prog 104 #[.pointer (some ⟨d, 0, none⟩), .agg b.arr2] w (ReadOut pb s d R t (i + (bitD s b e).length) b w) := by
  obtain ⟨kind, num, bsec, text, ⟨TA, tc, tl⟩⟩ := b
  obtain rfl : kind = 12 := hk
  have sat : Sat t i (sy s num.toNat) := hs
  show Calls Tryz.prog 104 #[.pointer (some ⟨d, 0, none⟩), .agg #[.int .i64 12, .int .i64 num, .int .i64 bsec, .string text, .slice TA tl.length tc]] w (ReadOut pb s d R t (i + (sy s num.toNat).length) ⟨12, num, bsec, text, ⟨TA, tc, tl⟩⟩ w)
  obtain ⟨w3, hw3⟩ : ∃ w3, w3 = ((w.alloc (.cells #[.int .i64 12, .int .i64 num, .int .i64 bsec, .string text, .slice TA tl.length tc] 41)).alloc (.cells zBit 41)).alloc (.cells #[.int .i64 12, .int .i64 0, .int .i64 bsec, .string ⟨#[]⟩, .slice none 0 0] 41) := ⟨_, rfl⟩
  have b3 : Below w.heap.size w w3 := by rw [hw3]; exact Below.alloc (Below.alloc (Below.alloc (Below.refl _ _) (Nat.le_refl _) _) (by simp) _) (by simp; omega) _
  have KB := Lib.hid (show Blk w3 w.heap.size 41 #[.int .i64 12, .int .i64 num, .int .i64 bsec, .string text, .slice TA tl.length tc] from by rw [hw3]; exact ((Blk.new w _ _).alloc _).alloc _)
  obtain ⟨rb, hrb⟩ : ∃ rb, rb = w.heap.size + 1 := ⟨_, rfl⟩
  obtain ⟨ob, hob⟩ : ∃ ob, ob = w.heap.size + 2 := ⟨_, rfl⟩
  have KR := Lib.hid (show Blk w3 rb 41 zBit from by rw [hw3, hrb]; exact (Blk.new1 w _ _ _).alloc _)
  have KO := Lib.hid (show Blk w3 ob 41 #[.int .i64 12, .int .i64 0, .int .i64 bsec, .string ⟨#[]⟩, .slice none 0 0] from by
    rw [hw3, hob]
    have h9 := Blk.new1 (w.alloc (.cells #[.int .i64 12, .int .i64 num, .int .i64 bsec, .string text, .slice TA tl.length tc] 41)) (.cells zBit 41) 41 #[.int .i64 12, .int .i64 0, .int .i64 bsec, .string ⟨#[]⟩, .slice none 0 0]
    simpa using h9)
  have hdl := h.lt
  have dB : w.heap.size ∉ [d] := by simp; omega
  have dR : rb ∉ [d] := by simp; omega
  have dO : ob ∉ [d] := by simp; omega
  have od : d ∉ [ob] := by simp; omega
  have op : pb ∉ [ob] := by
    have h9 := World.block_lt_of_cell? _ _ h.sy
    simp only at h9
    simp
    omega
  have or_ : rb ∉ [ob] := by simp; omega
  have rd : d ∉ [rb] := by simp; omega
  have rp : pb ∉ [rb] := by
    have h9 := World.block_lt_of_cell? _ _ h.sy
    simp only at h9
    simp
    omega
  have GO := Lib.hid (show w.heap.size ≤ ob ∧ w.heap.size ≤ rb from by omega)
  have D3 := Lib.hid (h.here b3)
  have B3 := Lib.hid (below_from be b3)
  have SAT := Lib.hid sat
  have F3 := Lib.hid (Fr.of_below (gs := [d]) b3)
  have BF := Lib.hid (fun (W : World) (f : Fr [d] w3 W) => below_fr B3.out f (fun q hq => by rw [List.mem_singleton.1 hq]; exact dz) (below_from be b3).size)
  have HW3 := Lib.hid hw3
  have HRB := Lib.hid hrb
  have HOB := Lib.hid hob
  have hnum : -9223372036854775808 ≤ num ∧ num < 9223372036854775808 := hb.num
  have n0 := hnum.1
  have n1 := hnum.2
  have SZ : (Tryz.prog.info? 41).map (·.size) = some 5 := by kernel_rfl
  have hr9 := hb.syn rfl
  simp only at hr9
  obtain ⟨x, rfl⟩ : ∃ x : Nat, num = x := ⟨num.toNat, by omega⟩
  rw [show (x : Int).toNat = x from by omega] at SAT ⊢
  have hx1 : x < 128 := by omega
  clear hr9 n0 n1 hnum
  have e0 := KB.out.cell 0
  have e1 := KB.out.cell 1
  have e2 := KB.out.cell 2
  clear hw3 hrb hob h be h1 h2 hs sat b3 hdl hb
  go_enter Tryz.func104, Tryz.ntmps104
  go_upto_region 2 with fail
  rw [← HW3.out, ← HOB.out, ← HRB.out]
  go_wp2_with fail
  refine (dSync_any D3.out x hx1 SAT.out).mono ?_
  rintro e4 w4 ⟨rfl, d4, f4⟩
  have KO4 := Lib.hid (KO.out.fr f4 dO)
  have KR4 := Lib.hid (KR.out.fr f4 dR)
  have KB4 := Lib.hid (KB.out.fr f4 dB)
  have D4 := Lib.hid d4
  have F4 := Lib.hid (F3.out.trans1 f4)
  have o1 := KO4.out.cell 1
  have p1 := KO4.out.frozen 1
  have b1 := KB4.out.cell 1
  clear d4 f4 e0 e1 e2
  go_upto_region 31 with fail
  obtain ⟨w5, hw5⟩ : ∃ w5, w5 = w4.setCell ⟨ob, 1, none⟩ (.int .i64 (x : Int)) := ⟨_, rfl⟩
  rw [← hw5]
  have f5 : Fr [ob] w4 w5 := by rw [hw5]; exact (Fr.refl [ob] w4).setCell (.inl (by simp)) _
  have KO5 : Blk w5 ob 41 #[.int .i64 12, .int .i64 (x : Int), .int .i64 bsec, .string ⟨#[]⟩, .slice none 0 0] := by rw [hw5]; exact KO4.out.set_ 1 (.int .i64 (x : Int))
  have KR5 := KR4.out.fr f5 or_
  have D5 := D4.out.far f5 od op
  have F5 : Fr [d] w w5 := by rw [hw5]; exact F4.out.setCell (.inr GO.out.1) _
  have K5 := Lib.hid KO5
  have R5 := Lib.hid KR5
  have DD5 := Lib.hid D5
  have FF5 := Lib.hid F5
  clear f5 KO5 KR5 D5 F5 hw5 o1 p1 b1
  go_wp2_with (first | (refine wpList_load_row rfl 41 (.tmp 5) (by rfl) ob (by rfl) 41 _ (0, 0) _ K5.out Tryz.underlying41 rfl SZ ?_) | (refine wpList_store_row rfl 41 (.tmp 4) (.tmp 90) (by rfl) rb #[.int .i64 12, .int .i64 (x : Int), .int .i64 bsec, .string ⟨#[]⟩, .slice none 0 0] (by rfl) (by rfl) 41 _ R5.out SZ rfl (by simp [Value.oneCell']) ?_))
  refine bodyPost_ret (v := .agg #[.int .i64 12, .int .i64 (x : Int), .int .i64 bsec, .string ⟨#[]⟩, .slice none 0 0]) (results_cell_row rfl _ _ rb 41 _ (0, 0) _ rfl (setRow_heap _ _ _ _ _ _ R5.out) Tryz.underlying41 rfl SZ) rfl ?_
  have F6 : Fr [rb] w5 (w5.setRow rb #[.int .i64 12, .int .i64 (x : Int), .int .i64 bsec, .string ⟨#[]⟩, .slice none 0 0]) := fr_setRow (Fr.refl _ _) (.inl (by simp)) _
  exact ⟨_, rfl, ⟨none, 0, by rfl, fun hh => absurd hh (by simp [dueL]), fun a ha => by cases ha⟩, DD5.out.far F6 rd rp, FF5.out.trans F6 (fun q hq => .inr (by rw [List.mem_singleton.1 hq]; exact GO.out.2))⟩
set_option maxRecDepth 100000 in
set_option maxHeartbeats 2000000 in
theorem read_any {w0 : World} {pb v : Nat} {s : Bool} {path : ByteArray} {p : Pk} {fp : List UInt8} {sc : Value} {A : Option Addr} {rs : List (Int × Int)} (B : Dbs w0 pb v s path p fp sc A rs) {d : Nat} {R : Nat → Option Value} {t : ByteArray} {i : Nat} {w : World} (h : Dst pb s d R t i w) (be : Below w0.heap.size w0 w) (dz : w0.heap.size ≤ d) (c : Nat) (hR : R 1 = some (.slice A rs.length c)) (b : Bt) (hb : b.Ok) (e : Es) (h1 : (e.bit s b).rs <+: rs) (h2 : (e.bit s b).ss <+: p 0) (hs : Sat t i (bitD s b e)) :
    Calls Tryz.prog 104 #[.pointer (some ⟨d, 0, none⟩), .agg b.arr2] w (ReadOut pb s d R t (i + (bitD s b e).length) b w) := by
  have hk := hb.kind
  by_cases k0 : b.kind = 0
  · exact read_0 B h be dz c hR b hb k0 e h1 h2 hs
  by_cases k1 : b.kind = 1
  · exact read_1 B h be dz c hR b hb k1 e h1 h2 hs
  by_cases k2 : b.kind = 2
  · exact read_2 B h be dz c hR b hb k2 e h1 h2 hs
  by_cases k3 : b.kind = 3
  · exact read_3 B h be dz c hR b hb k3 e h1 h2 hs
  by_cases k4 : b.kind = 4
  · exact read_4 B h be dz c hR b hb k4 e h1 h2 hs
  by_cases k5 : b.kind = 5
  · exact read_5 B h be dz c hR b hb k5 e h1 h2 hs
  by_cases k6 : b.kind = 6
  · exact read_6 B h be dz c hR b hb k6 e h1 h2 hs
  by_cases k7 : b.kind = 7
  · exact read_7 B h be dz c hR b hb k7 e h1 h2 hs
  by_cases k8 : b.kind = 8
  · exact read_8 B h be dz c hR b hb k8 e h1 h2 hs
  by_cases k9 : b.kind = 9
  · exact read_9 B h be dz c hR b hb k9 e h1 h2 hs
  by_cases k10 : b.kind = 10
  · exact read_10 B h be dz c hR b hb k10 e h1 h2 hs
  by_cases k11 : b.kind = 11
  · exact read_11 B h be dz c hR b hb k11 e h1 h2 hs
  exact read_12 B h be dz c hR b hb (by omega) e h1 h2 hs
end Go.Proofs.YtedjadicdodahaaGreatDoor

namespace Go.Proofs.YtedjadicdodahaaGreatDoor
open Go.RowKit

theorem Tryz.infoBit : (Tryz.prog.info? 41).map (fun i => (i.zero, i.size, i.bytes)) = some (some (.agg zBit), 5, 64) := by kernel_rfl
theorem row_empty5 (w : World) (e : TypeId) : Row (fun q => w.heap.size ≤ q) e 5 (.slice (some ⟨w.heap.size, 0, none⟩) 0 0) 0 [] (w.alloc (.cells #[] e)) :=
  ⟨World.ownsRow_made (base := 0) (e := e) (size := 5) w #[] 0 (Nat.zero_le _) (by simp) (by simp), fun k hk => by
    injection hk with hk
    exact Nat.le_of_eq hk⟩
/-- A value's cells, as it was read: where its strings stand, the slice's capacity. -/
def gRow (b : Bt) (x : Option Addr × Nat) : List Value := [.int .i64 b.kind, .int .i64 (dueN b), .int .i64 b.sec, .string (dueT b), .slice x.1 (dueL b).length x.2]
structure XOk (B0 : Nat) (rb : Option Nat) (b : Bt) (x : Option Addr × Nat) (w : World) : Prop where
  sl : SlR 1 w x.1 ((dueL b).map strCells)
  at_ : 0 < (dueL b).length → ∃ g o, x.1 = some ⟨g, o, none⟩ ∧ B0 ≤ g ∧ g < w.heap.size ∧ rb ≠ some g
theorem XOk.fr {B0 : Nat} {rb : Option Nat} {b : Bt} {x : Option Addr × Nat} {w w' : World} {G : List Nat} (h : XOk B0 rb b x w) (f : Fr G w w') (hG : ∀ g ∈ G, g < B0 ∨ rb = some g) : XOk B0 rb b x w' := by
  refine ⟨fun hn => ?_, fun hn => ?_⟩
  · have hn2 : 0 < (dueL b).length := by simpa using hn
    obtain ⟨g, o, e1, h2, h3, h4⟩ := h.at_ hn2
    obtain ⟨g', o', e2, hc⟩ := h.sl hn
    refine ⟨g', o', e2, fun j cs hj i u hu => f.cell (hc j cs hj i u hu) (fun hm => ?_)⟩
    rw [e1] at e2
    injection e2 with e2
    injection e2 with e3 e4
    subst e3
    rcases hG _ hm with h5 | h5
    · simp only at h5
      omega
    · exact h4 h5
  · obtain ⟨g, o, e1, h2, h3, h4⟩ := h.at_ hn
    exact ⟨g, o, e1, h2, Nat.lt_of_lt_of_le h3 f.size, h4⟩
theorem XOk.row {B0 : Nat} {rb rb' : Option Nat} {b : Bt} {x : Option Addr × Nat} {w w' : World} (h : XOk B0 rb b x w') (k : ∀ g, rb' = some g → rb = some g ∨ w.heap.size ≤ g) (hw : 0 < (dueL b).length → ∀ g o, x.1 = some ⟨g, o, none⟩ → g < w.heap.size) : XOk B0 rb' b x w' := by
  refine ⟨h.sl, fun hn => ?_⟩
  obtain ⟨g, o, e1, h2, h3, h4⟩ := h.at_ hn
  refine ⟨g, o, e1, h2, h3, fun e => ?_⟩
  rcases k g e with h5 | h5
  · exact h4 h5
  · have := hw hn g o e1
    omega
theorem flat5_at : ∀ (L : List (List Value)) (_ : ∀ cs ∈ L, cs.length = 5) (q : Nat) (cs : List Value) (_ : L[q]? = some cs) (i : Nat) (u : Value) (_ : cs[i]? = some u), L.flatten[q * 5 + i]? = some u
  | [], _, q, cs, h, _, _, _ => by simp at h
  | a :: L, hl, 0, cs, h, i, u, hu => by
    have ha := hl a (by simp)
    obtain rfl : a = cs := by simpa using h
    have hi := (List.getElem?_eq_some_iff.1 hu).1
    rw [List.flatten_cons, Nat.zero_mul, Nat.zero_add, List.getElem?_append_left hi]
    exact hu
  | a :: L, hl, q + 1, cs, h, i, u, hu => by
    have ha := hl a (by simp)
    have h1 := flat5_at L (fun c hc => hl c (by simp [hc])) q cs (by simpa using h) i u hu
    rw [List.flatten_cons, List.getElem?_append_right (by omega), ha, show (q + 1) * 5 + i - 5 = q * 5 + i from by omega]
    exact h1
theorem flat5_len : ∀ (L : List (List Value)) (_ : ∀ cs ∈ L, cs.length = 5), L.flatten.length = L.length * 5
  | [], _ => by simp
  | a :: L, hl => by
    rw [List.flatten_cons, List.length_append, flat5_len L (fun c hc => hl c (by simp [hc])), hl a (by simp), List.length_cons]
    omega
theorem zip5 (bl : List Bt) (xs : List (Option Addr × Nat)) : ∀ cs ∈ List.zipWith gRow bl xs, cs.length = 5 := fun cs h => by
  obtain ⟨i, hi, rfl⟩ := List.mem_iff_getElem.1 h
  rw [List.getElem_zipWith]
  rfl
/-- The values as they were read. -/
structure Rd5 (B0 : Nat) (bl : List Bt) (A : Option Addr) (w : World) : Prop where
  is : ∃ xs : List (Option Addr × Nat), xs.length = bl.length ∧ SlR 5 w A (List.zipWith gRow bl xs) ∧ (∀ a, A = some a → B0 ≤ a.block) ∧ ∀ (q : Nat) (b : Bt) (x : Option Addr × Nat), bl[q]? = some b → xs[q]? = some x → XOk B0 none b x w
theorem slr_lo {size : Nat} {w w' : World} {A : Option Addr} {css : List (List Value)} {G : List Nat} {B0 : Nat} (h : SlR size w A css) (hA : ∀ a, A = some a → B0 ≤ a.block) (f : Fr G w w') (hG : ∀ g ∈ G, g < B0) : SlR size w' A css := fun hn => by
  obtain ⟨b, o, h1, h2⟩ := h hn
  refine ⟨b, o, h1, fun j cs hj i u hu => f.cell (h2 j cs hj i u hu) (fun hm => ?_)⟩
  have h3 := hA _ h1
  have h4 := hG _ hm
  simp only at h3 h4
  omega
theorem Rd5.fr {B0 : Nat} {bl : List Bt} {A : Option Addr} {w w' : World} {G : List Nat} (h : Rd5 B0 bl A w) (f : Fr G w w') (hG : ∀ g ∈ G, g < B0) : Rd5 B0 bl A w' := by
  obtain ⟨xs, h1, h2, h3, h4⟩ := h.is
  exact ⟨xs, h1, slr_lo h2 h3 f hG, h3, fun q b x hb hx => (h4 q b x hb hx).fr f (fun g hg => .inl (hG g hg))⟩
theorem Rd5.here {B0 : Nat} {bl : List Bt} {A : Option Addr} {w w' : World} (h : Rd5 B0 bl A w) (f : Below w.heap.size w w') : Rd5 B0 bl A w' := h.fr (Fr.of_below (gs := []) f) (by simp)
/-- The values read so far: the row of the results, the strings beside it. -/
structure Gots (B0 : Nat) (bl : List Bt) (rv : Value) (j : Nat) (w : World) : Prop where
  is : ∃ xs : List (Option Addr × Nat), xs.length = j ∧ Row (fun k => B0 ≤ k) 41 5 rv j (List.zipWith gRow (bl.take j) xs).flatten w ∧ ∀ (q : Nat) (b : Bt) (x : Option Addr × Nat), bl[q]? = some b → xs[q]? = some x → XOk B0 rv.ownBlock b x w
set_option maxRecDepth 100000 in
set_option maxHeartbeats 4000000 in
theorem readAll_any {w0 : World} {pb v : Nat} {s : Bool} {path : ByteArray} {p : Pk} {fp : List UInt8} {sc : Value} {A : Option Addr} {rs : List (Int × Int)} (B : Dbs w0 pb v s path p fp sc A rs) {d : Nat} {R : Nat → Option Value} {t : ByteArray} {i : Nat} {w : World} (h : Dst pb s d R t i w) (be : Below w0.heap.size w0 w) (dz : w0.heap.size ≤ d) (c : Nat) (hR : R 1 = some (.slice A rs.length c)) (A2 : Option Addr) (c2 : Nat) (bl : List Bt) (hL : SlR 5 w0 A2 (bl.map Bt.cells)) (ok : ∀ b ∈ bl, b.Ok) (hlen : bl.length ≤ 60) (e : Es) (h1 : (e.bits s bl).rs <+: rs) (h2 : (e.bits s bl).ss <+: p 0) (hs : Sat t i (bitsD s bl e)) :
    Calls Tryz.prog 81 #[.pointer (some ⟨d, 0, none⟩), .slice A2 bl.length c2] w fun e' w' => ∃ A3 c3, e' = .returned (.slice A3 bl.length c3) ∧ Rd5 w.heap.size bl A3 w' ∧ Dst pb s d R t (i + (bitsD s bl e).length) w' ∧ Fr [d] w w' := by
  have hdl := h.lt
  have hpl : pb < w.heap.size := by
    have h9 := World.block_lt_of_cell? _ _ h.sy
    exact h9
  have BF := Lib.hid (fun (W : World) (f : Fr [d] w W) => below_fr be f (fun q hq => by rw [List.mem_singleton.1 hq]; exact dz) be.size)
  have HL := Lib.hid (fun (W : World) (f : Fr [d] w W) => hL.here (below_fr be f (fun q hq => by rw [List.mem_singleton.1 hq]; exact dz) be.size))
  have RD := Lib.hid (fun (W : World) (f : Fr [d] w W) (pos j : Nat) (hj : j < bl.length) (hd : Dst pb s d R t pos W) (hsat : Sat t pos (bitsD s (bl.drop j) (e.bits s (bl.take j)))) => show Calls Tryz.prog 104 #[.pointer (some ⟨d, 0, none⟩), .agg bl[j].arr2] W (ReadOut pb s d R t (pos + (bitD s bl[j] (e.bits s (bl.take j))).length) bl[j] W) ∧ Sat t (pos + (bitD s bl[j] (e.bits s (bl.take j))).length) (bitsD s (bl.drop (j + 1)) (e.bits s (bl.take (j + 1)))) ∧ (bitsD s (bl.drop j) (e.bits s (bl.take j))).length = (bitD s bl[j] (e.bits s (bl.take j))).length + (bitsD s (bl.drop (j + 1)) (e.bits s (bl.take (j + 1)))).length from by
    have hd1 := bitsD_drop s bl e j hj
    rw [hd1] at hsat
    have hp := bitsE_pre s bl e (j + 1)
    rw [bitsE_succ s bl e j hj] at hp
    exact ⟨read_any B hd (below_fr be f (fun q hq => by rw [List.mem_singleton.1 hq]; exact dz) be.size) dz c hR bl[j] (ok _ (List.getElem_mem hj)) _ (hp.rs.trans h1) (hp.ss.trans h2) hsat.left, hsat.right, by rw [hd1, List.length_append]⟩)
  obtain ⟨n, hn9⟩ : ∃ n, n = bl.length := ⟨_, rfl⟩
  have HN := Lib.hid hn9
  have n0 : (0 : Int) ≤ n := by omega
  have n1 : (n : Int) ≤ 60 := by omega
  obtain ⟨w1, hw1⟩ : ∃ w1, w1 = w.alloc (.cells #[] 41) := ⟨_, rfl⟩
  have b1 : Below w.heap.size w w1 := by rw [hw1]; exact Below.alloc (Below.refl _ _) (Nat.le_refl _) _
  have D1 := Lib.hid (h.here b1)
  have F1 := Lib.hid (Fr.of_below (gs := [d]) b1)
  have G1 := Lib.hid (show Gots w.heap.size bl (.slice (some ⟨w.heap.size, 0, none⟩) 0 0) 0 w1 from ⟨[], rfl, by rw [hw1]; exact row_empty5 w _, fun q b x _ hx => by simp at hx⟩)
  have S1 := Lib.hid (show Sat t i (bitsD s (bl.drop 0) (e.bits s (bl.take 0))) from hs)
  have HW1 := Lib.hid hw1
  obtain ⟨i0, hj0, jz0, jz1, jz2⟩ := info_parts Tryz.infoBit
  have dn : ∀ rv : Value, (∀ k, rv.ownBlock = some k → w.heap.size ≤ k) → d ∉ rv.ownBlock.toList ∧ pb ∉ rv.ownBlock.toList := fun rv hk => by
    cases hq : rv.ownBlock with
    | none => simp
    | some k =>
      have := hk k hq
      simp
      omega
  have DN := Lib.hid dn
  rw [← hn9]
  clear h be B hR h1 h2 hs hL ok hlen hw1 b1 hn9 dn
  go_enter Tryz.func81, Tryz.ntmps81
  go_wp2_with fail
  rw [← HW1.out]
  go_loopw [5, 7, 11] (fun vi _ x wr => ∃ (j pos : Nat), j ≤ n ∧ x = .int .i64 j ∧ Gots w.heap.size bl vi j wr ∧ Dst pb s d R t pos wr ∧ Sat t pos (bitsD s (bl.drop j) (e.bits s (bl.take j))) ∧ i + (bitsD s bl e).length = pos + (bitsD s (bl.drop j) (e.bits s (bl.take j))).length ∧ Fr [d] w wr) (fun _ _ x _ => n - (intOf x).toNat)
  case atStart => exact ⟨0, i, by omega, rfl, G1.out, D1.out, S1.out, rfl, F1.out⟩
  case round =>
    obtain ⟨j, pos, hj, rfl, gj, dj, sj, ej, fj⟩ := hrel
    have EJ := Lib.hid ej
    clear G1 D1 S1 F1
    by_cases hlt : j < n
    · have hjl : j < bl.length := by rw [← HN.out]; exact hlt
      obtain ⟨xs, hxl, rw_, xok⟩ := gj.is
      obtain ⟨A0, C0, rfl, hmc⟩ := own_slice rw_.row
      obtain ⟨g, o, rfl, hc⟩ := SlR.at_ (HL.out wr fj) j hjl
      have q0 := hc 0 _ rfl
      have q1 := hc 1 _ rfl
      have q2 := hc 2 _ rfl
      have q3 := hc 3 _ rfl
      have q4 := hc 4 _ rfl
      rw [Nat.add_zero] at q0
      obtain ⟨w2, hw2⟩ : ∃ w2, w2 = wr.alloc (.cells bl[j].arr2 41) := ⟨_, rfl⟩
      have b2 : Below wr.heap.size wr w2 := by rw [hw2]; exact Below.alloc (Below.refl _ _) (Nat.le_refl _) _
      have f2 : Fr [d] w w2 := fj.trans0 b2
      obtain ⟨c1, c2', c3⟩ := RD.out w2 f2 pos j hjl (dj.here b2) sj
      have C1 := Lib.hid c1
      have C2 := Lib.hid c2'
      have C3 := Lib.hid c3
      have F2 := Lib.hid f2
      have RW2 := Lib.hid (rw_.here b2)
      have XO2 := Lib.hid (show ∀ (q : Nat) (b : Bt) (x : Option Addr × Nat), bl[q]? = some b → xs[q]? = some x → XOk w.heap.size (Value.slice A0 j C0).ownBlock b x w2 from fun q b x hb hx => (xok q b x hb hx).fr (Fr.of_below (gs := []) b2) (by simp))
      have ZW := Lib.hid (fun (x : Option Addr × Nat) => show (List.zipWith gRow (bl.take (j + 1)) (xs ++ [x])).flatten = (List.zipWith gRow (bl.take j) xs).flatten ++ gRow bl[j] x from by
        rw [List.take_succ_eq_append_getElem hjl, List.zipWith_append (by rw [List.length_take, hxl]; omega), List.flatten_append]
        simp)
      have HB := Lib.hid (show bl[j]? = some bl[j] from List.getElem?_eq_getElem hjl)
      have HXL := Lib.hid hxl
      have RND := Lib.hid (show ∀ k, (Value.slice A0 j C0).ownBlock = some k → w.heap.size ≤ k ∧ k < w2.heap.size from fun k hk => ⟨rw_.own k hk, Nat.lt_of_lt_of_le (rw_.row.lt k hk).2 b2.size⟩)
      have j0 : (0 : Int) ≤ j := by omega
      have j1 : (j : Int) < n := by omega
      have O2 := Lib.hid (show j + 1 ≤ maxLen from by unfold maxLen; omega)
      have O3 := Lib.hid (show (j + 1) * 64 ≤ 140737488355328 from by omega)
      have z2 := Lib.hid (show w.heap.size ≤ w2.heap.size from f2.size)
      clear gj dj sj ej fj hc c1 c2' c3 rw_ xok b2 f2 hxl
      obtain ⟨b, hb9⟩ : ∃ b, b = bl[j] := ⟨_, rfl⟩
      rw [← hb9] at q0 q1 q2 q3 q4 hw2 C1 C2 C3 ZW HB
      have HW2 := Lib.hid hw2
      have K2 := Lib.hid (show Blk w2 wr.heap.size 41 b.arr2 from by rw [hw2]; exact Blk.new _ _ _)
      clear hb9 hw2
      obtain ⟨kind, num, bsec, text, ⟨TA, tc, tl⟩⟩ := b
      go_upto_region 5 with fail
      rw [← HW2.out]
      have e0 := K2.out.cell 0
      have e1 := K2.out.cell 1
      have e2 := K2.out.cell 2
      have e3 := K2.out.cell 3
      have e4 := K2.out.cell 4
      go_wp2_with (first
        | (go_at_call 104; refine C1.out.mono ?_; rintro e9 w9 ⟨v9, rfl, ⟨A9, c9, rfl, s9, fr9⟩, d9, f9⟩; have D9 := Lib.hid d9; have F9 := Lib.hid f9; have S9 := Lib.hid s9; have FR9 := Lib.hid fr9; have R9 := Lib.hid (RW2.out.fr f9 (fun k hk => fun hm => absurd (RND.out k hk).1 (Nat.not_le.2 ((List.mem_singleton.1 hm).symm ▸ hdl)))); have BA := Lib.hid (R9.out.here (w' := w9.alloc (.cells (gRow ⟨kind, num, bsec, text, ⟨TA, tc, tl⟩⟩ (A9, c9)).toArray 41)) (Below.alloc (Below.refl _ _) (Nat.le_refl _) _)); clear s9 fr9 d9 f9 e0 e1 e2 e3 e4)
        | (refine wpList_append_row (by rfl) _ _ 22 (by rfl) (fun q => w.heap.size ≤ q) 41 i0 _ 5 64 Tryz.underlying22 hj0 jz0 jz1 jz2 (by rfl) (by decide) (.slice A0 j C0) j _ (by rfl) BA.out _ 1 1 (gRow ⟨kind, num, bsec, text, ⟨TA, tc, tl⟩⟩ (A9, c9)) (by rfl) rfl (src_new w9 41 (gRow ⟨kind, num, bsec, text, ⟨TA, tc, tl⟩⟩ (A9, c9)).toArray _ rfl 1 _ (Below.refl _ _)) (by simp [gRow, Value.oneCell']) O2.out O3.out ?_; intro A' C' w10 hown2 hgrow2 hnew2))
      obtain ⟨x, hx⟩ : ∃ x : Option Addr × Nat, x = (A9, c9) := ⟨_, rfl⟩
      obtain ⟨bb, hbb⟩ : ∃ bb : Bt, bb = ⟨kind, num, bsec, text, ⟨TA, tc, tl⟩⟩ := ⟨_, rfl⟩
      rw [← hbb, ← hx] at hown2
      rw [← hbb] at HB ZW
      obtain ⟨rb, hrb⟩ : ∃ rb, rb = (Value.slice A0 j C0).ownBlock := ⟨_, rfl⟩
      have HR : ∀ k, rb = some k → w.heap.size ≤ k ∧ k < w2.heap.size := fun k hk => RND.out k (by rw [← hrb]; exact hk)
      have h2x : ∀ (q : Nat) (b : Bt) (x : Option Addr × Nat), bl[q]? = some b → xs[q]? = some x → XOk w.heap.size rb b x w2 := by rw [hrb]; exact XO2.out
      obtain ⟨wa, hwa⟩ : ∃ wa, wa = w9.alloc (.cells (gRow ⟨kind, num, bsec, text, ⟨TA, tc, tl⟩⟩ (A9, c9)).toArray 41) := ⟨_, rfl⟩
      have ba : Below w9.heap.size w9 wa := by rw [hwa]; exact Below.alloc (Below.refl _ _) (Nat.le_refl _) _
      replace hgrow2 : wa.grownBy w10 rb := by rw [hwa, hrb]; exact hgrow2
      replace hnew2 : ∀ g, (Value.slice A' (j + 1) C').ownBlock = some g → rb = some g ∨ wa.heap.size ≤ g := by rw [hwa, hrb]; exact hnew2
      have f9a : Fr [d] w2 wa := F9.out.trans0 ba
      have f10 : Fr rb.toList wa w10 := Fr.of_kp (own := fun k => rb = some k) ((Kp.refl _ _).grown hgrow2 (fun i hi => .inl hi)) (fun k hk => by rw [hk]; simp)
      have hm : ∀ q, q ∈ rb.toList → rb = some q := fun q hq => by simpa using hq
      have ft : Fr [d] w w10 := (F2.out.trans1 f9a).trans f10 (fun q hq => .inr (HR q (hm q hq)).1)
      have hdn := DN.out (Value.slice A0 j C0) (fun k hk => (RND.out k hk).1)
      rw [← hrb] at hdn
      have dt := (D9.out.here ba).far f10 hdn.1 hdn.2
      have x9 : XOk w.heap.size rb bb x w9 := by
        rw [hbb, hx]
        refine ⟨S9.out, fun hn => ?_⟩
        obtain ⟨g', o', e1, hc⟩ := S9.out (by simpa using hn)
        have h5 := FR9.out _ e1
        have h6 : g' < w9.heap.size := by
          have h7 := hc 0 _ (by rw [List.getElem?_map, List.getElem?_eq_getElem hn]; rfl) 0 _ rfl
          exact World.block_lt_of_cell? w9 _ h7
        refine ⟨g', o', e1, Nat.le_trans z2.out h5, h6, fun e => ?_⟩
        have h8 := (HR g' e).2
        simp only at h5
        omega
      have up : ∀ (b : Bt) (x : Option Addr × Nat), XOk w.heap.size rb b x wa → XOk w.heap.size (Value.slice A' (j + 1) C').ownBlock b x w10 := fun b x h => by
        refine (h.fr f10 (fun g hg => .inr (hm g hg))).row (w := wa) hnew2 (fun hn g o e => ?_)
        obtain ⟨g', o', e1, _, h3, _⟩ := h.at_ hn
        rw [e1] at e
        injection e with e
        injection e with e2 e3
        rw [← e2]
        exact h3
      have gt : Gots w.heap.size bl (.slice A' (j + 1) C') (j + 1) w10 := by
        refine ⟨xs ++ [x], by rw [List.length_append, HXL.out]; rfl, ?_, fun q b y hb hy => ?_⟩
        · rw [ZW.out]
          exact hown2.own2 (fun k hk _ => by
            rcases hk with hk | hk
            · exact hk
            · have h9 := (F2.out.trans1 F9.out).size
              have h8 := ba.size
              simp only [World.size_alloc] at hk
              omega)
        · by_cases hq : q < j
          · rw [List.getElem?_append_left (by rw [HXL.out]; exact hq)] at hy
            exact up b y ((h2x q b y hb hy).fr f9a (fun g hg => .inl (by rw [List.mem_singleton.1 hg]; exact hdl)))
          · have hq2 : q = j := by
              have h9 := (List.getElem?_eq_some_iff.1 hy).1
              rw [List.length_append, HXL.out, List.length_singleton] at h9
              omega
            subst hq2
            rw [List.getElem?_append_right (by rw [HXL.out]; exact Nat.le_refl _), HXL.out, Nat.sub_self] at hy
            obtain rfl : x = y := by simpa using hy
            rw [HB.out, Option.some.injEq] at hb
            subst hb
            exact up _ _ (x9.fr (Fr.of_below (gs := []) ba) (by simp))
      exact ⟨⟨j + 1, _, by omega, by push_cast; rfl, gt, dt, C2.out, by rw [EJ.out, C3.out, Nat.add_assoc], ft⟩, by simp [intOf]; omega⟩
    · obtain rfl : j = n := by omega
      obtain ⟨xs, hxl, rw_, xok⟩ := gj.is
      obtain ⟨A0, C0, rfl, hmc⟩ := own_slice rw_.row
      have htk : bl.take j = bl := List.take_of_length_le (by rw [← HN.out]; exact Nat.le_refl _)
      rw [htk] at rw_
      have r5 : Rd5 w.heap.size bl A0 wr := by
        refine ⟨xs, by rw [hxl, HN.out], fun hpos => ?_, fun a ha => ?_, fun q b x hb hx => ?_⟩
        · have h5 := flat5_len _ (zip5 bl xs)
          obtain ⟨g, rfl, _, _, _, _, hcl⟩ := rw_.at (by rw [h5]; omega)
          refine ⟨g, 0, rfl, fun q cs hq i u hu => ?_⟩
          have h6 := flat5_at _ (zip5 bl xs) q cs hq i u hu
          have h7 := (List.getElem?_eq_some_iff.1 h6).1
          rw [Nat.zero_add, (hcl _ h7).1]
          exact h6
        · subst ha
          exact rw_.own a.block rfl
        · refine (xok q b x hb hx).row (w := wr) (fun g hg => by cases hg) (fun hn g o e => ?_)
          obtain ⟨g', o', e1, _, h3, _⟩ := (xok q b x hb hx).at_ hn
          rw [e1] at e
          injection e with e
          injection e with e2 e3
          rw [← e2]
          exact h3
      have R5 := Lib.hid r5
      have DJ := Lib.hid dj
      have FJ := Lib.hid fj
      have hp9 : pos = i + (bitsD s bl e).length := by
        rw [ej, List.drop_eq_nil_of_le (by rw [← HN.out]; exact Nat.le_refl _)]
        simp [bitsD]
      clear gj dj sj ej fj rw_ xok r5
      go_wp2_with fail
      go_returns
      exact ⟨A0, C0, rfl, R5.out, by rw [← hp9]; exact DJ.out, FJ.out⟩
end Go.Proofs.YtedjadicdodahaaGreatDoor
