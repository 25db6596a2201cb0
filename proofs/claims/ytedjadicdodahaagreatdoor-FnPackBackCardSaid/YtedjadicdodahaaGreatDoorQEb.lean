/- What is read and what is due, compared. (printed by gen_pdz.py) -/
import Derived.Deep.Cut
import Derived.BigRegion
import Derived.Test.YtedjadicdodahaaGreatDoorQDw
import Derived.BigQuiet
namespace Go.Proofs.YtedjadicdodahaaGreatDoor
open Go.RowKit

set_option maxRecDepth 100000 in
set_option maxHeartbeats 1000000 in
theorem sameTexts_any (A1 A2 : Option Addr) (c1 c2 : Nat) (l : List ByteArray) (w : World) (h1 : SlR 1 w A1 (l.map strCells)) (h2 : SlR 1 w A2 (l.map strCells)) (hl : l.length ≤ 1000000) :
    Calls Tryz.prog 85 #[.slice A1 l.length c1, .slice A2 l.length c2] w (RetV (.bool true) w) := by
  obtain ⟨n, hn9⟩ : ∃ n, n = l.length := ⟨_, rfl⟩
  have HN := Lib.hid hn9
  have H1 := Lib.hid h1
  have H2 := Lib.hid h2
  have n0 : (0 : Int) ≤ n := by omega
  have n1 : (n : Int) ≤ 1000000 := by omega
  rw [← hn9]
  clear h1 h2 hl hn9
  go_enter Tryz.func85, Tryz.ntmps85
  go_wp2_with fail
  go_loopw [5, 6, 14] (fun _ _ x wr => ∃ j : Nat, j ≤ n ∧ x = .int .i64 j ∧ Below w.heap.size w wr) (fun _ _ x _ => n - (intOf x).toNat)
  case atStart => exact ⟨0, by omega, rfl, Below.refl _ _⟩
  case round =>
    obtain ⟨j, hj, rfl, hb⟩ := hrel
    have HB := Lib.hid hb
    by_cases hlt : j < n
    · have hjl : j < l.length := by rw [← HN.out]; exact hlt
      obtain ⟨g, o, rfl, hc⟩ := SlR.at_ (H1.out.here hb) j hjl
      obtain ⟨g', o', rfl, hc'⟩ := SlR.at_ (H2.out.here hb) j hjl
      have q0 := hc 0 _ rfl
      have q1 := hc' 0 _ rfl
      rw [Nat.add_zero, Nat.mul_one] at q0 q1
      have j0 : (0 : Int) ≤ j := by omega
      have j1 : (j : Int) < n := by omega
      clear hb hc hc'
      generalize l[j] = T at *
      go_wp2_with fail
      go_roundw
      case rel => exact ⟨j + 1, by omega, by go_num, HB.out⟩
      case measure => simp [intOf]; omega
    · go_wp2_with fail
      go_returns
      exact ⟨rfl, HB.out⟩
set_option maxRecDepth 100000 in
set_option maxHeartbeats 2000000 in
theorem sameBit_any (b : Bt) (x y : Option Addr × Nat) (w : World) (hx : SlR 1 w x.1 ((dueL b).map strCells)) (hy : SlR 1 w y.1 ((dueL b).map strCells)) (hl : (dueL b).length ≤ 1000000) :
    Calls Tryz.prog 36 #[.agg (gRow b x).toArray, .agg (gRow b y).toArray] w (RetV (.bool true) w) := by
  obtain ⟨A1, c1⟩ := x
  obtain ⟨A2, c2⟩ := y
  obtain ⟨L, hL⟩ : ∃ L, L = dueL b := ⟨_, rfl⟩
  obtain ⟨N, hN⟩ : ∃ N, N = dueN b := ⟨_, rfl⟩
  obtain ⟨T, hT⟩ : ∃ T, T = dueT b := ⟨_, rfl⟩
  unfold gRow
  rw [← hL, ← hN, ← hT]
  rw [← hL] at hx hy hl
  simp only at hx hy
  obtain ⟨k, hk⟩ : ∃ k, k = b.kind := ⟨_, rfl⟩
  obtain ⟨z, hz⟩ : ∃ z, z = b.sec := ⟨_, rfl⟩
  rw [← hk, ← hz]
  show Calls Tryz.prog 36 #[.agg #[.int .i64 k, .int .i64 N, .int .i64 z, .string T, .slice A1 L.length c1], .agg #[.int .i64 k, .int .i64 N, .int .i64 z, .string T, .slice A2 L.length c2]] w (RetV (.bool true) w)
  obtain ⟨w2, hw2⟩ : ∃ w2, w2 = (w.alloc (.cells #[.int .i64 k, .int .i64 N, .int .i64 z, .string T, .slice A1 L.length c1] 41)).alloc (.cells #[.int .i64 k, .int .i64 N, .int .i64 z, .string T, .slice A2 L.length c2] 41) := ⟨_, rfl⟩
  have b2 : Below w.heap.size w w2 := by rw [hw2]; exact Below.alloc (Below.alloc (Below.refl _ _) (Nat.le_refl _) _) (by simp) _
  have ST := Lib.hid (sameTexts_any A1 A2 c1 c2 L w2 (hx.here b2) (hy.here b2) hl)
  have B2 := Lib.hid b2
  have HW := Lib.hid hw2
  clear hx hy hl hL hN hT hk hz b2 hw2
  go_enter Tryz.func36, Tryz.ntmps36
  go_wp2_with fail
  rw [← HW.out]
  refine ST.out.mono ?_
  rintro e w3 ⟨rfl, b3⟩
  have B3 := Lib.hid (below_from B2.out b3)
  clear b3
  go_wp2_with fail
  go_returns
  exact ⟨rfl, B3.out⟩
/-- What Due leaves. -/
def DueOut (b : Bt) (w : World) (e : Ending) (w' : World) : Prop := ∃ y : Option Addr × Nat, e = .returned (.agg (gRow b y).toArray) ∧ SlR 1 w' y.1 ((dueL b).map strCells) ∧ Below w.heap.size w w'
set_option maxRecDepth 100000 in
set_option maxHeartbeats 2000000 in
theorem due_0a (b : Bt) (w : World) (hin : b.In w) (hk : b.kind = 0) (h0 : b.num = 0) : Calls Tryz.prog 37 #[.agg b.arr2] w (DueOut b w) := by
  obtain ⟨kind, num, bsec, text, ⟨TA, tc, tl⟩⟩ := b
  obtain rfl : kind = 0 := hk
  obtain rfl : num = 0 := h0
  show Calls Tryz.prog 37 #[.agg #[.int .i64 0, .int .i64 0, .int .i64 bsec, .string text, .slice TA tl.length tc]] w (DueOut ⟨0, 0, bsec, text, ⟨TA, tc, tl⟩⟩ w)
  obtain ⟨w3, hw3⟩ : ∃ w3, w3 = ((w.alloc (.cells #[.int .i64 0, .int .i64 0, .int .i64 bsec, .string text, .slice TA tl.length tc] 41)).alloc (.cells zBit 41)).alloc (.cells #[.int .i64 0, .int .i64 0, .int .i64 bsec, .string ⟨#[]⟩, .slice none 0 0] 41) := ⟨_, rfl⟩
  have b3 : Below w.heap.size w w3 := by rw [hw3]; exact Below.alloc (Below.alloc (Below.alloc (Below.refl _ _) (Nat.le_refl _) _) (by simp) _) (by simp; omega) _
  have KB := Lib.hid (show Blk w3 w.heap.size 41 #[.int .i64 0, .int .i64 0, .int .i64 bsec, .string text, .slice TA tl.length tc] from by rw [hw3]; exact ((Blk.new w _ _).alloc _).alloc _)
  obtain ⟨rb, hrb⟩ : ∃ rb, rb = w.heap.size + 1 := ⟨_, rfl⟩
  obtain ⟨ob, hob⟩ : ∃ ob, ob = w.heap.size + 2 := ⟨_, rfl⟩
  have KR := Lib.hid (show Blk w3 rb 41 zBit from by rw [hw3, hrb]; exact (Blk.new1 w _ _ _).alloc _)
  have KO := Lib.hid (show Blk w3 ob 41 #[.int .i64 0, .int .i64 0, .int .i64 bsec, .string ⟨#[]⟩, .slice none 0 0] from by
    rw [hw3, hob]
    have h9 := Blk.new1 (w.alloc (.cells #[.int .i64 0, .int .i64 0, .int .i64 bsec, .string text, .slice TA tl.length tc] 41)) (.cells zBit 41) 41 #[.int .i64 0, .int .i64 0, .int .i64 bsec, .string ⟨#[]⟩, .slice none 0 0]
    simpa using h9)
  have or_ : rb ∉ [ob] := by simp; omega
  have ow : w.heap.size ≠ ob := by omega
  have wo : ob ≠ w.heap.size := by omega
  have GO := Lib.hid (show w.heap.size ≤ ob ∧ w.heap.size ≤ rb from by omega)
  have B3 := Lib.hid b3
  have HI := Lib.hid (show SlR 1 w TA (tl.map strCells) from hin.tx)
  have HW3 := Lib.hid hw3
  have HRB := Lib.hid hrb
  have HOB := Lib.hid hob
  have SZ : (Tryz.prog.info? 41).map (·.size) = some 5 := by kernel_rfl
  have e0 : w3.cell? ⟨w.heap.size, 0, none⟩ = some (.int .i64 0) := KB.out.cell 0
  have e1 : w3.cell? ⟨w.heap.size, 1, none⟩ = some (.int .i64 0) := KB.out.cell 1
  have e2 : w3.cell? ⟨w.heap.size, 2, none⟩ = some (.int .i64 bsec) := KB.out.cell 2
  have e3 : w3.cell? ⟨w.heap.size, 3, none⟩ = some (.string text) := KB.out.cell 3
  have e4 : w3.cell? ⟨w.heap.size, 4, none⟩ = some (.slice TA tl.length tc) := KB.out.cell 4
  have o1 : w3.cell? ⟨ob, 1, none⟩ = some (.int .i64 0) := KO.out.cell 1
  have o3 : w3.cell? ⟨ob, 3, none⟩ = some (.string ⟨#[]⟩) := KO.out.cell 3
  have o4 : w3.cell? ⟨ob, 4, none⟩ = some (.slice none 0 0) := KO.out.cell 4
  have p1 := KO.out.frozen 1
  have p3 := KO.out.frozen 3
  have p4 := KO.out.frozen 4
  clear hw3 hrb hob hin b3
  go_enter Tryz.func37, Tryz.ntmps37
  go_upto_region 2 with fail
  rw [← HW3.out, ← HOB.out, ← HRB.out]
  go_upto_region 11 with fail
  obtain ⟨w5, hw5⟩ : ∃ w5, w5 = w3.setCell ⟨ob, 1, none⟩ (.int .i64 0) := ⟨_, rfl⟩
  rw [← hw5]
  have f5 : Fr [ob] w3 w5 := by rw [hw5]; exact (Fr.refl [ob] w3).setCell (.inl (by simp)) _
  have KO5 : Blk w5 ob 41 #[.int .i64 0, .int .i64 0, .int .i64 bsec, .string ⟨#[]⟩, .slice none 0 0] := by rw [hw5]; exact KO.out.set_ 1 _
  all_goals
    have K5 := Lib.hid KO5
    have R5 := Lib.hid (KR.out.fr f5 or_)
    have B5 := Lib.hid (below_fr B3.out f5 (fun q hq => by rw [List.mem_singleton.1 hq]; exact GO.out.1) B3.out.size)
    clear f5 KO5 hw5
    go_wp2_with (first | (refine wpList_load_row rfl 41 (.tmp 3) (by rfl) ob (by rfl) 41 _ (0, 0) _ K5.out Tryz.underlying41 rfl SZ ?_) | (refine wpList_store_row rfl 41 (.tmp 2) (.tmp 32) (by rfl) rb #[.int .i64 0, .int .i64 0, .int .i64 bsec, .string ⟨#[]⟩, .slice none 0 0] (by rfl) (by rfl) 41 _ R5.out SZ rfl (by simp [Value.oneCell']) ?_))
    refine bodyPost_ret (v := .agg #[.int .i64 0, .int .i64 0, .int .i64 bsec, .string ⟨#[]⟩, .slice none 0 0]) (results_cell_row rfl _ _ rb 41 _ (0, 0) _ rfl (setRow_heap _ _ _ _ _ _ R5.out) Tryz.underlying41 rfl SZ) rfl ?_
    have F6 : Fr [rb] w5 (w5.setRow rb #[.int .i64 0, .int .i64 0, .int .i64 bsec, .string ⟨#[]⟩, .slice none 0 0]) := fr_setRow (Fr.refl _ _) (.inl (by simp)) _
    have B6 := below_fr B5.out F6 (fun q hq => by rw [List.mem_singleton.1 hq]; exact GO.out.2) B5.out.size
    exact ⟨(none, 0), by rfl, fun hh => absurd hh (by simp [dueL]), B6⟩
set_option maxRecDepth 100000 in
set_option maxHeartbeats 2000000 in
theorem due_0b (b : Bt) (w : World) (hin : b.In w) (hk : b.kind = 0) (h0 : b.num ≠ 0) : Calls Tryz.prog 37 #[.agg b.arr2] w (DueOut b w) := by
  obtain ⟨kind, num, bsec, text, ⟨TA, tc, tl⟩⟩ := b
  obtain rfl : kind = 0 := hk
  replace h0 : num ≠ 0 := h0
  show Calls Tryz.prog 37 #[.agg #[.int .i64 0, .int .i64 num, .int .i64 bsec, .string text, .slice TA tl.length tc]] w (DueOut ⟨0, num, bsec, text, ⟨TA, tc, tl⟩⟩ w)
  obtain ⟨w3, hw3⟩ : ∃ w3, w3 = ((w.alloc (.cells #[.int .i64 0, .int .i64 num, .int .i64 bsec, .string text, .slice TA tl.length tc] 41)).alloc (.cells zBit 41)).alloc (.cells #[.int .i64 0, .int .i64 num, .int .i64 bsec, .string ⟨#[]⟩, .slice none 0 0] 41) := ⟨_, rfl⟩
  have b3 : Below w.heap.size w w3 := by rw [hw3]; exact Below.alloc (Below.alloc (Below.alloc (Below.refl _ _) (Nat.le_refl _) _) (by simp) _) (by simp; omega) _
  have KB := Lib.hid (show Blk w3 w.heap.size 41 #[.int .i64 0, .int .i64 num, .int .i64 bsec, .string text, .slice TA tl.length tc] from by rw [hw3]; exact ((Blk.new w _ _).alloc _).alloc _)
  obtain ⟨rb, hrb⟩ : ∃ rb, rb = w.heap.size + 1 := ⟨_, rfl⟩
  obtain ⟨ob, hob⟩ : ∃ ob, ob = w.heap.size + 2 := ⟨_, rfl⟩
  have KR := Lib.hid (show Blk w3 rb 41 zBit from by rw [hw3, hrb]; exact (Blk.new1 w _ _ _).alloc _)
  have KO := Lib.hid (show Blk w3 ob 41 #[.int .i64 0, .int .i64 num, .int .i64 bsec, .string ⟨#[]⟩, .slice none 0 0] from by
    rw [hw3, hob]
    have h9 := Blk.new1 (w.alloc (.cells #[.int .i64 0, .int .i64 num, .int .i64 bsec, .string text, .slice TA tl.length tc] 41)) (.cells zBit 41) 41 #[.int .i64 0, .int .i64 num, .int .i64 bsec, .string ⟨#[]⟩, .slice none 0 0]
    simpa using h9)
  have or_ : rb ∉ [ob] := by simp; omega
  have ow : w.heap.size ≠ ob := by omega
  have wo : ob ≠ w.heap.size := by omega
  have GO := Lib.hid (show w.heap.size ≤ ob ∧ w.heap.size ≤ rb from by omega)
  have B3 := Lib.hid b3
  have HI := Lib.hid (show SlR 1 w TA (tl.map strCells) from hin.tx)
  have HW3 := Lib.hid hw3
  have HRB := Lib.hid hrb
  have HOB := Lib.hid hob
  have SZ : (Tryz.prog.info? 41).map (·.size) = some 5 := by kernel_rfl
  have e0 : w3.cell? ⟨w.heap.size, 0, none⟩ = some (.int .i64 0) := KB.out.cell 0
  have e1 : w3.cell? ⟨w.heap.size, 1, none⟩ = some (.int .i64 num) := KB.out.cell 1
  have e2 : w3.cell? ⟨w.heap.size, 2, none⟩ = some (.int .i64 bsec) := KB.out.cell 2
  have e3 : w3.cell? ⟨w.heap.size, 3, none⟩ = some (.string text) := KB.out.cell 3
  have e4 : w3.cell? ⟨w.heap.size, 4, none⟩ = some (.slice TA tl.length tc) := KB.out.cell 4
  have o1 : w3.cell? ⟨ob, 1, none⟩ = some (.int .i64 num) := KO.out.cell 1
  have o3 : w3.cell? ⟨ob, 3, none⟩ = some (.string ⟨#[]⟩) := KO.out.cell 3
  have o4 : w3.cell? ⟨ob, 4, none⟩ = some (.slice none 0 0) := KO.out.cell 4
  have p1 := KO.out.frozen 1
  have p3 := KO.out.frozen 3
  have p4 := KO.out.frozen 4
  clear hw3 hrb hob hin b3
  go_enter Tryz.func37, Tryz.ntmps37
  go_upto_region 2 with fail
  rw [← HW3.out, ← HOB.out, ← HRB.out]
  go_upto_region 11 with fail
  obtain ⟨w5, hw5⟩ : ∃ w5, w5 = (w3.setCell ⟨ob, 1, none⟩ (.int .i64 0)).setCell ⟨ob, 1, none⟩ (.int .i64 1) := ⟨_, rfl⟩
  rw [← hw5]
  have f5 : Fr [ob] w3 w5 := by rw [hw5]; exact ((Fr.refl [ob] w3).setCell (.inl (by simp)) _).setCell (.inl (by simp)) _
  have KO5 : Blk w5 ob 41 #[.int .i64 0, .int .i64 1, .int .i64 bsec, .string ⟨#[]⟩, .slice none 0 0] := by rw [hw5]; exact (KO.out.set_ 1 _).set_ 1 _
  all_goals
    have K5 := Lib.hid KO5
    have R5 := Lib.hid (KR.out.fr f5 or_)
    have B5 := Lib.hid (below_fr B3.out f5 (fun q hq => by rw [List.mem_singleton.1 hq]; exact GO.out.1) B3.out.size)
    clear f5 KO5 hw5
    go_wp2_with (first | (refine wpList_load_row rfl 41 (.tmp 3) (by rfl) ob (by rfl) 41 _ (0, 0) _ K5.out Tryz.underlying41 rfl SZ ?_) | (refine wpList_store_row rfl 41 (.tmp 2) (.tmp 32) (by rfl) rb #[.int .i64 0, .int .i64 1, .int .i64 bsec, .string ⟨#[]⟩, .slice none 0 0] (by rfl) (by rfl) 41 _ R5.out SZ rfl (by simp [Value.oneCell']) ?_))
    refine bodyPost_ret (v := .agg #[.int .i64 0, .int .i64 1, .int .i64 bsec, .string ⟨#[]⟩, .slice none 0 0]) (results_cell_row rfl _ _ rb 41 _ (0, 0) _ rfl (setRow_heap _ _ _ _ _ _ R5.out) Tryz.underlying41 rfl SZ) rfl ?_
    have F6 : Fr [rb] w5 (w5.setRow rb #[.int .i64 0, .int .i64 1, .int .i64 bsec, .string ⟨#[]⟩, .slice none 0 0]) := fr_setRow (Fr.refl _ _) (.inl (by simp)) _
    have B6 := below_fr B5.out F6 (fun q hq => by rw [List.mem_singleton.1 hq]; exact GO.out.2) B5.out.size
    exact ⟨(none, 0), by simp [gRow, dueN, dueT, dueL, h0], fun hh => absurd hh (by simp [dueL]), B6⟩
set_option maxRecDepth 100000 in
set_option maxHeartbeats 2000000 in
theorem due_6 (b : Bt) (w : World) (hin : b.In w) (hk : b.kind = 6) : Calls Tryz.prog 37 #[.agg b.arr2] w (DueOut b w) := by
  obtain ⟨kind, num, bsec, text, ⟨TA, tc, tl⟩⟩ := b
  obtain rfl : kind = 6 := hk
  show Calls Tryz.prog 37 #[.agg #[.int .i64 6, .int .i64 num, .int .i64 bsec, .string text, .slice TA tl.length tc]] w (DueOut ⟨6, num, bsec, text, ⟨TA, tc, tl⟩⟩ w)
  obtain ⟨w3, hw3⟩ : ∃ w3, w3 = ((w.alloc (.cells #[.int .i64 6, .int .i64 num, .int .i64 bsec, .string text, .slice TA tl.length tc] 41)).alloc (.cells zBit 41)).alloc (.cells #[.int .i64 6, .int .i64 num, .int .i64 bsec, .string ⟨#[]⟩, .slice none 0 0] 41) := ⟨_, rfl⟩
  have b3 : Below w.heap.size w w3 := by rw [hw3]; exact Below.alloc (Below.alloc (Below.alloc (Below.refl _ _) (Nat.le_refl _) _) (by simp) _) (by simp; omega) _
  have KB := Lib.hid (show Blk w3 w.heap.size 41 #[.int .i64 6, .int .i64 num, .int .i64 bsec, .string text, .slice TA tl.length tc] from by rw [hw3]; exact ((Blk.new w _ _).alloc _).alloc _)
  obtain ⟨rb, hrb⟩ : ∃ rb, rb = w.heap.size + 1 := ⟨_, rfl⟩
  obtain ⟨ob, hob⟩ : ∃ ob, ob = w.heap.size + 2 := ⟨_, rfl⟩
  have KR := Lib.hid (show Blk w3 rb 41 zBit from by rw [hw3, hrb]; exact (Blk.new1 w _ _ _).alloc _)
  have KO := Lib.hid (show Blk w3 ob 41 #[.int .i64 6, .int .i64 num, .int .i64 bsec, .string ⟨#[]⟩, .slice none 0 0] from by
    rw [hw3, hob]
    have h9 := Blk.new1 (w.alloc (.cells #[.int .i64 6, .int .i64 num, .int .i64 bsec, .string text, .slice TA tl.length tc] 41)) (.cells zBit 41) 41 #[.int .i64 6, .int .i64 num, .int .i64 bsec, .string ⟨#[]⟩, .slice none 0 0]
    simpa using h9)
  have or_ : rb ∉ [ob] := by simp; omega
  have ow : w.heap.size ≠ ob := by omega
  have wo : ob ≠ w.heap.size := by omega
  have GO := Lib.hid (show w.heap.size ≤ ob ∧ w.heap.size ≤ rb from by omega)
  have B3 := Lib.hid b3
  have HI := Lib.hid (show SlR 1 w TA (tl.map strCells) from hin.tx)
  have HW3 := Lib.hid hw3
  have HRB := Lib.hid hrb
  have HOB := Lib.hid hob
  have SZ : (Tryz.prog.info? 41).map (·.size) = some 5 := by kernel_rfl
  have e0 : w3.cell? ⟨w.heap.size, 0, none⟩ = some (.int .i64 6) := KB.out.cell 0
  have e1 : w3.cell? ⟨w.heap.size, 1, none⟩ = some (.int .i64 num) := KB.out.cell 1
  have e2 : w3.cell? ⟨w.heap.size, 2, none⟩ = some (.int .i64 bsec) := KB.out.cell 2
  have e3 : w3.cell? ⟨w.heap.size, 3, none⟩ = some (.string text) := KB.out.cell 3
  have e4 : w3.cell? ⟨w.heap.size, 4, none⟩ = some (.slice TA tl.length tc) := KB.out.cell 4
  have o1 : w3.cell? ⟨ob, 1, none⟩ = some (.int .i64 num) := KO.out.cell 1
  have o3 : w3.cell? ⟨ob, 3, none⟩ = some (.string ⟨#[]⟩) := KO.out.cell 3
  have o4 : w3.cell? ⟨ob, 4, none⟩ = some (.slice none 0 0) := KO.out.cell 4
  have p1 := KO.out.frozen 1
  have p3 := KO.out.frozen 3
  have p4 := KO.out.frozen 4
  clear hw3 hrb hob hin b3
  go_enter Tryz.func37, Tryz.ntmps37
  go_upto_region 2 with fail
  rw [← HW3.out, ← HOB.out, ← HRB.out]
  have a1 : w.heap.size ∉ [ob] := by simpa using ow
  have s1 : (w3.setCell ⟨ob, 1, none⟩ (.int .i64 0)).drew.cell? ⟨w.heap.size, 3, none⟩ = some (.string text) := (((Fr.refl [ob] w3).setCell (.inl (by simp)) _).drew).cell e3 a1
  have s2 : (w3.setCell ⟨ob, 3, none⟩ (.string text)).drew.cell? ⟨w.heap.size, 3, none⟩ = some (.string text) := (((Fr.refl [ob] w3).setCell (.inl (by simp)) _).drew).cell e3 a1
  have s3 : ((w3.setCell ⟨ob, 1, none⟩ (.int .i64 0)).setCell ⟨ob, 3, none⟩ (.string text)).drew.cell? ⟨w.heap.size, 3, none⟩ = some (.string text) := ((((Fr.refl [ob] w3).setCell (.inl (by simp)) _).setCell (.inl (by simp)) _).drew).cell e3 a1
  have s4 : ((w3.setCell ⟨ob, 3, none⟩ (.string text)).setCell ⟨ob, 1, none⟩ (.int .i64 0)).drew.cell? ⟨w.heap.size, 3, none⟩ = some (.string text) := ((((Fr.refl [ob] w3).setCell (.inl (by simp)) _).setCell (.inl (by simp)) _).drew).cell e3 a1
  go_upto_region 8 with fail
  go_region_held3 (fun W => W.cell? ⟨w.heap.size, 3, none⟩ = some (.string text)) (first | exact e3 | exact s1 | exact s2 | exact s3 | exact s4 | go_keep) (fail)
  all_goals
    go_upto_region 11 with fail
    obtain ⟨w5, hw5⟩ : ∃ w5, w5 = ((w3.setCell ⟨ob, 1, none⟩ (.int .i64 0)).setCell ⟨ob, 3, none⟩ (.string text)).drew := ⟨_, rfl⟩
    rw [← hw5]
    have f5 : Fr [ob] w3 w5 := by rw [hw5]; exact (((Fr.refl [ob] w3).setCell (.inl (by simp)) _).setCell (.inl (by simp)) _).drew
    have KO5 : Blk w5 ob 41 #[.int .i64 6, .int .i64 0, .int .i64 bsec, .string text, .slice none 0 0] := by rw [hw5]; exact ((KO.out.set_ 1 _).set_ 3 _).drew
    clear s1 s2 s3 s4 a1
  all_goals
    have K5 := Lib.hid KO5
    have R5 := Lib.hid (KR.out.fr f5 or_)
    have B5 := Lib.hid (below_fr B3.out f5 (fun q hq => by rw [List.mem_singleton.1 hq]; exact GO.out.1) B3.out.size)
    clear f5 KO5 hw5
    go_wp2_with (first | (refine wpList_load_row rfl 41 (.tmp 3) (by rfl) ob (by rfl) 41 _ (0, 0) _ K5.out Tryz.underlying41 rfl SZ ?_) | (refine wpList_store_row rfl 41 (.tmp 2) (.tmp 32) (by rfl) rb #[.int .i64 6, .int .i64 0, .int .i64 bsec, .string text, .slice none 0 0] (by rfl) (by rfl) 41 _ R5.out SZ rfl (by simp [Value.oneCell']) ?_))
    refine bodyPost_ret (v := .agg #[.int .i64 6, .int .i64 0, .int .i64 bsec, .string text, .slice none 0 0]) (results_cell_row rfl _ _ rb 41 _ (0, 0) _ rfl (setRow_heap _ _ _ _ _ _ R5.out) Tryz.underlying41 rfl SZ) rfl ?_
    have F6 : Fr [rb] w5 (w5.setRow rb #[.int .i64 6, .int .i64 0, .int .i64 bsec, .string text, .slice none 0 0]) := fr_setRow (Fr.refl _ _) (.inl (by simp)) _
    have B6 := below_fr B5.out F6 (fun q hq => by rw [List.mem_singleton.1 hq]; exact GO.out.2) B5.out.size
    exact ⟨(none, 0), by rfl, fun hh => absurd hh (by simp [dueL]), B6⟩
set_option maxRecDepth 100000 in
set_option maxHeartbeats 2000000 in
theorem due_7 (b : Bt) (w : World) (hin : b.In w) (hk : b.kind = 7) : Calls Tryz.prog 37 #[.agg b.arr2] w (DueOut b w) := by
  obtain ⟨kind, num, bsec, text, ⟨TA, tc, tl⟩⟩ := b
  obtain rfl : kind = 7 := hk
  show Calls Tryz.prog 37 #[.agg #[.int .i64 7, .int .i64 num, .int .i64 bsec, .string text, .slice TA tl.length tc]] w (DueOut ⟨7, num, bsec, text, ⟨TA, tc, tl⟩⟩ w)
  obtain ⟨w3, hw3⟩ : ∃ w3, w3 = ((w.alloc (.cells #[.int .i64 7, .int .i64 num, .int .i64 bsec, .string text, .slice TA tl.length tc] 41)).alloc (.cells zBit 41)).alloc (.cells #[.int .i64 7, .int .i64 num, .int .i64 bsec, .string ⟨#[]⟩, .slice none 0 0] 41) := ⟨_, rfl⟩
  have b3 : Below w.heap.size w w3 := by rw [hw3]; exact Below.alloc (Below.alloc (Below.alloc (Below.refl _ _) (Nat.le_refl _) _) (by simp) _) (by simp; omega) _
  have KB := Lib.hid (show Blk w3 w.heap.size 41 #[.int .i64 7, .int .i64 num, .int .i64 bsec, .string text, .slice TA tl.length tc] from by rw [hw3]; exact ((Blk.new w _ _).alloc _).alloc _)
  obtain ⟨rb, hrb⟩ : ∃ rb, rb = w.heap.size + 1 := ⟨_, rfl⟩
  obtain ⟨ob, hob⟩ : ∃ ob, ob = w.heap.size + 2 := ⟨_, rfl⟩
  have KR := Lib.hid (show Blk w3 rb 41 zBit from by rw [hw3, hrb]; exact (Blk.new1 w _ _ _).alloc _)
  have KO := Lib.hid (show Blk w3 ob 41 #[.int .i64 7, .int .i64 num, .int .i64 bsec, .string ⟨#[]⟩, .slice none 0 0] from by
    rw [hw3, hob]
    have h9 := Blk.new1 (w.alloc (.cells #[.int .i64 7, .int .i64 num, .int .i64 bsec, .string text, .slice TA tl.length tc] 41)) (.cells zBit 41) 41 #[.int .i64 7, .int .i64 num, .int .i64 bsec, .string ⟨#[]⟩, .slice none 0 0]
    simpa using h9)
  have or_ : rb ∉ [ob] := by simp; omega
  have ow : w.heap.size ≠ ob := by omega
  have wo : ob ≠ w.heap.size := by omega
  have GO := Lib.hid (show w.heap.size ≤ ob ∧ w.heap.size ≤ rb from by omega)
  have B3 := Lib.hid b3
  have HI := Lib.hid (show SlR 1 w TA (tl.map strCells) from hin.tx)
  have HW3 := Lib.hid hw3
  have HRB := Lib.hid hrb
  have HOB := Lib.hid hob
  have SZ : (Tryz.prog.info? 41).map (·.size) = some 5 := by kernel_rfl
  have e0 : w3.cell? ⟨w.heap.size, 0, none⟩ = some (.int .i64 7) := KB.out.cell 0
  have e1 : w3.cell? ⟨w.heap.size, 1, none⟩ = some (.int .i64 num) := KB.out.cell 1
  have e2 : w3.cell? ⟨w.heap.size, 2, none⟩ = some (.int .i64 bsec) := KB.out.cell 2
  have e3 : w3.cell? ⟨w.heap.size, 3, none⟩ = some (.string text) := KB.out.cell 3
  have e4 : w3.cell? ⟨w.heap.size, 4, none⟩ = some (.slice TA tl.length tc) := KB.out.cell 4
  have o1 : w3.cell? ⟨ob, 1, none⟩ = some (.int .i64 num) := KO.out.cell 1
  have o3 : w3.cell? ⟨ob, 3, none⟩ = some (.string ⟨#[]⟩) := KO.out.cell 3
  have o4 : w3.cell? ⟨ob, 4, none⟩ = some (.slice none 0 0) := KO.out.cell 4
  have p1 := KO.out.frozen 1
  have p3 := KO.out.frozen 3
  have p4 := KO.out.frozen 4
  clear hw3 hrb hob hin b3
  go_enter Tryz.func37, Tryz.ntmps37
  go_upto_region 2 with fail
  rw [← HW3.out, ← HOB.out, ← HRB.out]
  have a1 : w.heap.size ∉ [ob] := by simpa using ow
  have s1 : (w3.setCell ⟨ob, 1, none⟩ (.int .i64 0)).drew.cell? ⟨w.heap.size, 4, none⟩ = some (.slice TA tl.length tc) := (((Fr.refl [ob] w3).setCell (.inl (by simp)) _).drew).cell e4 a1
  have s2 : (w3.setCell ⟨ob, 4, none⟩ (.slice TA tl.length tc)).drew.cell? ⟨w.heap.size, 4, none⟩ = some (.slice TA tl.length tc) := (((Fr.refl [ob] w3).setCell (.inl (by simp)) _).drew).cell e4 a1
  have s3 : ((w3.setCell ⟨ob, 1, none⟩ (.int .i64 0)).setCell ⟨ob, 4, none⟩ (.slice TA tl.length tc)).drew.cell? ⟨w.heap.size, 4, none⟩ = some (.slice TA tl.length tc) := ((((Fr.refl [ob] w3).setCell (.inl (by simp)) _).setCell (.inl (by simp)) _).drew).cell e4 a1
  have s4 : ((w3.setCell ⟨ob, 4, none⟩ (.slice TA tl.length tc)).setCell ⟨ob, 1, none⟩ (.int .i64 0)).drew.cell? ⟨w.heap.size, 4, none⟩ = some (.slice TA tl.length tc) := ((((Fr.refl [ob] w3).setCell (.inl (by simp)) _).setCell (.inl (by simp)) _).drew).cell e4 a1
  go_upto_region 10 with fail
  go_region_held3 (fun W => W.cell? ⟨w.heap.size, 4, none⟩ = some (.slice TA tl.length tc)) (first | exact e4 | exact s1 | exact s2 | exact s3 | exact s4 | go_keep) (fail)
  all_goals
    go_upto_region 11 with fail
    obtain ⟨w5, hw5⟩ : ∃ w5, w5 = ((w3.setCell ⟨ob, 1, none⟩ (.int .i64 0)).setCell ⟨ob, 4, none⟩ (.slice TA tl.length tc)).drew := ⟨_, rfl⟩
    rw [← hw5]
    have f5 : Fr [ob] w3 w5 := by rw [hw5]; exact (((Fr.refl [ob] w3).setCell (.inl (by simp)) _).setCell (.inl (by simp)) _).drew
    have KO5 : Blk w5 ob 41 #[.int .i64 7, .int .i64 0, .int .i64 bsec, .string ⟨#[]⟩, .slice TA tl.length tc] := by rw [hw5]; exact ((KO.out.set_ 1 _).set_ 4 _).drew
    clear s1 s2 s3 s4 a1
  all_goals
    have K5 := Lib.hid KO5
    have R5 := Lib.hid (KR.out.fr f5 or_)
    have B5 := Lib.hid (below_fr B3.out f5 (fun q hq => by rw [List.mem_singleton.1 hq]; exact GO.out.1) B3.out.size)
    clear f5 KO5 hw5
    go_wp2_with (first | (refine wpList_load_row rfl 41 (.tmp 3) (by rfl) ob (by rfl) 41 _ (0, 0) _ K5.out Tryz.underlying41 rfl SZ ?_) | (refine wpList_store_row rfl 41 (.tmp 2) (.tmp 32) (by rfl) rb #[.int .i64 7, .int .i64 0, .int .i64 bsec, .string ⟨#[]⟩, .slice TA tl.length tc] (by rfl) (by rfl) 41 _ R5.out SZ rfl (by simp [Value.oneCell']) ?_))
    refine bodyPost_ret (v := .agg #[.int .i64 7, .int .i64 0, .int .i64 bsec, .string ⟨#[]⟩, .slice TA tl.length tc]) (results_cell_row rfl _ _ rb 41 _ (0, 0) _ rfl (setRow_heap _ _ _ _ _ _ R5.out) Tryz.underlying41 rfl SZ) rfl ?_
    have F6 : Fr [rb] w5 (w5.setRow rb #[.int .i64 7, .int .i64 0, .int .i64 bsec, .string ⟨#[]⟩, .slice TA tl.length tc]) := fr_setRow (Fr.refl _ _) (.inl (by simp)) _
    have B6 := below_fr B5.out F6 (fun q hq => by rw [List.mem_singleton.1 hq]; exact GO.out.2) B5.out.size
    exact ⟨(TA, tc), by rfl, HI.out.here B6, B6⟩
set_option maxRecDepth 100000 in
set_option maxHeartbeats 2000000 in
theorem due_k (b : Bt) (w : World) (hin : b.In w) (k0 : b.kind ≠ 0) (k6 : b.kind ≠ 6) (k7 : b.kind ≠ 7) : Calls Tryz.prog 37 #[.agg b.arr2] w (DueOut b w) := by
  obtain ⟨kind, num, bsec, text, ⟨TA, tc, tl⟩⟩ := b
  replace k0 : kind ≠ 0 := k0
  replace k6 : kind ≠ 6 := k6
  replace k7 : kind ≠ 7 := k7
  have c0 : (kind == 0) = false := by simpa using k0
  have c6 : (kind == 6) = false := by simpa using k6
  have c7 : (kind == 7) = false := by simpa using k7
  show Calls Tryz.prog 37 #[.agg #[.int .i64 kind, .int .i64 num, .int .i64 bsec, .string text, .slice TA tl.length tc]] w (DueOut ⟨kind, num, bsec, text, ⟨TA, tc, tl⟩⟩ w)
  obtain ⟨w3, hw3⟩ : ∃ w3, w3 = ((w.alloc (.cells #[.int .i64 kind, .int .i64 num, .int .i64 bsec, .string text, .slice TA tl.length tc] 41)).alloc (.cells zBit 41)).alloc (.cells #[.int .i64 kind, .int .i64 num, .int .i64 bsec, .string ⟨#[]⟩, .slice none 0 0] 41) := ⟨_, rfl⟩
  have b3 : Below w.heap.size w w3 := by rw [hw3]; exact Below.alloc (Below.alloc (Below.alloc (Below.refl _ _) (Nat.le_refl _) _) (by simp) _) (by simp; omega) _
  have KB := Lib.hid (show Blk w3 w.heap.size 41 #[.int .i64 kind, .int .i64 num, .int .i64 bsec, .string text, .slice TA tl.length tc] from by rw [hw3]; exact ((Blk.new w _ _).alloc _).alloc _)
  obtain ⟨rb, hrb⟩ : ∃ rb, rb = w.heap.size + 1 := ⟨_, rfl⟩
  obtain ⟨ob, hob⟩ : ∃ ob, ob = w.heap.size + 2 := ⟨_, rfl⟩
  have KR := Lib.hid (show Blk w3 rb 41 zBit from by rw [hw3, hrb]; exact (Blk.new1 w _ _ _).alloc _)
  have KO := Lib.hid (show Blk w3 ob 41 #[.int .i64 kind, .int .i64 num, .int .i64 bsec, .string ⟨#[]⟩, .slice none 0 0] from by
    rw [hw3, hob]
    have h9 := Blk.new1 (w.alloc (.cells #[.int .i64 kind, .int .i64 num, .int .i64 bsec, .string text, .slice TA tl.length tc] 41)) (.cells zBit 41) 41 #[.int .i64 kind, .int .i64 num, .int .i64 bsec, .string ⟨#[]⟩, .slice none 0 0]
    simpa using h9)
  have or_ : rb ∉ [ob] := by simp; omega
  have ow : w.heap.size ≠ ob := by omega
  have wo : ob ≠ w.heap.size := by omega
  have GO := Lib.hid (show w.heap.size ≤ ob ∧ w.heap.size ≤ rb from by omega)
  have B3 := Lib.hid b3
  have HI := Lib.hid (show SlR 1 w TA (tl.map strCells) from hin.tx)
  have HW3 := Lib.hid hw3
  have HRB := Lib.hid hrb
  have HOB := Lib.hid hob
  have SZ : (Tryz.prog.info? 41).map (·.size) = some 5 := by kernel_rfl
  have e0 : w3.cell? ⟨w.heap.size, 0, none⟩ = some (.int .i64 kind) := KB.out.cell 0
  have e1 : w3.cell? ⟨w.heap.size, 1, none⟩ = some (.int .i64 num) := KB.out.cell 1
  have e2 : w3.cell? ⟨w.heap.size, 2, none⟩ = some (.int .i64 bsec) := KB.out.cell 2
  have e3 : w3.cell? ⟨w.heap.size, 3, none⟩ = some (.string text) := KB.out.cell 3
  have e4 : w3.cell? ⟨w.heap.size, 4, none⟩ = some (.slice TA tl.length tc) := KB.out.cell 4
  have o1 : w3.cell? ⟨ob, 1, none⟩ = some (.int .i64 num) := KO.out.cell 1
  have o3 : w3.cell? ⟨ob, 3, none⟩ = some (.string ⟨#[]⟩) := KO.out.cell 3
  have o4 : w3.cell? ⟨ob, 4, none⟩ = some (.slice none 0 0) := KO.out.cell 4
  have p1 := KO.out.frozen 1
  have p3 := KO.out.frozen 3
  have p4 := KO.out.frozen 4
  clear hw3 hrb hob hin b3
  go_enter Tryz.func37, Tryz.ntmps37
  go_upto_region 2 with fail
  rw [← HW3.out, ← HOB.out, ← HRB.out]
  go_upto_region 11 with fail
  obtain ⟨w5, hw5⟩ : ∃ w5, w5 = w3 := ⟨_, rfl⟩
  rw [← hw5]
  have f5 : Fr [ob] w3 w5 := by rw [hw5]; exact Fr.refl _ _
  have KO5 : Blk w5 ob 41 #[.int .i64 kind, .int .i64 num, .int .i64 bsec, .string ⟨#[]⟩, .slice none 0 0] := by rw [hw5]; exact KO.out
  all_goals
    have K5 := Lib.hid KO5
    have R5 := Lib.hid (KR.out.fr f5 or_)
    have B5 := Lib.hid (below_fr B3.out f5 (fun q hq => by rw [List.mem_singleton.1 hq]; exact GO.out.1) B3.out.size)
    clear f5 KO5 hw5
    go_wp2_with (first | (refine wpList_load_row rfl 41 (.tmp 3) (by rfl) ob (by rfl) 41 _ (0, 0) _ K5.out Tryz.underlying41 rfl SZ ?_) | (refine wpList_store_row rfl 41 (.tmp 2) (.tmp 32) (by rfl) rb #[.int .i64 kind, .int .i64 num, .int .i64 bsec, .string ⟨#[]⟩, .slice none 0 0] (by rfl) (by rfl) 41 _ R5.out SZ rfl (by simp [Value.oneCell']) ?_))
    refine bodyPost_ret (v := .agg #[.int .i64 kind, .int .i64 num, .int .i64 bsec, .string ⟨#[]⟩, .slice none 0 0]) (results_cell_row rfl _ _ rb 41 _ (0, 0) _ rfl (setRow_heap _ _ _ _ _ _ R5.out) Tryz.underlying41 rfl SZ) rfl ?_
    have F6 : Fr [rb] w5 (w5.setRow rb #[.int .i64 kind, .int .i64 num, .int .i64 bsec, .string ⟨#[]⟩, .slice none 0 0]) := fr_setRow (Fr.refl _ _) (.inl (by simp)) _
    have B6 := below_fr B5.out F6 (fun q hq => by rw [List.mem_singleton.1 hq]; exact GO.out.2) B5.out.size
    exact ⟨(none, 0), by simp [gRow, dueN, dueT, dueL, k0, k6, k7], fun hh => absurd hh (by simp [dueL, k7]), B6⟩
theorem due_any (b : Bt) (w : World) (hin : b.In w) : Calls Tryz.prog 37 #[.agg b.arr2] w (DueOut b w) := by
  by_cases k0 : b.kind = 0
  · by_cases h0 : b.num = 0
    · exact due_0a b w hin k0 h0
    · exact due_0b b w hin k0 h0
  by_cases k6 : b.kind = 6
  · exact due_6 b w hin k6
  by_cases k7 : b.kind = 7
  · exact due_7 b w hin k7
  exact due_k b w hin k0 k6 k7
end Go.Proofs.YtedjadicdodahaaGreatDoor

namespace Go.Proofs.YtedjadicdodahaaGreatDoor
open Go.RowKit

set_option maxRecDepth 100000 in
set_option maxHeartbeats 2000000 in
theorem newDecoder_any {pb v : Nat} {s : Bool} {path : ByteArray} {p : Pk} {fp : List UInt8} {sc : Value} {w : World} (h : PkQ pb v s path p fp sc w) (k i : Nat) (hk : k < 10) (hi : i < (p k).length) (hn : (p.elems 10).length ≤ 1000000) (hz : (szs (p.elems 10)).sum ≤ 100000000) (rs : List (Int × Int)) (m : Nat) (hm : m < 128) (ds : List UInt8) (ht : (p k)[i] = str (refsB s rs ++ (sy s m ++ ds))) (hr : ∀ r ∈ rs, (0 ≤ r.1 ∧ r.1 ≤ 2147483647) ∧ (0 ≤ r.2 ∧ r.2 ≤ 2147483647)) (hl : rs.length ≤ 1000000) :
    Calls Tryz.prog 84 #[.pointer (some ⟨pb, 0, none⟩), .int .i32 k, .int .i32 i, .int .i64 m] w fun e w' => ∃ (g P : Nat) (pr : Int), P = (refsB s rs).length + (sy s m).length ∧ e = .returned (.agg (dArr pb (.slice (some ⟨g, 0, none⟩) rs.length rs.length) (p k)[i] P pr k i)) ∧ SlR 2 w' (some ⟨g, 0, none⟩) (rs.map fun r => [.int .i32 r.1, .int .i32 r.2]) ∧ Below w.heap.size w w' := by
  obtain ⟨w0, hw0⟩ : ∃ w0, w0 = w.alloc (.cells dzArr 87) := ⟨_, rfl⟩
  have b0 : Below w.heap.size w w0 := by rw [hw0]; exact Below.alloc (Below.refl _ _) (Nat.le_refl _) _
  have NR := Lib.hid (newDecoderRaw_any (h.here b0) k i hk hi hn hz rs (sy s m ++ ds) ht hr hl)
  have hsz := Pk.at_size hk hi
  have SA := Lib.hid (show Sat (p k)[i] (refsB s rs).length (sy s m) from by rw [ht]; exact Sat.here _ _ _)
  have HSY := Lib.hid (show w.cell? ⟨pb, 1, none⟩ = some (.bool s) from by
    obtain ⟨_, _, hb, _⟩ := h.is
    exact hb.cell 1)
  have zpb : pb < w.heap.size := by
    obtain ⟨_, _, hb, _⟩ := h.is
    exact hb.lt
  obtain ⟨t, ht9⟩ : ∃ t, t = (p k)[i] := ⟨_, rfl⟩
  rw [← ht9] at NR SA hsz ⊢
  have KA := Lib.hid (show Blk w0 w.heap.size 87 dzArr from by rw [hw0]; exact Blk.new _ _ _)
  have B0 := Lib.hid b0
  have HW := Lib.hid hw0
  obtain ⟨n, hn9⟩ : ∃ n, n = rs.length := ⟨_, rfl⟩
  rw [← hn9] at NR ⊢
  have hsz2 : t.size ≤ 1000000000 := by omega
  have m0 : (0 : Int) ≤ m := by omega
  have m1 : (m : Int) < 128 := by omega
  have SZ : (Tryz.prog.info? 87).map (·.size) = some 7 := by kernel_rfl
  clear h hn hz ht hr hl hw0 b0 ht9 hn9 hsz
  go_enter Tryz.func84, Tryz.ntmps84
  go_wp2_with fail
  rw [← HW.out]
  refine NR.out.mono ?_
  rintro e w1 ⟨g, pr, rfl, sl, b1⟩
  obtain ⟨w2, hw2⟩ : ∃ w2, w2 = w1.alloc (.cells (dArr pb (.slice (some ⟨g, 0, none⟩) n n) t ((refsB s rs).length : Nat) pr k i) 87) := ⟨_, rfl⟩
  have b2 : Below w1.heap.size w1 w2 := by rw [hw2]; exact Below.alloc (Below.refl _ _) (Nat.le_refl _) _
  obtain ⟨d, hd⟩ : ∃ d, d = w1.heap.size := ⟨_, rfl⟩
  have kd2 : Blk w2 d 87 (dArr pb (.slice (some ⟨g, 0, none⟩) n n) t ((refsB s rs).length : Nat) pr k i) := by rw [hw2, hd]; exact Blk.new _ _ _
  have B1 := below_from B0.out b1
  have zA := KA.out.lt
  have zB := b1.size
  have B2 := Lib.hid (below_from B1 b2)
  have SL := Lib.hid (sl.here b2)
  have KA2 := Lib.hid ((KA.out.here b1).here b2)
  have D2 := Lib.hid (show Dst pb s d (dR pb (.slice (some ⟨g, 0, none⟩) n n) k i) t (refsB s rs).length w2 from ⟨Rs.of_blk kd2, rfl, keep_cell B2.out HSY.out, by have := B1.size; omega, hsz2⟩)
  have GD := Lib.hid (show w.heap.size < d from by omega)
  have hgd : (∀ q ∈ rs.map (fun r => ([.int .i32 r.1, .int .i32 r.2] : List Value)), True) := fun _ _ => trivial
  have HW2 := Lib.hid hw2
  have HD := Lib.hid hd
  have SG := Lib.hid (show ∀ w', Fr [d] w2 w' → SlR 2 w' (some ⟨g, 0, none⟩) (rs.map fun r => [.int .i32 r.1, .int .i32 r.2]) from fun w' f hn => by
    obtain ⟨b, o, h1, h2⟩ := (sl.here b2) hn
    obtain ⟨b', o', h1', h2'⟩ := sl hn
    refine ⟨b, o, h1, fun j cs hj i u hu => f.cell (h2 j cs hj i u hu) ?_⟩
    have h3 := World.block_lt_of_cell? w1 _ (h2' j cs hj i u hu)
    rw [h1'] at h1
    injection h1 with h1
    injection h1 with h4 h5
    simp only at h3
    simp
    omega)
  have NE := Lib.hid (show 0 < (rs.map (fun r => ([.int .i32 r.1, .int .i32 r.2] : List Value))).length → g ≠ w.heap.size from fun hn e => by
    obtain ⟨b, o, h1, h2⟩ := sl hn
    have h5 := h2 0 [.int .i32 (rs[0]'(by simpa using hn)).1, .int .i32 (rs[0]'(by simpa using hn)).2] (by rw [List.getElem?_map, List.getElem?_eq_getElem (by simpa using hn)]; rfl) 0 _ rfl
    have h6 : w1.cell? ⟨w.heap.size, 0, none⟩ = some (.pointer none) := (KA.out.here b1).cell 0
    injection h1 with h1
    injection h1 with h3 h4
    rw [← h3, ← h4, e] at h5
    have h7 := h6.symm.trans h5
    cases h7)
  clear sl b1 b2 hw2 hd kd2 B1 NR hgd zA zB
  go_wp2_with fail
  rw [← HW2.out, ← HD.out]
  refine (dSync_any D2.out m hm SA.out).mono ?_
  rintro e w3 ⟨rfl, d3, f3⟩
  obtain ⟨P, hP⟩ : ∃ P, P = (refsB s rs).length + (sy s m).length := ⟨_, rfl⟩
  rw [← hP] at d3
  obtain ⟨pr3, kd3⟩ := Rs.blk d3.rs
  have KD3 := Lib.hid kd3
  have KA3 := Lib.hid (KA2.out.fr f3 (by have := GD.out; simp; omega))
  have B3 := Lib.hid (below_fr B2.out f3 (fun q hq => by rw [List.mem_singleton.1 hq]; exact Nat.le_of_lt GD.out) B2.out.size)
  have SL3 := Lib.hid (SG.out w3 f3)
  have HP := Lib.hid hP
  clear d3 f3 kd3 hP
  go_wp2_with (first | (refine wpList_load_row rfl 87 (.tmp 9) (by rfl) d (by rfl) 87 _ (0, 0) _ KD3.out Tryz.underlying87 rfl SZ ?_) | (refine wpList_store_row rfl 87 (.tmp 8) (.tmp 16) (by rfl) w.heap.size (dArr pb (.slice (some ⟨g, 0, none⟩) n n) t P pr3 k i) (by rfl) (by rfl) 87 _ KA3.out SZ rfl (by simp [Value.oneCell']) ?_))
  refine bodyPost_ret (v := .agg (dArr pb (.slice (some ⟨g, 0, none⟩) n n) t P pr3 k i)) (results_cell_row rfl _ _ w.heap.size 87 _ (0, 0) _ rfl (setRow_heap _ _ _ _ _ _ KA3.out) Tryz.underlying87 rfl SZ) rfl ?_
  have F9 : Fr [w.heap.size] w3 (w3.setRow w.heap.size (dArr pb (.slice (some ⟨g, 0, none⟩) n n) t P pr3 k i)) := fr_setRow (Fr.refl _ _) (.inl (by simp)) _
  refine ⟨g, P, pr3, HP.out, rfl, fun hn => ?_, below_fr B3.out F9 (fun q hq => by rw [List.mem_singleton.1 hq]; exact Nat.le_refl _) B3.out.size⟩
  obtain ⟨b, o, h1, h2⟩ := SL3.out hn
  refine ⟨b, o, h1, fun j cs hj i' u hu => F9.cell (h2 j cs hj i' u hu) ?_⟩
  have h8 := NE.out hn
  injection h1 with h1
  injection h1 with h3 h4
  rw [← h3]
  simpa using h8
set_option maxRecDepth 100000 in
theorem readerLen_any {T : TypeId} {R : Nat → Option Value} {b q : Nat} {t : ByteArray} {i : Nat} {w : World} (h : Rs T R b q t i w) (hi : i = t.size) (ht : t.size ≤ 1000000000) :
    Calls Tryz.prog 82 #[.pointer (some ⟨b, q, none⟩)] w (RetQ (.int .i64 0) w) := by
  obtain ⟨pr, h3⟩ := h
  have c0 := h3.c0
  have c1 := h3.c1
  rw [hi] at c1
  have i0 : (0 : Int) ≤ t.size := by omega
  have i1 : (t.size : Int) ≤ 1000000000 := by omega
  clear h3 hi ht
  go_enter Tryz.func82, Tryz.ntmps82
  go_wp2_with fail
  go_quiet (fail)
  go_wp2_with fail
  go_ret
  exact ⟨rfl, _, rfl⟩
theorem Rd5.mono {B0 B1 : Nat} {bl : List Bt} {A : Option Addr} {w : World} (h : Rd5 B0 bl A w) (hb : B1 ≤ B0) : Rd5 B1 bl A w := by
  obtain ⟨xs, h1, h2, h3, h4⟩ := h.is
  refine ⟨xs, h1, h2, fun a ha => Nat.le_trans hb (h3 a ha), fun q b x hq hx => ⟨(h4 q b x hq hx).sl, fun hn => ?_⟩⟩
  obtain ⟨g, o, e1, h5, h6, h7⟩ := (h4 q b x hq hx).at_ hn
  exact ⟨g, o, e1, Nat.le_trans hb h5, h6, h7⟩
/-- What Unpack leaves. -/
def UnOut (bl : List Bt) (w : World) (e : Ending) (w' : World) : Prop := ∃ A3 c3, e = .returned (.tuple #[.slice A3 bl.length c3, .int .i64 0]) ∧ Rd5 w.heap.size bl A3 w' ∧ Below w.heap.size w w'
set_option maxRecDepth 100000 in
set_option maxHeartbeats 4000000 in
theorem unpack_any {t : ByteArray} {v : Nat} {s : Bool} {p : Pk} {fp : List UInt8} {w : World} (path : ByteArray) (hT : PkT t v s p fp) (hG : Gv w) (k i m : Nat) (hk : k < 10) (hi : i < (p k).length) (hi2 : i ≤ 1000000) (BA : Option Addr) (bc : Nat) (bl : List Bt) (hx : El.Ok ⟨k, m, ⟨BA, bc, bl⟩⟩) (hin : El.In w ⟨k, m, ⟨BA, bc, bl⟩⟩) (q : Pk) (ht : (p k)[i] = str ((El.es s ⟨k, m, ⟨BA, bc, bl⟩⟩ q).bytes s)) (hr : (El.es s ⟨k, m, ⟨BA, bc, bl⟩⟩ q).Ref) (hl : (El.es s ⟨k, m, ⟨BA, bc, bl⟩⟩ q).rs.length ≤ 1000000) (hss : (El.es s ⟨k, m, ⟨BA, bc, bl⟩⟩ q).ss <+: p 0) :
    Calls Tryz.prog 35 #[.string path, .string t, .int .i64 i, .agg #[.int .i64 k, .int .i64 m, .slice BA bl.length bc], .bool false] w (UnOut bl w) := by
  have hmk := hx.mark
  have hm : m < 128 := by simp only at hmk; omega
  have hsz := Pk.at_size hk hi
  obtain ⟨rs, hrs⟩ : ∃ rs, rs = (El.es s ⟨k, m, ⟨BA, bc, bl⟩⟩ q).rs := ⟨_, rfl⟩
  obtain ⟨e0, he0⟩ : ∃ e0 : Es, e0 = ⟨q 0, [], sy s m⟩ := ⟨_, rfl⟩
  have hE : El.es s ⟨k, m, ⟨BA, bc, bl⟩⟩ q = e0.bits s bl := by rw [he0]; rfl
  have ht2 : (p k)[i] = str (refsB s rs ++ (sy s m ++ bitsD s bl e0)) := by
    rw [ht, el_bytes, hrs, he0]
    rfl
  have hbl : bl.length ≤ 60 := hx.len
  have HBL := Lib.hid (show ∀ b ∈ bl, b.Ok from hx.bits)
  have HRS := Lib.hid (show (e0.bits s bl).rs <+: rs ∧ (e0.bits s bl).ss <+: p 0 from ⟨by rw [hrs, hE]; exact List.prefix_refl _, by rw [← hE]; exact hss⟩)
  have HIN := Lib.hid (show SlR 5 w BA (bl.map Bt.cells) from hin.bits.l)
  obtain ⟨w0, hw0⟩ : ∃ w0, w0 = w.alloc (.cells #[.int .i64 k, .int .i64 m, .slice BA bl.length bc] 24) := ⟨_, rfl⟩
  have b0 : Below w.heap.size w w0 := by rw [hw0]; exact Below.alloc (Below.refl _ _) (Nat.le_refl _) _
  have KE := Lib.hid (show Blk w0 w.heap.size 24 #[.int .i64 k, .int .i64 m, .slice BA bl.length bc] from by rw [hw0]; exact Blk.new _ _ _)
  have ND := Lib.hid (newPkgDecoder_any path t v s p fp w0 hT.eq hT.fp8 hT.ver hT.syn hT.one hT.cnt hT.siz (hG.here b0).i (hG.here b0).r)
  have NR := Lib.hid (fun (W : World) (pb : Nat) (sc : Value) (h : PkQ pb v s path p fp sc W) => newDecoder_any h k i hk hi hT.cnt hT.siz rs m hm (bitsD s bl e0) ht2 (by rw [hrs]; exact hr) (by rw [hrs]; exact hl))
  obtain ⟨tt, htt⟩ : ∃ tt, tt = (p k)[i] := ⟨_, rfl⟩
  rw [← htt] at NR ht2 hsz
  have SA := Lib.hid (show Sat tt ((refsB s rs).length + (sy s m).length) (bitsD s bl e0) from by
    rw [ht2, ← List.length_append, ← List.append_assoc]
    have h9 := Sat.here (refsB s rs ++ sy s m) (bitsD s bl e0) []
    rw [List.append_nil] at h9
    exact h9)
  have HE := Lib.hid (show (refsB s rs).length + (sy s m).length + (bitsD s bl e0).length = tt.size from by
    rw [ht2, str_size]
    simp only [List.length_append]
    omega)
  have HT := Lib.hid hT
  have HRL := Lib.hid (show rs.length ≤ 1000000 from by rw [hrs]; exact hl)
  have HW0 := Lib.hid hw0
  have B0 := Lib.hid b0
  have k0 : (0 : Int) ≤ k := by omega
  have k1 : (k : Int) < 10 := by omega
  have hk32 : IntKind.i32.wrap (k : Int) = k := by rw [IntKind.wrap_i32]; omega
  have hi32 : IntKind.i32.wrap (i : Int) = i := by rw [IntKind.wrap_i32]; omega
  have m0 : (0 : Int) ≤ m := by omega
  have m1 : (m : Int) < 128 := by omega
  have hsz2 : tt.size ≤ 1000000000 := by have := hT.siz; omega
  clear hT hG ht hr hl hss hx hin hrs hE he0 ht2 htt hw0 b0 hsz hmk
  go_enter Tryz.func35, Tryz.ntmps35
  go_wp2_with fail
  rw [← HW0.out]
  refine ND.out.mono ?_
  rintro e w1 ⟨g, c, rfl, hc, _, hcl, b1⟩
  obtain ⟨w2, hw2⟩ : ∃ w2, w2 = w1.alloc (.cells (rdArr v s path (str (p.data ++ fp)) (.slice (some ⟨g, 0, none⟩) (p.elems 10).length c) (fun k => (p.elems (k + 1)).length) (.slice none 0 0)) 81) := ⟨_, rfl⟩
  have P1 := PkQ.new (v := v) (s := s) (path := path) (fp := fp) hc hcl HT.out.one
  rw [← hw2] at P1
  obtain ⟨pb, hpb⟩ : ∃ pb, pb = w1.heap.size := ⟨_, rfl⟩
  rw [← hpb] at P1
  have PD := Lib.hid P1
  have B1 := below_from B0.out b1
  have B2 := Lib.hid (show Below w.heap.size w w2 from by rw [hw2]; exact B1.alloc B1.size _)
  have KE2 := Lib.hid (show Blk w2 w.heap.size 24 #[.int .i64 k, .int .i64 m, .slice BA bl.length bc] from by rw [hw2]; exact (KE.out.here b1).alloc _)
  have HW2 := Lib.hid hw2
  have HPB := Lib.hid hpb
  have e0' : w2.cell? ⟨w.heap.size, 0, none⟩ = some (.int .i64 k) := KE2.out.cell 0
  have e1' : w2.cell? ⟨w.heap.size, 1, none⟩ = some (.int .i64 m) := KE2.out.cell 1
  clear hc hcl b1 ND P1 hw2 hpb B1
  go_upto_region 2 with fail
  rw [← HW2.out, ← HPB.out]
  go_quiet (fail)
  go_wp2_with fail
  refine (NR.out (w2.drewN nq) pb _ (PD.out.here (below_drewN (Below.refl _ _) nq))).mono ?_
  rintro e w3 ⟨g3, P, pr3, hP, rfl, s3, b3⟩
  rw [← hP] at SA HE
  obtain ⟨w4, hw4⟩ : ∃ w4, w4 = w3.alloc (.cells (dArr pb (.slice (some ⟨g3, 0, none⟩) rs.length rs.length) tt P pr3 k i) 87) := ⟨_, rfl⟩
  have b4 : Below w3.heap.size w3 w4 := by rw [hw4]; exact Below.alloc (Below.refl _ _) (Nat.le_refl _) _
  obtain ⟨d, hd⟩ : ∃ d, d = w3.heap.size := ⟨_, rfl⟩
  have B3 := below_from (below_drewN B2.out nq) b3
  have P3 := (PD.out.here (below_drewN (Below.refl _ _) nq)).here b3
  have DB := Lib.hid (show Dbs w3 pb v s path p fp (.slice none 0 0) (some ⟨g3, 0, none⟩) rs from ⟨P3, HT.out.cnt, HT.out.siz, s3, HRL.out⟩)
  have kd4 : Blk w4 d 87 (dArr pb (.slice (some ⟨g3, 0, none⟩) rs.length rs.length) tt P pr3 k i) := by rw [hw4, hd]; exact Blk.new _ _ _
  have hsy : w4.cell? ⟨pb, 1, none⟩ = some (.bool s) := by
    obtain ⟨_, _, hb, _⟩ := (P3.here b4).is
    exact hb.cell 1
  have hpd : pb ≠ d := by
    obtain ⟨_, _, hb, _⟩ := P3.is
    have := hb.lt
    omega
  have D4 := Lib.hid (show Dst pb s d (dR pb (.slice (some ⟨g3, 0, none⟩) rs.length rs.length) k i) tt P w4 from ⟨Rs.of_blk kd4, rfl, hsy, hpd, hsz2⟩)
  have B4 := Lib.hid (below_from B3 b4)
  have KE4 := Lib.hid (((KE2.out.drewN nq).here b3).here b4)
  have RA := Lib.hid (readAll_any DB.out D4.out b4 (by omega) rs.length rfl BA bc bl (HIN.out.here B3) HBL.out hbl e0 HRS.out.1 HRS.out.2 SA.out)
  have HW4 := Lib.hid hw4
  have HD := Lib.hid hd
  have DZ := Lib.hid (show w.heap.size ≤ d ∧ w.heap.size ≤ w4.heap.size from ⟨by rw [hd]; exact B3.size, (below_from B3 b4).size⟩)
  have e2' : w4.cell? ⟨w.heap.size, 2, none⟩ = some (.slice BA bl.length bc) := KE4.out.cell 2
  clear hP s3 b3 b4 hw4 hd B3 P3 kd4 hsy e0' e1'
  go_upto_region 9 with fail
  rw [← HW4.out, ← HD.out]
  go_wp2_with fail
  refine RA.out.mono ?_
  rintro e w5 ⟨A3, c3, rfl, r5, d5, f5⟩
  have R5 := Lib.hid r5
  have D5 := Lib.hid d5
  have B5 := Lib.hid (below_fr B4.out f5 (fun q hq => by rw [List.mem_singleton.1 hq]; exact DZ.out.1) B4.out.size)
  clear r5 d5 f5
  go_wp2_with fail
  refine (readerLen_any D5.out.rs HE.out hsz2).mono ?_
  rintro e w6 ⟨rfl, n6, rfl⟩
  go_wp2_with fail
  go_returns
  exact ⟨A3, c3, rfl, (R5.out.mono DZ.out.2).here (below_drewN (Below.refl _ _) n6), below_drewN B5.out n6⟩
end Go.Proofs.YtedjadicdodahaaGreatDoor

namespace Go.Proofs.YtedjadicdodahaaGreatDoor
open Go.RowKit

theorem dueL_len {b : Bt} (h : b.Ok) : (dueL b).length ≤ 1000000 := by
  have h1 := h.texts.1
  unfold dueL
  split
  · omega
  · simp
set_option maxRecDepth 100000 in
set_option maxHeartbeats 4000000 in
theorem readsAs_any (path t : ByteArray) (i : Int) (sec mark : Int) (BA : Option Addr) (bc : Nat) (bl : List Bt) (temp : Bool) (w : World) (hin : El.In w ⟨sec, mark, ⟨BA, bc, bl⟩⟩) (hx : El.Ok ⟨sec, mark, ⟨BA, bc, bl⟩⟩) (U : ∀ W, Below w.heap.size w W → Calls Tryz.prog 35 #[.string path, .string t, .int .i64 i, .agg #[.int .i64 sec, .int .i64 mark, .slice BA bl.length bc], .bool temp] W (UnOut bl W)) :
    Calls Tryz.prog 15 #[.string path, .string t, .int .i64 i, .agg #[.int .i64 sec, .int .i64 mark, .slice BA bl.length bc], .bool temp] w (RetV (.bool true) w) := by
  obtain ⟨w0, hw0⟩ : ∃ w0, w0 = w.alloc (.cells #[.int .i64 sec, .int .i64 mark, .slice BA bl.length bc] 24) := ⟨_, rfl⟩
  have b0 : Below w.heap.size w w0 := by rw [hw0]; exact Below.alloc (Below.refl _ _) (Nat.le_refl _) _
  have KE := Lib.hid (show Blk w0 w.heap.size 24 #[.int .i64 sec, .int .i64 mark, .slice BA bl.length bc] from by rw [hw0]; exact Blk.new _ _ _)
  obtain ⟨n, hn9⟩ : ∃ n, n = bl.length := ⟨_, rfl⟩
  have HN := Lib.hid hn9
  have hl60 : bl.length ≤ 60 := hx.len
  have n0 : (0 : Int) ≤ n := by omega
  have n1 : (n : Int) ≤ 60 := by omega
  have UU := Lib.hid (U w0 b0)
  have HI := Lib.hid (hin.here b0)
  have HO := Lib.hid (show ∀ b ∈ bl, b.Ok from hx.bits)
  have HW0 := Lib.hid hw0
  have B0 := Lib.hid b0
  rw [← hn9] at KE UU HW0 ⊢
  clear hin hx U hw0 b0 hn9 hl60
  go_enter Tryz.func15, Tryz.ntmps15
  go_wp2_with fail
  rw [← HW0.out]
  have e0 := KE.out.cell 0
  have e1 := KE.out.cell 1
  have e2 := KE.out.cell 2
  go_wp2_with fail
  refine UU.out.mono ?_
  rintro e w1 ⟨A3, c3, rfl, r5, b1⟩
  rw [← HN.out]
  have B1 := Lib.hid (below_from B0.out b1)
  have R5 := Lib.hid r5
  have HI1 := Lib.hid (HI.out.here b1)
  have f2 : w1.cell? ⟨w.heap.size, 2, none⟩ = some (.slice BA n bc) := (KE.out.here b1).cell 2
  clear b1 r5 e0 e1 e2 UU
  go_wp2_with fail
  go_loopw [13, 14, 37] (fun _ _ x wr => ∃ j : Nat, j ≤ n ∧ x = .int .i64 j ∧ Below w1.heap.size w1 wr) (fun _ _ x _ => n - (intOf x).toNat)
  case atStart => exact ⟨0, by omega, rfl, Below.refl _ _⟩
  case round =>
    obtain ⟨j, hj, rfl, hb⟩ := hrel
    have HB := Lib.hid hb
    have zb := hb.size
    by_cases hlt : j < n
    · have hjl : j < bl.length := by rw [← HN.out]; exact hlt
      have OK := Lib.hid (HO.out bl[j] (List.getElem_mem hjl))
      have IN := Lib.hid ((HI1.out.here hb).bits.sub bl[j] (List.getElem_mem hjl))
      obtain ⟨xs, hxl, sl3, _, xok⟩ := (R5.out.here hb).is
      have hjx : j < xs.length := by rw [hxl]; exact hjl
      obtain ⟨g, o, hA, hc⟩ := sl3 (by rw [List.length_zipWith]; omega)
      have hz : (List.zipWith gRow bl xs)[j]? = some (gRow bl[j] xs[j]) := by
        rw [List.getElem?_zipWith, List.getElem?_eq_getElem hjl, List.getElem?_eq_getElem hjx]
      have XO := Lib.hid (xok j bl[j] xs[j] (List.getElem?_eq_getElem hjl) (List.getElem?_eq_getElem hjx)).sl
      obtain ⟨g2, o2, hA2, hc2⟩ := SlR.at_ (HI1.out.here hb).bits.l j hjl
      have p0 := hc j _ hz 0 _ rfl
      have p1 := hc j _ hz 1 _ rfl
      have p2 := hc j _ hz 2 _ rfl
      have p3 := hc j _ hz 3 _ rfl
      have p4 := hc j _ hz 4 _ rfl
      have q0 := hc2 0 _ rfl
      have q1 := hc2 1 _ rfl
      have q2 := hc2 2 _ rfl
      have q3 := hc2 3 _ rfl
      have q4 := hc2 4 _ rfl
      rw [Nat.add_zero] at p0 q0
      replace hA2 : BA = some ⟨g2, o2, none⟩ := hA2
      have HA2 := Lib.hid hA2
      have HA3 := Lib.hid hA
      obtain ⟨x, hx⟩ : ∃ x, x = xs[j] := ⟨_, rfl⟩
      obtain ⟨b, hb9⟩ : ∃ b, b = bl[j] := ⟨_, rfl⟩
      rw [← hx] at XO p4
      rw [← hb9] at XO OK IN p0 p1 p2 p3 p4 q0 q1 q2 q3 q4
      obtain ⟨wb, hwb⟩ : ∃ wb, wb = wr.alloc (.cells b.arr2 41) := ⟨_, rfl⟩
      have bb : Below wr.heap.size wr wb := by rw [hwb]; exact Below.alloc (Below.refl _ _) (Nat.le_refl _) _
      have KB := Lib.hid (show Blk wb wr.heap.size 41 b.arr2 from by rw [hwb]; exact Blk.new _ _ _)
      have DU := Lib.hid (due_any b wb.drew ((IN.out.here bb).here (Below.drew (Below.refl _ _))))
      have BW := Lib.hid (HB.out.trans (bb.mono zb))
      have XB := Lib.hid (XO.out.here bb)
      have HWB := Lib.hid hwb
      have s0 : wb.drew.cell? ⟨g, o + j * 5, none⟩ = some (.int .i64 b.kind) := keep_cell bb p0
      have s1 : wb.drew.cell? ⟨g, o + j * 5 + 1, none⟩ = some (.int .i64 (dueN b)) := keep_cell bb p1
      have s2 : wb.drew.cell? ⟨g, o + j * 5 + 2, none⟩ = some (.int .i64 b.sec) := keep_cell bb p2
      have s3 : wb.drew.cell? ⟨g, o + j * 5 + 3, none⟩ = some (.string (dueT b)) := keep_cell bb p3
      have s4 : wb.drew.cell? ⟨g, o + j * 5 + 4, none⟩ = some (.slice x.1 (dueL b).length x.2) := keep_cell bb p4
      have t0 : wb.drew.cell? ⟨wr.heap.size, 0, none⟩ = some (.int .i64 b.kind) := KB.out.cell 0
      have t1 : wb.drew.cell? ⟨wr.heap.size, 1, none⟩ = some (.int .i64 b.num) := KB.out.cell 1
      have t2 : wb.drew.cell? ⟨wr.heap.size, 2, none⟩ = some (.int .i64 b.sec) := KB.out.cell 2
      have t3 : wb.drew.cell? ⟨wr.heap.size, 3, none⟩ = some (.string b.text) := KB.out.cell 3
      have t4 : wb.drew.cell? ⟨wr.heap.size, 4, none⟩ = some (.slice b.texts.A b.texts.l.length b.texts.c) := KB.out.cell 4
      have j0 : (0 : Int) ≤ j := by omega
      have j1 : (j : Int) < n := by omega
      subst hA hA2
      obtain ⟨wz, hwz⟩ : ∃ wz, wz = wr.heap.size := ⟨_, rfl⟩
      have HWZ := Lib.hid hwz
      rw [← hwz] at t0 t1 t2 t3 t4
      clear hb hx hb9 hc hc2 hz xok sl3 bb hwb p0 p1 p2 p3 p4 hwz zb
      go_upto_region 7 with fail
      rw [← HWB.out, ← HWZ.out]
      go_region_held3 (fun W => (W.cell? ⟨g, o + j * 5, none⟩ = some (.int .i64 b.kind) ∧ W.cell? ⟨g, o + j * 5 + 1, none⟩ = some (.int .i64 (dueN b)) ∧ W.cell? ⟨g, o + j * 5 + 2, none⟩ = some (.int .i64 b.sec) ∧ W.cell? ⟨g, o + j * 5 + 3, none⟩ = some (.string (dueT b)) ∧ W.cell? ⟨g, o + j * 5 + 4, none⟩ = some (.slice x.1 (dueL b).length x.2)) ∧ W.cell? ⟨wz, 0, none⟩ = some (.int .i64 b.kind) ∧ W.cell? ⟨wz, 1, none⟩ = some (.int .i64 b.num) ∧ W.cell? ⟨wz, 2, none⟩ = some (.int .i64 b.sec) ∧ W.cell? ⟨wz, 3, none⟩ = some (.string b.text) ∧ W.cell? ⟨wz, 4, none⟩ = some (.slice b.texts.A b.texts.l.length b.texts.c)) (first | exact ⟨⟨s0, s1, s2, s3, s4⟩, t0, t1, t2, t3, t4⟩ | exact U7.out | exact U8.out | go_keep)
        (first
          | (go_at_call 37; refine DU.out.mono ?_; rintro e7 w7 ⟨y, rfl, sy, b7⟩; have SY := Lib.hid sy; have X7 := Lib.hid ((XB.out.here (Below.drew (Below.refl _ _))).here b7); have B7 := Lib.hid b7; have U7 := Lib.hid (And.intro (And.intro (keep_cell b7 s0) (And.intro (keep_cell b7 s1) (And.intro (keep_cell b7 s2) (And.intro (keep_cell b7 s3) (keep_cell b7 s4))))) (And.intro (keep_cell b7 t0) (And.intro (keep_cell b7 t1) (And.intro (keep_cell b7 t2) (And.intro (keep_cell b7 t3) (keep_cell b7 t4)))))); clear sy b7)
          | (go_at_call 36; refine (show Calls Tryz.prog 36 #[.agg #[.int .i64 b.kind, .int .i64 (dueN b), .int .i64 b.sec, .string (dueT b), .slice x.1 (dueL b).length x.2], .agg (gRow b y).toArray] w7 (RetV (.bool true) w7) from sameBit_any b x y w7 X7.out SY.out (dueL_len OK.out)).mono ?_; rintro e8 w8 ⟨rfl, b8⟩; have B8 := Lib.hid b8; have U8 := Lib.hid (And.intro (And.intro (keep_cell b8 U7.out.1.1) (And.intro (keep_cell b8 U7.out.1.2.1) (And.intro (keep_cell b8 U7.out.1.2.2.1) (And.intro (keep_cell b8 U7.out.1.2.2.2.1) (keep_cell b8 U7.out.1.2.2.2.2))))) (And.intro (keep_cell b8 U7.out.2.1) (And.intro (keep_cell b8 U7.out.2.2.1) (And.intro (keep_cell b8 U7.out.2.2.2.1) (And.intro (keep_cell b8 U7.out.2.2.2.2.1) (keep_cell b8 U7.out.2.2.2.2.2)))))); clear b8))
      all_goals
        have B9 := Lib.hid (BW.out.trans ((((Below.drew (Below.refl wb.heap.size wb)).trans B7.out).trans (B8.out.mono (by have := B7.out.size; exact this))).mono BW.out.size))
        clear s0 s1 s2 s3 s4 t0 t1 t2 t3 t4
        go_wp2_with fail
        go_roundw
        case rel => exact ⟨j + 1, by omega, by go_num, B9.out⟩
        case measure => simp [intOf]; omega
    · clear hb
      go_wp2_with fail
      go_returns
      exact ⟨rfl, B1.out.trans (HB.out.mono B1.out.size)⟩
end Go.Proofs.YtedjadicdodahaaGreatDoor
