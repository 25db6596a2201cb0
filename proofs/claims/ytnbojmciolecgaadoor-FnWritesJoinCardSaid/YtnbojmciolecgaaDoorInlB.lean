/- Inlined calls: as the package has them, told, as bytes. -/
import Derived.Test.YtnbojmciolecgaaDoorInl
import Derived.Test.YtnbojmciolecgaaDoorHas
namespace Go.Proofs.YtnbojmciolecgaaDoor
open Go.RowKit

abbrev nodeVal (a f l p y c : Int) : Value := .agg #[.int .i32 a, .int .u32 f, .int .i32 l, .int .u32 p, .int .u32 y, .int .i32 c]
abbrev nodeCells (a f l p y c : Int) : Array Value := #[.int .i32 a, .int .u32 f, .int .i32 l, .int .u32 p, .int .u32 y, .int .i32 c]

set_option maxHeartbeats 400000 in
theorem node_any (a f l p y c : Int) (w : World) : Calls Tryd.prog 50 #[nodeVal a f l p y c] w (RetV (nodeVal a f l p y c) w) := by
  unfold nodeVal
  go_enter Tryd.func50, Tryd.ntmps50
  go_wp2_with fail
  go_region_held3 (fun w' => w'.cell? ⟨w.heap.size, 0, none⟩ = some (.int .i32 a) ∧ w'.cell? ⟨w.heap.size, 1, none⟩ = some (.int .u32 f) ∧ w'.cell? ⟨w.heap.size, 2, none⟩ = some (.int .i32 l) ∧ w'.cell? ⟨w.heap.size, 3, none⟩ = some (.int .u32 p) ∧ w'.cell? ⟨w.heap.size, 4, none⟩ = some (.int .u32 y) ∧ w'.cell? ⟨w.heap.size, 5, none⟩ = some (.int .i32 c))
    (first | go_keep | (go_split_ands; refine ⟨?_, ?_, ?_, ?_, ?_, ?_⟩ <;> (refine keep_cell hb1 ?_; first | assumption | (simp [go_sem]; done))))
    (first | (go_at_call 76; refine (ref_any p y _).mono ?_; rintro e w1 ⟨rfl, hb1⟩; have r := (Blk.new1 w _ _ _).drew.here hb1; have hrc := r.cell; have hrf := r.frozen; have hz : w.heap.size + 1 < w1.heap.size := r.lt; have hB := Lib.hid (below_from (by (repeat' (first | (with_reducible exact Below.refl _ _) | (with_reducible assumption) | (with_reducible refine below_drewN ?_ _) | (with_reducible refine Below.alloc ?_ ?_ _) | (with_reducible refine Below.drew ?_) | (with_reducible refine Below.setCell ?_ ?_ _) | go_size))) hb1 : Below w.heap.size w w1)))
  go_wp2_with fail
  have hB := hB.out
  exact bodyPost_ret (v := nodeVal a f l p y c) (by simp [results, Tryd.results50, go_sem, hrc]) rfl ⟨rfl, by (repeat' (first | (with_reducible exact Below.refl _ _) | (with_reducible assumption) | (with_reducible refine below_drewN ?_ _) | (with_reducible refine Below.alloc ?_ ?_ _) | (with_reducible refine Below.drew ?_) | (with_reducible refine Below.setCell ?_ ?_ _) | go_size))⟩

set_option maxHeartbeats 400000 in
theorem toldNode_any (a f l p y c : Int) (w : World) : Calls Tryd.prog 53 #[nodeVal a f l p y c] w (RetV (nodeVal a f l p y c) w) := by
  unfold nodeVal
  go_enter Tryd.func53, Tryd.ntmps53
  go_wp2_with fail
  go_region_held3 (fun w' => w'.cell? ⟨w.heap.size, 0, none⟩ = some (.int .i32 a) ∧ w'.cell? ⟨w.heap.size, 1, none⟩ = some (.int .u32 f) ∧ w'.cell? ⟨w.heap.size, 2, none⟩ = some (.int .i32 l) ∧ w'.cell? ⟨w.heap.size, 3, none⟩ = some (.int .u32 p) ∧ w'.cell? ⟨w.heap.size, 4, none⟩ = some (.int .u32 y) ∧ w'.cell? ⟨w.heap.size, 5, none⟩ = some (.int .i32 c))
    (first | go_keep | (go_split_ands; refine ⟨?_, ?_, ?_, ?_, ?_, ?_⟩ <;> (refine keep_cell hb1 ?_; first | assumption | (simp [go_sem]; done))))
    (first | (go_at_call 72; refine (told_any p y _).mono ?_; rintro e w1 ⟨rfl, hb1⟩; have r := (Blk.new1 w _ _ _).drew.here hb1; have hrc := r.cell; have hrf := r.frozen; have hz : w.heap.size + 1 < w1.heap.size := r.lt; have hB := Lib.hid (below_from (by (repeat' (first | (with_reducible exact Below.refl _ _) | (with_reducible assumption) | (with_reducible refine below_drewN ?_ _) | (with_reducible refine Below.alloc ?_ ?_ _) | (with_reducible refine Below.drew ?_) | (with_reducible refine Below.setCell ?_ ?_ _) | go_size))) hb1 : Below w.heap.size w w1)))
  go_wp2_with fail
  have hB := hB.out
  exact bodyPost_ret (v := nodeVal a f l p y c) (by simp [results, Tryd.results53, go_sem, hrc]) rfl ⟨rfl, by (repeat' (first | (with_reducible exact Below.refl _ _) | (with_reducible assumption) | (with_reducible refine below_drewN ?_ _) | (with_reducible refine Below.alloc ?_ ?_ _) | (with_reducible refine Below.drew ?_) | (with_reducible refine Below.setCell ?_ ?_ _) | go_size))⟩

/-- The bytes as spec has them. -/
theorem nodeBytes_eq (a f l p y c : Int) : leN 4 a ++ (leN 4 f ++ (leN 4 l ++ ((leN 4 p ++ leN 4 y) ++ leN 4 c))) = nodeBytes a f l p y c := by
  simp only [leN4, nodeBytes, le4, List.append_assoc]

set_option maxHeartbeats 400000 in
theorem inlinedImpl_any (a f l p y c : Int) (w : World) (f0 : 0 ≤ f) (f1 : f < 4294967296) (p0 : 0 ≤ p) (p1 : p < 4294967296) (y0 : 0 ≤ y) (y1 : y < 4294967296) :
    Calls Tryd.prog 23 #[nodeVal a f l p y c] w (RetB (nodeBytes a f l p y c) w) := by
  unfold nodeVal
  have hx : Blk ((w.alloc (.cells #[.int .i32 a, .int .u32 f, .int .i32 l, .int .u32 p, .int .u32 y, .int .i32 c] 43)).alloc (.cells #[.slice none 0 0, .int .i64 0, .int .i8 0] 78)) (w.heap.size + 1) _ _ := Blk.new1 w _ _ _
  have hbw : Below w.heap.size w ((w.alloc (.cells #[.int .i32 a, .int .u32 f, .int .i32 l, .int .u32 p, .int .u32 y, .int .i32 c] 43)).alloc (.cells #[.slice none 0 0, .int .i64 0, .int .i8 0] 78)) := by (repeat' (first | (with_reducible exact Below.refl _ _) | (with_reducible assumption) | (with_reducible refine below_drewN ?_ _) | (with_reducible refine Below.alloc ?_ ?_ _) | (with_reducible refine Below.drew ?_) | (with_reducible refine Below.setCell ?_ ?_ _) | go_size))
  go_enter Tryd.func23, Tryd.ntmps23
  go_wp2_with fail
  refine (node_any a f l p y c _).mono ?_
  rintro e w1 ⟨rfl, hb1⟩
  have hx1 := hx.here hb1
  have hB1 := Lib.hid (below_from hbw hb1)
  have lt1 := hx1.lt
  clear hx hbw hb1
  go_wp2_with fail
  have hx2 := hx1.alloc (.cells (nodeCells a f l p y c) 94)
  have hbuf := isBuf_new (B := w.heap.size) (by omega) hx2
  have hnb : Blk (w1.alloc (.cells (nodeCells a f l p y c) 94)) w1.heap.size _ _ := Blk.new w1 _ _
  have hcn := hnb.cell
  have hB2 := Lib.hid (below_from hB1.out (Below.alloc (Below.refl _ _) (Nat.le_refl _) (.cells (nodeCells a f l p y c) 94)))
  refine (inlWrite_any w.heap.size (w.heap.size + 1) w1.heap.size 0 _ [] a f l p y c _ hbuf hB2.out.size hnb (fun cs fz h => by injection h with _ h2 _; exact absurd h2 (by decide)) (by omega) (hcn 0) (hcn 1) (hcn 2) (hcn 3) (hcn 4) (hcn 5) f0 f1 p0 p1 y0 y1 (by simp)).mono ?_
  rintro e w3 ⟨rfl, h3, hf3⟩
  have hB3 := Lib.hid (Below.trans hB2.out ⟨hf3.os, hf3.tape, hf3.output, hf3.size, hf3.low⟩ : Below w.heap.size w w3)
  clear hbuf hnb hcn hx1 hx2 hf3 hB2 lt1 hB1
  go_wp2_with fail
  refine (buffer_Bytes w.heap.size (w.heap.size + 1) _ w3 h3).mono ?_
  rintro e w4 ⟨A, c_, rfl, h1, h2, n, rfl⟩
  clear h3
  go_wp2_with fail
  go_ret
  exact ⟨A, c_, by simp, by simpa using h1, by simpa using h2, below_drewN hB3.out n⟩

theorem Fr.more {gs hs : List Nat} {w w' : World} (h : Fr gs w w') (hs' : ∀ k ∈ gs, k ∈ hs) : Fr hs w w' := ⟨h.os, h.tape, h.output, h.size, fun k hk hn => h.block k hk (fun hm => hn (hs' k hm))⟩
/-- Where a slice begins when its first four are cut off (one without room keeps its address). -/
def cut4 (o c : Nat) : Nat := if c = 4 then o else o + 4
theorem At.cut {w : World} {g o n c : Nat} {v : Int} {ys : List Int} (h : At w g o (le4 v ++ ys)) (hn : n = 4 + ys.length) (hc : n ≤ c) : At w g (cut4 o c) ys := by
  unfold cut4
  split
  · have hy : ys = [] := List.eq_nil_of_length_eq_zero (by omega)
    subst hy
    intro j z hz
    simp at hz
  · exact h.right
theorem inlGet_any (q g o n c : Nat) (t : TypeId) (v : Int) (ys : List Int) (w : World) (hq : Blk w q t #[.slice (some ⟨g, o, none⟩) n c]) (hl : 4 ≤ n) (hc : n ≤ c) (hd : At w g o (le4 v ++ ys)) :
    Calls Tryd.prog 87 #[.pointer (some ⟨q, 0, none⟩)] w fun e w' => e = .returned (.int .u32 (v % 4294967296)) ∧ Blk w' q t #[.slice (some ⟨g, cut4 o c, none⟩) (n - 4) (c - 4)] ∧ Fr [q] w w' := by
  have e0 : w.cell? ⟨q, 0, none⟩ = some (.slice (some ⟨g, o, none⟩) n c) := (hq.cell 0).trans rfl
  have ef := hq.frozen 0
  have hr := Lib.hid (hq.set_ 0 (.slice (some ⟨g, cut4 o c, none⟩) (n - 4) (c - 4)))
  have k0 := hd 0 _ rfl
  have k1 := hd 1 _ rfl
  have k2 := hd 2 _ rfl
  have k3 := hd 3 _ rfl
  have H := Lib.hid (le32_at g o n c v w hl k0 k1 k2 k3)
  clear hd k0 k1 k2 k3 hq
  by_cases h4 : c = 4
  · subst h4
    obtain rfl : n = 4 := by omega
    rw [show cut4 o 4 = o from rfl] at hr ⊢
    go_enter Tryd.func87, Tryd.ntmps87
    go_wp2_with fail
    refine H.out.mono ?_
    rintro e w1 ⟨rfl, m, rfl⟩
    go_wp2_with fail
    go_ret
    have hr' : Blk _ q t _ := hr.out
    simp only [List.setIfInBounds_toArray, List.set_cons_zero] at hr'
    exact ⟨rfl, hr', by (repeat' (first | (with_reducible exact Fr.refl _ _) | (with_reducible assumption) | (with_reducible refine Fr.drewN ?_ _) | (with_reducible refine Fr.alloc ?_ _) | (with_reducible refine Fr.drew ?_) | (with_reducible refine Fr.setCell ?_ (.inl (by simp)) _) | (with_reducible refine Fr.setCell ?_ (.inr ?_) _) | go_size))⟩
  · rw [show cut4 o c = o + 4 from if_neg h4] at hr ⊢
    go_enter Tryd.func87, Tryd.ntmps87
    go_wp2_with fail
    refine H.out.mono ?_
    rintro e w1 ⟨rfl, m, rfl⟩
    go_wp2_with fail
    go_ret
    have hr' : Blk _ q t _ := hr.out
    simp only [List.setIfInBounds_toArray, List.set_cons_zero] at hr'
    exact ⟨rfl, hr', by (repeat' (first | (with_reducible exact Fr.refl _ _) | (with_reducible assumption) | (with_reducible refine Fr.drewN ?_ _) | (with_reducible refine Fr.alloc ?_ _) | (with_reducible refine Fr.drew ?_) | (with_reducible refine Fr.setCell ?_ (.inl (by simp)) _) | (with_reducible refine Fr.setCell ?_ (.inr ?_) _) | go_size))⟩

theorem set6 (cs : Array Value) (h : cs.size = 6) (a f l p y c : Value) : (((((cs.setIfInBounds 0 a).setIfInBounds 1 f).setIfInBounds 2 l).setIfInBounds 3 p).setIfInBounds 4 y).setIfInBounds 5 c = #[a, f, l, p, y, c] := by
  obtain ⟨z0, z1, z2, z3, z4, z5, rfl⟩ : ∃ z0 z1 z2 z3 z4 z5, cs = #[z0, z1, z2, z3, z4, z5] := by
    obtain ⟨l⟩ := cs
    match l, h with
    | [z0, z1, z2, z3, z4, z5], _ => exact ⟨z0, z1, z2, z3, z4, z5, rfl⟩
  simp
theorem wrap32_back' (a : Int) (a0 : -2147483648 ≤ a) (a1 : a < 2147483648) : wrap32 (a % 4294967296) = a := by unfold wrap32; omega
/-- The 24 bytes off. -/
def cut24 (o c : Nat) : Nat := cut4 (cut4 (cut4 (cut4 (cut4 (cut4 o c) (c - 4)) (c - 4 - 4)) (c - 4 - 4 - 4)) (c - 4 - 4 - 4 - 4)) (c - 4 - 4 - 4 - 4 - 4)
set_option maxHeartbeats 1000000 in
theorem inlRead_any (nb g o len cap : Nat) (t : TypeId) (cs : Array Value) (a f l p y c : Int) (ys : List Int) (w : World) (hn : Blk w nb t cs) (hsz : cs.size = 6) (hne : g ≠ nb) (hl : len = 24 + ys.length) (hc : len ≤ cap) (hd : At w g o (nodeBytes a f l p y c ++ ys)) (hg : g < w.heap.size)
    (a0 : -2147483648 ≤ a) (a1 : a < 2147483648) (f0 : 0 ≤ f) (f1 : f < 4294967296) (l0 : -2147483648 ≤ l) (l1 : l < 2147483648) (p0 : 0 ≤ p) (p1 : p < 4294967296) (y0 : 0 ≤ y) (y1 : y < 4294967296) (c0 : -2147483648 ≤ c) (c1 : c < 2147483648) :
    Calls Tryd.prog 52 #[.pointer (some ⟨nb, 0, none⟩), .slice (some ⟨g, o, none⟩) len cap] w fun e w' => e = .returned (.slice (some ⟨g, cut24 o cap, none⟩) ys.length (cap - 24)) ∧ At w' g (cut24 o cap) ys ∧ Blk w' nb t (nodeCells a f l p y c) ∧ Fr [nb] w w' := by
  have hd0 : At w g o (le4 a ++ (le4 f ++ (le4 l ++ (le4 p ++ (le4 y ++ (le4 c ++ ys)))))) := by simpa [nodeBytes] using hd
  have nlt := hn.lt
  have q0 : Blk (w.alloc (.cells #[.slice (some ⟨g, o, none⟩) len cap] 29)) w.heap.size _ _ := Blk.new w _ _
  have HL := Lib.hid hl
  clear hl
  go_enter Tryd.func52, Tryd.ntmps52
  go_wp2_with fail
  have hgz : g < (w.alloc (.cells #[.slice (some ⟨g, o, none⟩) len cap] 29)).heap.size := by simp; omega
  have d0 : At (w.alloc (.cells #[.slice (some ⟨g, o, none⟩) len cap] 29)) g o _ := hd0.heap (Below.heap_alloc w _ g hg)
  have n0 := hn.alloc (.cells #[.slice (some ⟨g, o, none⟩) len cap] 29)
  refine (inlGet_any w.heap.size g _ _ _ _ a _ _ q0 (by have := HL.out; omega) (by omega) d0).mono ?_
  rintro e w1 ⟨rfl, q1, f1⟩
  have n1 := n0.fr f1 (by simp; omega)
  have d1 := (d0.cut (n := len) (c := cap) (by have := HL.out; first | omega | (simp only [List.length_append, le4_length]; omega)) (by have := HL.out; omega)).heap (f1.block g hgz (by simp; omega))
  obtain ⟨x1, cx1⟩ := cell_in n1 (i := 0) (by simp [hsz])
  have fn1 := n1.frozen
  have m1 := n1.set_ 0 (.int .i32 (wrap32 (a % 4294967296)))
  have Q1 := q1.far (p := ⟨nb, 0, none⟩) (by simp; omega) (.int .i32 (wrap32 (a % 4294967296)))
  have D1 := d1.heap (Below.heap_setCell _ ⟨nb, 0, none⟩ (.int .i32 (wrap32 (a % 4294967296))) g hne)
  have F1 := ((Fr.refl [nb, w.heap.size] _).trans1 (f1.more (by simp))).setCell (p := ⟨nb, 0, none⟩) (.inl (by simp)) (.int .i32 (wrap32 (a % 4294967296)))
  have g1 : g < (w1.setCell ⟨nb, 0, none⟩ (.int .i32 (wrap32 (a % 4294967296)))).heap.size := by simp [World.setCell]; exact Nat.lt_of_lt_of_le hgz f1.size
  clear q0 d0 n0 n1 q1 d1 f1
  go_wp2_with fail
  clear cx1 fn1
  refine (inlGet_any w.heap.size g _ _ _ _ f _ _ Q1 (by have := HL.out; omega) (by omega) D1).mono ?_
  rintro e w2 ⟨rfl, q2, f2⟩
  have n2 := m1.fr f2 (by simp; omega)
  have d2 := (D1.cut (n := len - 4) (c := cap - 4) (by have := HL.out; first | omega | (simp only [List.length_append, le4_length]; omega)) (by have := HL.out; omega)).heap (f2.block g g1 (by simp; omega))
  obtain ⟨x2, cx2⟩ := cell_in n2 (i := 1) (by simp [hsz])
  have fn2 := n2.frozen
  have m2 := n2.set_ 1 (.int .u32 (f % 4294967296))
  have Q2 := q2.far (p := ⟨nb, 1, none⟩) (by simp; omega) (.int .u32 (f % 4294967296))
  have D2 := d2.heap (Below.heap_setCell _ ⟨nb, 1, none⟩ (.int .u32 (f % 4294967296)) g hne)
  have F2 := (F1.trans1 (f2.more (by simp))).setCell (p := ⟨nb, 1, none⟩) (.inl (by simp)) (.int .u32 (f % 4294967296))
  have g2 : g < (w2.setCell ⟨nb, 1, none⟩ (.int .u32 (f % 4294967296))).heap.size := by simp [World.setCell]; exact Nat.lt_of_lt_of_le g1 f2.size
  clear Q1 D1 m1 n2 q2 d2 f2
  go_wp2_with fail
  clear cx2 fn2
  refine (inlGet_any w.heap.size g _ _ _ _ l _ _ Q2 (by have := HL.out; omega) (by omega) D2).mono ?_
  rintro e w3 ⟨rfl, q3, f3⟩
  have n3 := m2.fr f3 (by simp; omega)
  have d3 := (D2.cut (n := len - 4 - 4) (c := cap - 4 - 4) (by have := HL.out; first | omega | (simp only [List.length_append, le4_length]; omega)) (by have := HL.out; omega)).heap (f3.block g g2 (by simp; omega))
  obtain ⟨x3, cx3⟩ := cell_in n3 (i := 2) (by simp [hsz])
  have fn3 := n3.frozen
  have m3 := n3.set_ 2 (.int .i32 (wrap32 (l % 4294967296)))
  have Q3 := q3.far (p := ⟨nb, 2, none⟩) (by simp; omega) (.int .i32 (wrap32 (l % 4294967296)))
  have D3 := d3.heap (Below.heap_setCell _ ⟨nb, 2, none⟩ (.int .i32 (wrap32 (l % 4294967296))) g hne)
  have F3 := (F2.trans1 (f3.more (by simp))).setCell (p := ⟨nb, 2, none⟩) (.inl (by simp)) (.int .i32 (wrap32 (l % 4294967296)))
  have g3 : g < (w3.setCell ⟨nb, 2, none⟩ (.int .i32 (wrap32 (l % 4294967296)))).heap.size := by simp [World.setCell]; exact Nat.lt_of_lt_of_le g2 f3.size
  clear Q2 D2 m2 n3 q3 d3 f3
  go_wp2_with fail
  clear cx3 fn3
  refine (inlGet_any w.heap.size g _ _ _ _ p _ _ Q3 (by have := HL.out; omega) (by omega) D3).mono ?_
  rintro e w4 ⟨rfl, q4, f4⟩
  have n4 := m3.fr f4 (by simp; omega)
  have d4 := (D3.cut (n := len - 4 - 4 - 4) (c := cap - 4 - 4 - 4) (by have := HL.out; first | omega | (simp only [List.length_append, le4_length]; omega)) (by have := HL.out; omega)).heap (f4.block g g3 (by simp; omega))
  have g4 : g < w4.heap.size := Nat.lt_of_lt_of_le g3 f4.size
  have F4 := F3.trans1 (f4.more (by simp))
  clear Q3 D3 m3 f4
  go_wp2_with fail
  refine (inlGet_any w.heap.size g _ _ _ _ y _ _ q4 (by have := HL.out; omega) (by omega) d4).mono ?_
  rintro e w5 ⟨rfl, q5, f5⟩
  have n5 := n4.fr f5 (by simp; omega)
  have d5 := (d4.cut (n := len - 4 - 4 - 4 - 4) (c := cap - 4 - 4 - 4 - 4) (by have := HL.out; first | omega | (simp only [List.length_append, le4_length]; omega)) (by have := HL.out; omega)).heap (f5.block g g4 (by simp; omega))
  obtain ⟨x5, cx5⟩ := cell_in n5 (i := 3) (by simp [hsz])
  obtain ⟨x5', cx5'⟩ := cell_in n5 (i := 4) (by simp [hsz])
  have fn5 := n5.frozen
  have m5 := (n5.set_ 3 (.int .u32 (p % 4294967296))).set_ 4 (.int .u32 (y % 4294967296))
  have Q5 := (q5.far (p := ⟨nb, 3, none⟩) (by simp; omega) (.int .u32 (p % 4294967296))).far (p := ⟨nb, 4, none⟩) (by simp; omega) (.int .u32 (y % 4294967296))
  have D5 := (d5.heap (Below.heap_setCell _ ⟨nb, 3, none⟩ (.int .u32 (p % 4294967296)) g hne)).heap (Below.heap_setCell _ ⟨nb, 4, none⟩ (.int .u32 (y % 4294967296)) g hne)
  have F5 := ((F4.trans1 (f5.more (by simp))).setCell (p := ⟨nb, 3, none⟩) (.inl (by simp)) (.int .u32 (p % 4294967296))).setCell (p := ⟨nb, 4, none⟩) (.inl (by simp)) (.int .u32 (y % 4294967296))
  have g5 : g < ((w5.setCell ⟨nb, 3, none⟩ (.int .u32 (p % 4294967296))).setCell ⟨nb, 4, none⟩ (.int .u32 (y % 4294967296))).heap.size := by simp [World.setCell]; exact Nat.lt_of_lt_of_le g4 f5.size
  clear q4 d4 n4 n5 q5 d5 f5
  go_wp2_with fail
  clear cx5 fn5
  clear cx5'
  refine (inlGet_any w.heap.size g _ _ _ _ c _ _ Q5 (by have := HL.out; omega) (by omega) D5).mono ?_
  rintro e w6 ⟨rfl, q6, f6⟩
  have n6 := m5.fr f6 (by simp; omega)
  have d6 := (D5.cut (n := len - 4 - 4 - 4 - 4 - 4) (c := cap - 4 - 4 - 4 - 4 - 4) (by have := HL.out; first | omega | (simp only [List.length_append, le4_length]; omega)) (by have := HL.out; omega)).heap (f6.block g g5 (by simp; omega))
  obtain ⟨x6, cx6⟩ := cell_in n6 (i := 5) (by simp [hsz])
  have fn6 := n6.frozen
  have m6 := n6.set_ 5 (.int .i32 (wrap32 (c % 4294967296)))
  have Q6 := q6.far (p := ⟨nb, 5, none⟩) (by simp; omega) (.int .i32 (wrap32 (c % 4294967296)))
  have D6 := d6.heap (Below.heap_setCell _ ⟨nb, 5, none⟩ (.int .i32 (wrap32 (c % 4294967296))) g hne)
  have F6 := (F5.trans1 (f6.more (by simp))).setCell (p := ⟨nb, 5, none⟩) (.inl (by simp)) (.int .i32 (wrap32 (c % 4294967296)))
  have g6 : g < (w6.setCell ⟨nb, 5, none⟩ (.int .i32 (wrap32 (c % 4294967296)))).heap.size := by simp [World.setCell]; exact Nat.lt_of_lt_of_le g5 f6.size
  have e6 := (Q6.cell 0).trans rfl
  clear Q5 D5 m5 n6 q6 d6 f6
  go_wp2_with fail
  go_ret
  have hcs : ∀ x : Array Value, x = #[.int .i32 (wrap32 (a % 4294967296)), .int .u32 (f % 4294967296), .int .i32 (wrap32 (l % 4294967296)), .int .u32 (p % 4294967296), .int .u32 (y % 4294967296), .int .i32 (wrap32 (c % 4294967296))] → x = nodeCells a f l p y c := by
    rintro x rfl
    rw [wrap32_back' a a0 a1, wrap32_back' l l0 l1, wrap32_back' c c0 c1, show f % 4294967296 = f from by omega, show p % 4294967296 = p from by omega, show y % 4294967296 = y from by omega]
  rw [set6 cs hsz, hcs _ rfl] at m6
  refine ⟨?_, D6, m6, ⟨F6.os, F6.tape, F6.output, Nat.le_trans (by simp) F6.size, fun k hk hn => (F6.block k (by simp; omega) (by simp only [List.mem_cons, List.not_mem_nil, or_false] at hn ⊢; omega)).trans (Below.heap_alloc w _ k hk)⟩⟩
  have := HL.out
  rw [show len - 4 - 4 - 4 - 4 - 4 - 4 = ys.length from by omega, show cap - 4 - 4 - 4 - 4 - 4 - 4 = cap - 24 from by omega]
  rfl
end Go.Proofs.YtnbojmciolecgaaDoor
