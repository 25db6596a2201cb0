/- An inlined call read again; the law. -/
import Derived.Test.YtnbojmciolecgaaDoorInlB
import Derived.Test.YtnbojmciolecgaaDoorArgs
namespace Go.Proofs.YtnbojmciolecgaaDoor
open Go.RowKit

set_option maxHeartbeats 1000000 in
theorem inlinedRead_any (A : Option Addr) (len cap : Nat) (a f l p y c : Int) (ys : List Int) (w : World) (hd : SlI .u8 w A (nodeBytes a f l p y c ++ ys)) (hl : len = 24 + ys.length) (hy : ys.length < 1000000)
    (a0 : -2147483648 ≤ a) (a1 : a < 2147483648) (f0 : 0 ≤ f) (f1 : f < 4294967296) (l0 : -2147483648 ≤ l) (l1 : l < 2147483648) (p0 : 0 ≤ p) (p1 : p < 4294967296) (y0 : 0 ≤ y) (y1 : y < 4294967296) (c0 : -2147483648 ≤ c) (c1 : c < 2147483648) :
    Calls Tryd.prog 24 #[.slice A len cap] w fun e w' => ∃ B cb, e = .returned (.tuple #[nodeVal a f l p y c, .slice B ys.length cb]) ∧ SlI .u8 w' B ys ∧ Below w.heap.size w w' := by
  obtain ⟨i0, hi, hz0, hz1, hz2⟩ := info_parts Tryd.infoU8
  have hbw : Below w.heap.size w (((w.alloc (.cells (nodeCells 0 0 0 0 0 0) 43)).alloc (.cells (nodeCells 0 0 0 0 0 0) 94)).alloc (.cells #[] 5)) := by (repeat' (first | (with_reducible exact Below.refl _ _) | (with_reducible assumption) | (with_reducible refine below_drewN ?_ _) | (with_reducible refine Below.alloc ?_ ?_ _) | (with_reducible refine Below.drew ?_) | (with_reducible refine Below.setCell ?_ ?_ _) | go_size))
  have hn0 : Blk (((w.alloc (.cells (nodeCells 0 0 0 0 0 0) 43)).alloc (.cells (nodeCells 0 0 0 0 0 0) 94)).alloc (.cells #[] 5)) (w.heap.size + 1) _ _ := (Blk.new1 w _ _ _).alloc _
  have hr0 : Blk (((w.alloc (.cells (nodeCells 0 0 0 0 0 0) 43)).alloc (.cells (nodeCells 0 0 0 0 0 0) 94)).alloc (.cells #[] 5)) w.heap.size _ _ := ((Blk.new w _ _).alloc _).alloc _
  have HD := Lib.hid (hd.here hbw)
  have HL := Lib.hid hl
  have HN := Lib.hid hn0
  have HR := Lib.hid hr0
  clear hd hl hn0 hr0
  have ho : (((w.alloc (.cells (nodeCells 0 0 0 0 0 0) 43)).alloc (.cells (nodeCells 0 0 0 0 0 0) 94)).alloc (.cells #[] 5)).ownsRow (w.heap.size + 2) 5 1 (.slice (some ⟨w.heap.size + 2, 0, none⟩) 0 0) 0 [] := by
    have h := World.ownsRow_made (e := 5) (size := 1) ((w.alloc (.cells (nodeCells 0 0 0 0 0 0) 43)).alloc (.cells (nodeCells 0 0 0 0 0 0) 94)) #[] 0 (Nat.le_refl _) (by simp) (by simp)
    simpa using h
  have HO := Lib.hid ho
  have HBW := Lib.hid hbw
  clear ho hbw
  go_enter Tryd.func24, Tryd.ntmps24
  go_wp2_with (at_builtin; refine wpList_append_src rfl _ _ 29 rfl (w.heap.size + 2) 5 i0 _ 1 1 Tryd.underlying29 hi hz0 hz1 hz2 rfl (by decide) _ 0 _ rfl HO.out A len cap ((nodeBytes a f l p y c ++ ys).map (Value.int .u8)) rfl (by have := HL.out; simp [nodeBytes_length]; omega) (fun h => sli_src HD.out (by simp [nodeBytes_length]; omega)) (bcs_one _) (by have := HL.out; unfold maxLen; omega) (by have := HL.out; omega) (by simp) ?_; intro v' w1 hown' hgrow)
  have hb1 := below_own (B := w.heap.size + 2) (Below.refl _ _) HO.out hgrow (by simp)
  have N1 := HN.out.below hb1 (by omega)
  have R1 := Lib.hid (HR.out.below hb1 (by omega))
  have B1 := Lib.hid (HBW.out.trans (hb1.mono (by omega)))
  obtain ⟨A1, cc, rfl, hlen, hcap, hs1⟩ := SlI.of_own (xs := nodeBytes a f l p y c ++ ys) (by simpa using hown')
  obtain ⟨g, og, rfl, hcells⟩ := hs1 (by simp [nodeBytes_length]; omega)
  have hgl := hown'.lt g rfl
  refine (inlRead_any (w.heap.size + 1) g og _ cc _ _ a f l p y c ys w1 N1 rfl (by omega) (by have := HL.out; omega) (by have := HL.out; omega) hcells hgl.2 a0 a1 f0 f1 l0 l1 p0 p1 y0 y1 c0 c1).mono ?_
  rintro e w2 ⟨rfl, D2, N2, F2⟩
  have hc2 := N2.cell
  have R2 := Lib.hid (R1.out.fr F2 (by simp))
  have gl2 : g < w2.heap.size := Nat.lt_of_lt_of_le hgl.2 F2.size
  have gne : w.heap.size + 2 ≤ g := hgl.1
  have B2 := Lib.hid (B1.out.trans ⟨F2.os, F2.tape, F2.output, F2.size, fun k hk => F2.block k (Nat.lt_of_lt_of_le hk B1.out.size) (by simp; omega)⟩ : Below w.heap.size w w2)
  have DD := Lib.hid D2
  clear hown' hgrow hb1 N1 R1 B1 hs1 hcells hgl D2 F2 N2 HO HN HR HBW HD hlen hcap
  go_wp2_with fail
  refine (toldNode_any a f l p y c w2).mono ?_
  rintro e w3 ⟨rfl, hb3⟩
  have R3 := R2.out.here hb3
  have hrc := R3.cell
  have hrf := R3.frozen
  have B3 := below_from B2.out hb3
  clear hc2
  go_wp2_with fail
  have hz := B3.size
  have hz3 := R3.lt
  refine bodyPost_ret (v := .tuple #[nodeVal a f l p y c, .slice (some ⟨g, cut24 og cc, none⟩) ys.length (cc - 24)]) (by simp [results, Tryd.results24, go_sem, hrc]) rfl ⟨_, _, rfl, fun _ => ⟨g, cut24 og cc, rfl, DD.out.heap ?_⟩, by (repeat' (first | (with_reducible exact Below.refl _ _) | (with_reducible assumption) | (with_reducible refine below_drewN ?_ _) | (with_reducible refine Below.alloc ?_ ?_ _) | (with_reducible refine Below.drew ?_) | (with_reducible refine Below.setCell ?_ ?_ _) | go_size))⟩
  rw [Below.heap_setCell _ _ _ _ (by simp; omega), Below.heap_setCell _ _ _ _ (by simp; omega), Below.heap_setCell _ _ _ _ (by simp; omega), Below.heap_setCell _ _ _ _ (by simp; omega), Below.heap_setCell _ _ _ _ (by simp; omega), Below.heap_setCell _ _ _ _ (by simp; omega)]
  exact hb3.block g gl2

set_option maxHeartbeats 1000000 in
theorem fnInlined_walk (a f l p y c : Int) (A : Option Addr) (len cap : Nat) (w : World) (ba : -2147483648 ≤ a ∧ a < 2147483648) (bf : 0 ≤ f ∧ f < 4294967296) (bl : -2147483648 ≤ l ∧ l < 2147483648) (bp : 0 ≤ p ∧ p < 4294967296) (bq : 0 ≤ y ∧ y < 4294967296) (bc : -2147483648 ≤ c ∧ c < 2147483648)
    (rest : List Int) (hl : len = rest.length) (hs : SlI .u8 w A rest) (hcap : len ≤ cap) :
    Calls Tryd.prog 6 #[nodeVal a f l p y c, .slice A len cap] w (LawEnd w) := by
  have bx : Blk (w.alloc (.cells (nodeCells a f l p y c) 43)) w.heap.size _ _ := Blk.new w _ _
  have hbw : Below w.heap.size w (w.alloc (.cells (nodeCells a f l p y c) 43)) := by (repeat' (first | (with_reducible exact Below.refl _ _) | (with_reducible assumption) | (with_reducible refine below_drewN ?_ _) | (with_reducible refine Below.alloc ?_ ?_ _) | (with_reducible refine Below.drew ?_) | (with_reducible refine Below.setCell ?_ ?_ _) | go_size))
  have HBW := Lib.hid hbw
  have HS := Lib.hid (hs.here hbw)
  subst hl
  have HL := Lib.hid (rfl : rest.length = rest.length)
  have HX := Lib.hid bx
  clear hs bx hbw
  have e0 : (0 : Int) ≤ rest.length := by omega
  by_cases h1 : rest.length ≤ 200
  · have h1' : (rest.length : Int) ≤ 200 := by omega
    go_enter Tryd.func6, Tryd.ntmps6
    go_wp2_with fail
    refine (inlinedImpl_any a f l p y c _ bf.1 bf.2 bp.1 bp.2 bq.1 bq.2).mono ?_
    rintro e w1 ⟨A1, c1, rfl, s1, k1, hb1⟩
    have S1 := Lib.hid s1
    have X1 := Lib.hid (HX.out.here hb1)
    have R1 := Lib.hid (HS.out.here hb1)
    have B1 := Lib.hid (below_from HBW.out hb1)
    clear s1 hb1 HX HS HBW
    go_wp2_with fail
    refine (joined_B _ _ [nodeBytes a f l p y c, rest] _ (by have h := slS_new w1 29 [(A1, c1, nodeBytes a f l p y c), (A, cap, rest)] (by simp only [List.forall_mem_cons]; exact ⟨⟨S1.out, k1⟩, ⟨R1.out, by have := HL.out; omega⟩, by simp⟩); exact h) (by simp) (by simp [nodeBytes_length]; omega)).mono ?_
    rintro e w2 ⟨A2, c2, rfl, s2, k2, hb2⟩
    have hb12 := below_from (later_alloc w1 _) hb2
    have S2 := Lib.hid (S1.out.here hb12)
    have X2 := Lib.hid (X1.out.here hb12)
    have R2 := Lib.hid (R1.out.here hb12)
    have B2 := Lib.hid (below_from B1.out hb12)
    have hf : [nodeBytes a f l p y c, rest].flatten = nodeBytes a f l p y c ++ rest := by simp
    rw [hf] at s2 k2 ⊢
    have D2 := Lib.hid s2
    clear s2 hb12 hb2 S1 X1 R1 B1 hf
    go_wp2_with fail
    refine (inlinedRead_any A2 _ c2 a f l p y c rest w2 D2.out (by simp [nodeBytes_length]) (by have := HL.out; omega) ba.1 ba.2 bf.1 bf.2 bl.1 bl.2 bp.1 bp.2 bq.1 bq.2 bc.1 bc.2).mono ?_
    rintro e w3 ⟨A3, c3, rfl, s3, hb3⟩
    have S3 := Lib.hid (S2.out.here hb3)
    have X3 := Lib.hid (X2.out.here hb3)
    have R3 := Lib.hid (R2.out.here hb3)
    have B3 := Lib.hid (below_from B2.out hb3)
    have D3 := Lib.hid s3
    have hx3 := X3.out.cell
    have hx3l := X3.out.lt
    clear s3 hb3 S2 X2 R2 B2 D2
    go_wp2_with fail
    have hsp := inlinedBytes_any a f l p y c (w3.alloc (.cells (nodeCells a f l p y c) 43))
    rw [nodeBytes_eq] at hsp
    refine hsp.mono ?_
    rintro e w4 ⟨A4, c4, rfl, s4, k4, hb4⟩
    have hb34 := below_from (later_alloc w3 _) hb4
    have Y4 := (Blk.new w3 43 (nodeCells a f l p y c)).here hb4
    have X4 := X3.out.here hb34
    have hy4 := Y4.cell
    have hx4 := X4.cell
    have S4 := Lib.hid (S3.out.here hb34)
    have R4 := Lib.hid (R3.out.here hb34)
    have D4 := Lib.hid (D3.out.here hb34)
    have B4 := Lib.hid (below_from B3.out hb34)
    have T4 := Lib.hid s4
    clear s4 hb4 hb34 hx3 hsp S3 X3 R3 B3 D3
    go_wp2_with fail
    refine (sameBytes_any A1 A4 c1 c4 (nodeBytes a f l p y c) w4 S4.out T4.out (by simp [nodeBytes_length, maxLen])).mono ?_
    rintro e w5 ⟨rfl, n5, rfl⟩
    go_wp2_with fail
    refine (sameBytes_any A3 A c3 cap rest (w4.drewN n5) (D4.out.heap rfl) (R4.out.heap rfl) (by unfold maxLen; omega)).mono ?_
    rintro e w6 ⟨rfl, n6, rfl⟩
    go_wp2_with fail
    go_returns
    exact ⟨by simp, below_drewN B4.out (n5 + n6)⟩
  · have h1' : (200 : Int) < (rest.length : Int) := by omega
    go_enter Tryd.func6, Tryd.ntmps6
    go_wp2_with fail
    all_goals (go_returns; exact ⟨rfl, HBW.out⟩)

theorem fnInlined_any {H : Type} {enc : TypeId × Value → H} (a f l p y c : Int) (A : Option Addr) (len cap : Nat) (w : World) (ba : -2147483648 ≤ a ∧ a < 2147483648) (bf : 0 ≤ f ∧ f < 4294967296) (bl : -2147483648 ≤ l ∧ l < 2147483648) (bp : 0 ≤ p ∧ p < 4294967296) (bq : 0 ≤ y ∧ y < 4294967296) (bc : -2147483648 ≤ c ∧ c < 2147483648)
    (h : Rd enc Tryd.prog w 29 [.slice A len cap]) : Calls Tryd.prog 6 #[nodeVal a f l p y c, .slice A len cap] w (LawEnd w) := by
  obtain ⟨xs, h1, h2, h3, _⟩ := Rd.ints Tryd.underlying29 Tryd.underlying5 (by kernel_rfl) h
  exact fnInlined_walk a f l p y c A len cap w ba bf bl bp bq bc xs h1 h2 h3
end Go.Proofs.YtnbojmciolecgaaDoor
