/- What is known of a function, written. -/
import Derived.Test.YtnbojmciolecgaaDoorFun
namespace Go.Proofs.YtnbojmciolecgaaDoor
open Go.RowKit

set_option maxRecDepth 4000 in
set_option maxHeartbeats 2000000 in
theorem funWrite_any (B b r base : Nat) (args locals id flag line : Int) (files : List Int) (tree : List Nd) (FA TA : Option Addr) (fc tc : Nat) (w : World) (h : IsBuf B b [] w) (hB : B ≤ w.heap.size)
    (hr : Blk w r 105 #[.int .u32 args, .int .u32 locals, .int .u8 id, .int .u8 flag, .int .i32 line, .slice FA files.length fc, .slice TA tree.length tc]) (hrb : r ≠ b)
    (hf : w.ownsRow base 90 1 (.slice FA files.length fc) files.length (files.map (Value.int .u32))) (ht : w.ownsRow base 94 6 (.slice TA tree.length tc) tree.length (tree.flatMap Nd.cells)) (nf : files.length ≤ 100) (nt : tree.length ≤ 100)
    (bnd : ∀ z ∈ files, 0 ≤ z ∧ z < 4294967296) (bt : ∀ z ∈ tree, z.Ok) (a0 : 0 ≤ args) (a1 : args < 4294967296) (l0 : 0 ≤ locals) (l1 : locals < 4294967296) :
    Calls Tryd.prog 54 #[.pointer (some ⟨r, 0, none⟩), .pointer (some ⟨b, 0, none⟩)] w fun e w' => e = .returned (.tuple #[]) ∧ IsBuf B b (funBytes args locals id flag line files tree) w' ∧ WF 5 [b] B w w' := by
  have rlt := hr.lt
  have blt := h.lt
  have E0 : PutEnv B (w.heap.size + 1) w.heap.size b ((w.alloc (.cells #[.pointer (some ⟨b, 0, none⟩)] 74)).alloc (.cells #[.int .u8 0, .int .u8 0, .int .u8 0, .int .u8 0] 141)) :=
    ⟨by omega, by omega, ⟨_, _, _, _, Blk.new1 w _ _ _⟩, (Blk.new w _ _).alloc _, by omega, by omega⟩
  have hbel : Below w.heap.size w ((w.alloc (.cells #[.pointer (some ⟨b, 0, none⟩)] 74)).alloc (.cells #[.int .u8 0, .int .u8 0, .int .u8 0, .int .u8 0] 141)) := by (repeat' (first | (with_reducible exact Below.refl _ _) | (with_reducible assumption) | (with_reducible refine below_drewN ?_ _) | (with_reducible refine Below.alloc ?_ ?_ _) | (with_reducible refine Below.drew ?_) | (with_reducible refine Below.setCell ?_ ?_ _) | go_size))
  have b0 : IsBuf B b [] _ := isBuffer_fr h (Fr.of_below (gs := []) hbel) (by simp) (by simp)
  have R0 := Lib.hid (hr.here hbel)
  have F0 := Lib.hid (WF.of_below (e := 5) (own := [b]) hbel hB)
  have hB0 := Nat.le_trans hB hbel.size
  have d0 := R0.out.cell
  have FN := Lib.hid (fun k hk => own_ne (k := k) h hf (by decide) hk)
  have TN := Lib.hid (fun k hk => own_ne (k := k) h ht (by decide) hk)
  have HF := Lib.hid hf
  have HT := Lib.hid ht
  have HR := Lib.hid hr
  clear hbel h hr hf ht
  go_enter Tryd.func54, Tryd.ntmps54
  go_wp2_with fail
  refine (funPut_any B (w.heap.size + 1) w.heap.size b _ _ E0 b0 hB0 (args) (by omega) (by omega) (by first | (simp; done) | (simp [le4_length]; done) | (simp [le4_length]; omega))).mono ?_
  rintro e w1 ⟨rfl, b1, E1, f1⟩
  have z1 : B ≤ w1.heap.size := Nat.le_trans hB0 f1.size
  have F1 := Lib.hid (f1)
  have d1 := (F1.out.blk R0.out (by simpa using ⟨(by omega : r ≠ w.heap.size + 1), hrb⟩) (by decide)).cell
  clear d0 f1
  go_wp2_with fail
  refine (funPut_any B (w.heap.size + 1) w.heap.size b _ _ E1 b1 z1 (locals) (by omega) (by omega) (by first | (simp; done) | (simp [le4_length]; done) | (simp [le4_length]; omega))).mono ?_
  rintro e w2 ⟨rfl, b2, E2, f2⟩
  have z2 : B ≤ w2.heap.size := Nat.le_trans z1 f2.size
  have F2 := Lib.hid (F1.out.trans f2)
  have d2 := (F2.out.blk R0.out (by simpa using ⟨(by omega : r ≠ w.heap.size + 1), hrb⟩) (by decide)).cell
  clear d1 f2
  go_wp2_with fail
  refine (funByte_any B (w.heap.size + 1) w.heap.size b _ _ E2 b2 z2 id (by first | (simp; done) | (simp [le4_length]; done) | (simp [le4_length]; omega))).mono ?_
  rintro e w3 ⟨rfl, b3, E3, f3⟩
  have z3 : B ≤ w3.heap.size := Nat.le_trans z2 f3.size
  have F3 := Lib.hid (F2.out.trans f3)
  have d3 := (F3.out.blk R0.out (by simpa using ⟨(by omega : r ≠ w.heap.size + 1), hrb⟩) (by decide)).cell
  clear d2 f3
  go_wp2_with fail
  refine (funByte_any B (w.heap.size + 1) w.heap.size b _ _ E3 b3 z3 flag (by first | (simp; done) | (simp [le4_length]; done) | (simp [le4_length]; omega))).mono ?_
  rintro e w4 ⟨rfl, b4, E4, f4⟩
  have z4 : B ≤ w4.heap.size := Nat.le_trans z3 f4.size
  have F4 := Lib.hid (F3.out.trans f4)
  have d4 := (F4.out.blk R0.out (by simpa using ⟨(by omega : r ≠ w.heap.size + 1), hrb⟩) (by decide)).cell
  clear d3 f4
  go_wp2_with fail
  refine (funByte_any B (w.heap.size + 1) w.heap.size b _ _ E4 b4 z4 0 (by first | (simp; done) | (simp [le4_length]; done) | (simp [le4_length]; omega))).mono ?_
  rintro e w5 ⟨rfl, b5, E5, f5⟩
  have z5 : B ≤ w5.heap.size := Nat.le_trans z4 f5.size
  have F5 := Lib.hid (F4.out.trans f5)
  have d5 := (F5.out.blk R0.out (by simpa using ⟨(by omega : r ≠ w.heap.size + 1), hrb⟩) (by decide)).cell
  clear d4 f5
  go_wp2_with fail
  refine (funByte_any B (w.heap.size + 1) w.heap.size b _ _ E5 b5 z5 0 (by first | (simp; done) | (simp [le4_length]; done) | (simp [le4_length]; omega))).mono ?_
  rintro e w6 ⟨rfl, b6, E6, f6⟩
  have z6 : B ≤ w6.heap.size := Nat.le_trans z5 f6.size
  have F6 := Lib.hid (F5.out.trans f6)
  have d6 := (F6.out.blk R0.out (by simpa using ⟨(by omega : r ≠ w.heap.size + 1), hrb⟩) (by decide)).cell
  clear d5 f6
  go_wp2_with fail
  refine (funPut_any B (w.heap.size + 1) w.heap.size b _ _ E6 b6 z6 (line % 4294967296) (by omega) (by omega) (by first | (simp; done) | (simp [le4_length]; done) | (simp [le4_length]; omega))).mono ?_
  rintro e w7 ⟨rfl, b7, E7, f7⟩
  have z7 : B ≤ w7.heap.size := Nat.le_trans z6 f7.size
  have F7 := Lib.hid (F6.out.trans f7)
  have d7 := (F7.out.blk R0.out (by simpa using ⟨(by omega : r ≠ w.heap.size + 1), hrb⟩) (by decide)).cell
  clear d6 f7
  go_wp2_with fail
  refine (funPut_any B (w.heap.size + 1) w.heap.size b _ _ E7 b7 z7 ((files.length : Int)) (by omega) (by omega) (by first | (simp; done) | (simp [le4_length]; done) | (simp [le4_length]; omega))).mono ?_
  rintro e w8 ⟨rfl, b8, E8, f8⟩
  have z8 : B ≤ w8.heap.size := Nat.le_trans z7 f8.size
  have F8 := Lib.hid (F7.out.trans f8)
  have d8 := (F8.out.blk R0.out (by simpa using ⟨(by omega : r ≠ w.heap.size + 1), hrb⟩) (by decide)).cell
  clear d7 f8
  go_wp2_with fail
  have T8 := Lib.hid ((F0.out.more (by simp)).trans F8.out : WF 5 [w.heap.size + 1, b] B w w8)
  have G8 := Lib.hid (T8.out.ownsRow HF.out (by decide) (fun k hk => by simpa using ⟨(by have := (HF.out.lt k hk).2; omega : k ≠ w.heap.size + 1), FN.out k hk⟩))
  clear d8
  have i8 : (0 : Int) ≤ files.length := by omega
  go_loopw [8, 60] (fun _ i wr => ∃ k : Nat, k ≤ files.length ∧ i = .int .i64 k ∧ IsBuf B b (([] ++ le4 args ++ le4 locals ++ [id] ++ [flag] ++ [0] ++ [0] ++ le4 (line % 4294967296) ++ le4 files.length) ++ (files.take k).flatMap le4) wr ∧ PutEnv B (w.heap.size + 1) w.heap.size b wr ∧ WF 5 [w.heap.size + 1, b] B w8 wr)
    (fun _ i _ => files.length - (intOf i).toNat)
  case atStart => exact ⟨0, by omega, rfl, by simpa using b8, E8, WF.refl _ _ _ _⟩
  case round =>
    obtain ⟨k, hk, rfl, bk, Ek, fk⟩ := hrel
    have zk : B ≤ wr.heap.size := Nat.le_trans z8 fk.size
    have FK := Lib.hid fk
    clear fk
    by_cases hlt : k < files.length
    · have GK := FK.out.ownsRow G8.out (by decide) (fun k hk => by simpa using ⟨(by have := (HF.out.lt k hk).2; omega : k ≠ w.heap.size + 1), FN.out k hk⟩)
      obtain ⟨g, rfl, ck⟩ := own_at GK k (by omega) (.int .u32 files[k]) (by simp [hlt])
      have HX := Lib.hid (take_flatMap_succ files le4 k hlt)
      have bx := bnd files[k] (List.getElem_mem hlt)
      have ll := flatMap_le4_length (files.take k)
      have lk : (files.take k).length ≤ 100 := by simp; omega
      generalize files[k] = x at *
      go_wp2_with fail
      refine (funPut_any B (w.heap.size + 1) w.heap.size b _ _ Ek bk zk x bx.1 bx.2 (by simp only [List.length_append, List.length_cons, List.length_nil, le4_length, ll]; omega)).mono ?_
      rintro e w9 ⟨rfl, b9, E9, f9⟩
      clear bk Ek
      go_wp2_with fail
      go_roundw
      case rel => exact ⟨k + 1, by omega, by go_num, by rw [HX.out, ← List.append_assoc]; exact b9, E9, FK.out.trans f9⟩
      case measure => simp [intOf]; omega
    · obtain rfl : k = files.length := by omega
      rw [List.take_length] at bk
      have rk := (FK.out.blk (T8.out.blk HR.out (by simpa using ⟨(by omega : r ≠ w.heap.size + 1), hrb⟩) (by decide)) (by simpa using ⟨(by omega : r ≠ w.heap.size + 1), hrb⟩) (by decide)).cell
      have ll := flatMap_le4_length files
      go_wp2_with fail
      refine (funPut_any B (w.heap.size + 1) w.heap.size b _ _ Ek bk zk (tree.length : Int) (by omega) (by omega) (by simp only [List.length_append, List.length_cons, List.length_nil, le4_length, ll]; omega)).mono ?_
      rintro e w9 ⟨rfl, b9, E9, f9⟩
      clear bk Ek rk
      have T9 := Lib.hid (T8.out.trans (FK.out.trans f9))
      have G9 := Lib.hid (T9.out.ownsRow HT.out (by decide) (fun k hk => by simpa using ⟨(by have := (HT.out.lt k hk).2; omega : k ≠ w.heap.size + 1), TN.out k hk⟩))
      have z9 : B ≤ w9.heap.size := Nat.le_trans zk f9.size
      have rk9 := (T9.out.blk HR.out (by simpa using ⟨(by omega : r ≠ w.heap.size + 1), hrb⟩) (by decide)).cell
      have j0 : (0 : Int) ≤ tree.length := by omega
      clear f9 ll
      clear E0 b0 b1 E1 b2 E2 b3 E3 b4 E4 b5 E5 b6 E6 b7 E7 b8 E8 F1 F2 F3 F4 F5 F6 F7 F8 FK z1 z2 z3 z4 z5 z6 z7 z8 zk
      go_wp2_with fail
      clear rk9
      go_loopw [9, 81] (fun _ i wr => ∃ k : Nat, k ≤ tree.length ∧ i = .int .i64 k ∧ IsBuf B b (([] ++ le4 args ++ le4 locals ++ [id] ++ [flag] ++ [0] ++ [0] ++ le4 (line % 4294967296) ++ le4 files.length ++ files.flatMap le4 ++ le4 tree.length) ++ (tree.take k).flatMap Nd.bytes) wr ∧ PutEnv B (w.heap.size + 1) w.heap.size b wr ∧ WF 5 [w.heap.size + 1, b] B w9 wr)
        (fun _ i _ => tree.length - (intOf i).toNat)
      case atStart => exact ⟨0, by omega, rfl, by simpa using b9, E9, WF.refl _ _ _ _⟩
      case round =>
        obtain ⟨k, hk, rfl, bk, Ek, fk⟩ := hrel
        have zk : B ≤ wr.heap.size := Nat.le_trans z9 fk.size
        have FK := Lib.hid fk
        clear fk b9 E9
        by_cases hlt : k < tree.length
        · have GK := FK.out.ownsRow G9.out (by decide) (fun k hk => by simpa using ⟨(by have := (HT.out.lt k hk).2; omega : k ≠ w.heap.size + 1), TN.out k hk⟩)
          obtain ⟨g, rfl, ⟨ob, hob, ocs, hoc⟩, ck⟩ := own_at_n GK k (by omega)
          have c0 := ck 0 _ ((tree_cell tree k 0 hlt (by omega)).trans rfl)
          have c1 := ck 1 _ ((tree_cell tree k 1 hlt (by omega)).trans rfl)
          have c2 := ck 2 _ ((tree_cell tree k 2 hlt (by omega)).trans rfl)
          have c3 := ck 3 _ ((tree_cell tree k 3 hlt (by omega)).trans rfl)
          have c4 := ck 4 _ ((tree_cell tree k 4 hlt (by omega)).trans rfl)
          have c5 := ck 5 _ ((tree_cell tree k 5 hlt (by omega)).trans rfl)
          rw [Nat.add_zero] at c0
          have gb := TN.out g rfl
          have HX := Lib.hid (take_flatMap_succ tree Nd.bytes k hlt)
          have bx := bt tree[k] (List.getElem_mem hlt)
          have ll := flatMap_node_length (tree.take k)
          have lf := flatMap_le4_length files
          have lk : (tree.take k).length ≤ 100 := by simp; omega
          have Q := Ek.box
          have q0 := Q.cell 0
          have R := (FK.out.blk (T9.out.blk HR.out (by simpa using ⟨(by omega : r ≠ w.heap.size + 1), hrb⟩) (by decide)) (by simpa using ⟨(by omega : r ≠ w.heap.size + 1), hrb⟩) (by decide))
          have r6 := R.cell 6
          generalize tree[k] = x at *
          have HL := Lib.hid (show (([] ++ le4 args ++ le4 locals ++ [id] ++ [flag] ++ [0] ++ [0] ++ le4 (line % 4294967296) ++ le4 files.length ++ files.flatMap le4 ++ le4 tree.length) ++ (tree.take k).flatMap Nd.bytes).length + 24 < 4294967296 from by simp only [List.length_append, List.length_cons, List.length_nil, le4_length, ll, lf]; omega)
          have HC := Lib.hid (And.intro c0 (And.intro c1 (And.intro c2 (And.intro c3 (And.intro c4 c5)))))
          have HO := Lib.hid (And.intro hob hoc)
          have EK := Lib.hid Ek
          have BK := Lib.hid bk
          have RR := Lib.hid R
          clear c0 c1 c2 c3 c4 c5 hob hoc ll lf Q Ek bk GK ck R
          go_wp2_with fail
          go_region_held3 (fun w' => w'.cell? ⟨w.heap.size, 0, none⟩ = some (.pointer (some ⟨b, 0, none⟩)) ∧ w'.cell? ⟨r, 6, none⟩ = some (.slice (some ⟨g, 0, none⟩) tree.length tc)) (first | go_keep | exact ⟨q0, r6⟩ | exact ⟨e2, e3⟩)
            (first | (go_at_call 51; refine (inlWrite_any B b g (k * 6) ob _ x.a x.f x.l x.p x.y x.c wr.drew BK.out zk HO.out.1 (fun cs fz h => by rw [HO.out.2] at h; injection h with _ h2 _; exact absurd h2 (by decide)) gb HC.out.1 HC.out.2.1 HC.out.2.2.1 HC.out.2.2.2.1 HC.out.2.2.2.2.1 HC.out.2.2.2.2.2 bx.f.1 bx.f.2 bx.p.1 bx.p.2 bx.y.1 bx.y.2 HL.out).mono ?_; rintro e w2 ⟨rfl, hb2, wf2⟩; have E2 := Lib.hid (EK.out.drew.wf wf2); have e2 : w2.cell? ⟨w.heap.size, 0, none⟩ = some (.pointer (some ⟨b, 0, none⟩)) := (E2.out.box.cell 0).trans rfl; have e3 : w2.cell? ⟨r, 6, none⟩ = some (.slice (some ⟨g, 0, none⟩) tree.length tc) := ((wf2.blk RR.out (by simpa using hrb) (by decide)).cell 6).trans rfl))
          go_wp2_with fail
          go_roundw
          case rel => exact ⟨k + 1, by omega, by go_num, by rw [HX.out, ← List.append_assoc]; exact hb2, E2.out, FK.out.drew.trans (wf2.more (by simp))⟩
          case measure => simp [intOf]; omega
        · obtain rfl : k = tree.length := by omega
          rw [List.take_length] at bk
          have TK := Lib.hid (T9.out.trans FK.out)
          go_wp2_with fail
          go_end0
          refine ⟨rfl, ?_, TK.out.shrink (by omega)⟩
          simp only [le4_mod] at bk
          simpa [funBytes] using bk
end Go.Proofs.YtnbojmciolecgaaDoor
