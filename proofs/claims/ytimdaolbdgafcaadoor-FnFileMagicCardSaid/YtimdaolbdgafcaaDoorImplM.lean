/- What is read out of bytes that are no object file: nothing. -/
import Derived.WideLaws
import Derived.Great.Walk
import Derived.Test.YtimdaolbdgafcaaDoorImplC
import Derived.Test.YtimdaolbdgafcaaDoorImplD
namespace Go.Proofs.YtimdaolbdgafcaaDoor
open Go.RowKit

/-- What an error leaves. -/
def ErrNew (w : World) (e : Ending) (w' : World) : Prop := ∃ t v, e = .returned (.iface t v) ∧ Below w.heap.size w w'
theorem errNew_any (s : ByteArray) (w : World) : Calls Tryd.prog 145 #[.string s] w (ErrNew w) := by
  go_enter Tryd.func145, Tryd.ntmps145
  go_wp2_with fail
  go_ret
  exact ⟨_, _, rfl, by (repeat' (first | (with_reducible exact Below.refl _ _) | (with_reducible assumption) | (with_reducible refine below_drewN ?_ _) | (with_reducible refine Below.alloc ?_ ?_ _) | (with_reducible refine Below.drew ?_) | (with_reducible refine Below.setCell ?_ ?_ _) | go_size))⟩
set_option maxRecDepth 100000 in
set_option maxHeartbeats 1000000 in
theorem headBad_any (xs : List Int) (g d o n c : Nat) (ro : Bool) (w : World) (hn : n = xs.length) (hc : n ≤ c) (hl8 : n ≤ 200000) (h8 : 8 ≤ n) (hb : Blk w g 176 (rd0 (.slice (some ⟨d, o, none⟩) n c) ro)) (ha : At w d o xs) (hm : strOfNums (cut xs 0 8) ≠ magicS) :
    Calls Tryd.prog 119 #[.pointer (some ⟨g, 3, none⟩), .pointer (some ⟨g, 0, none⟩)] w (fun e w' => (∃ t v, e = .returned (.iface t v)) ∧ Below g w w') := by
  have c0 : w.cell? ⟨g, 0, none⟩ = some (.slice (some ⟨d, o, none⟩) n c) := hb.cell 0
  have f3 := hb.frozen 3
  have c3 : w.cell? ⟨g, 3, none⟩ = some (.string ⟨#[]⟩) := hb.cell 3
  have hg := hb.lt
  have hst : ∀ k c', (convert 35 9 (.slice (some ⟨d, o, none⟩) 8 c')).run Tryd.prog (w.drewN k) = .ok (.string (strOfNums (cut xs 0 8))) (w.drewN k) := fun k c' => run_strG (by have := (ha.drewN k).has (cut_has xs 0 8); simpa using this) (cut_len (by omega))
  have B0 := Lib.hid (bytesAt_any c0 hc hl8 0 8 (by omega) (by omega))
  generalize strOfNums (cut xs 0 8) = m at *
  have hne : (m.toList == [0, 103, 111, 49, 50, 48, 108, 100]) = false := by
    rw [beq_eq_false_iff_ne]
    intro h
    apply hm
    rw [ByteArray.toList_eq] at h
    obtain ⟨⟨x⟩⟩ := m
    exact congrArg (fun l => (⟨⟨l⟩⟩ : ByteArray)) h
  clear ha hb hn
  go_enter Tryd.func119, Tryd.ntmps119
  go_upto_region 2 with (go_at_call 56; refine B0.out.mono ?_; rintro e w1 ⟨rfl, n1, rfl⟩)
  go_wp2_with fail
  refine (errNew_any _ _).mono ?_
  rintro e w2 ⟨t, v, rfl, hb2⟩
  have B2 := Lib.hid (show Below g w w2 from ((below_drewN (Below.refl _ _) n1).setCell (p := ⟨g, 3, none⟩) (by show g ≤ g; omega) (.string m)).trans (hb2.mono (by simp; omega)))
  clear hb2
  go_wp2_with fail
  go_ret
  exact ⟨⟨t, v, rfl⟩, B2.out⟩
set_option maxRecDepth 100000 in
set_option maxHeartbeats 1000000 in
theorem newReaderNil_any (xs : List Int) (d o n c : Nat) (ro : Bool) (w : World) (hn : n = xs.length) (hc : n ≤ c) (hl8 : n ≤ 200000) (h8 : 8 ≤ n) (ha : At w d o xs) (hm : strOfNums (cut xs 0 8) ≠ magicS) :
    Calls Tryd.prog 52 #[.slice (some ⟨d, o, none⟩) n c, .bool ro] w (RetV (.pointer none) w) := by
  obtain ⟨w1, hw1⟩ : ∃ w1, w1 = w.alloc (.cells (rd0 (.slice (some ⟨d, o, none⟩) n c) ro) 176) := ⟨_, rfl⟩
  have HH := Lib.hid (headBad_any xs w.heap.size d o n c ro w1 hn hc hl8 h8 (by rw [hw1]; exact Blk.new _ _ _) (by rw [hw1]; exact ha.here (later_alloc _ _)) hm)
  have HW := Lib.hid hw1
  have BW := Lib.hid (show Below w.heap.size w w1 from by rw [hw1]; exact later_alloc _ _)
  clear hw1 hn ha
  go_enter Tryd.func52, Tryd.ntmps52
  go_upto_region 2 with (first | (refine Go.Great.wpList_readTo rfl (some 9) (by rfl) (.agg (rd0 (.slice (some ⟨d, o, none⟩) n c) ro)) (by as_aux_lemma => kernel_rfl) ?_) | (refine Go.Great.wpList_allocTo rfl (some 10) (by rfl) (.pointer (some ⟨w.heap.size, 0, none⟩)) (.cells (rd0 (.slice (some ⟨d, o, none⟩) n c) ro) 176) (by as_aux_lemma => kernel_rfl) ?_))
  rw [← HW.out]
  go_wp2_with fail
  refine HH.out.mono ?_
  rintro e w2 ⟨⟨t, v, rfl⟩, hB2⟩
  have B2 := Lib.hid (BW.out.trans hB2)
  clear hB2
  go_wp2_with fail
  go_ret
  exact ⟨rfl, B2.out⟩
set_option maxRecDepth 100000 in
set_option maxHeartbeats 1000000 in
theorem fileHeadNil_any (xs : List Int) (d o n c : Nat) (w : World) (hn : n = xs.length) (hc : n ≤ c) (hl8 : n ≤ 200000) (h8 : 8 ≤ n) (ha : At w d o xs) (hm : strOfNums (cut xs 0 8) ≠ magicS) :
    Calls Tryd.prog 25 #[.slice (some ⟨d, o, none⟩) n c] w (RetV (.tuple #[.agg #[.int .u8 0, .int .u8 0, .int .u8 0, .int .u8 0, .int .u8 0, .int .u8 0, .int .u8 0, .int .u8 0], .int .u32 0, .agg #[.bool false, .bool false, .bool false, .bool false], .bool false]) w) := by
  obtain ⟨w0, hw0⟩ : ∃ w0, w0 = (w.alloc (.cells #[.int .u8 0, .int .u8 0, .int .u8 0, .int .u8 0, .int .u8 0, .int .u8 0, .int .u8 0, .int .u8 0] 22)).alloc (.cells #[.bool false, .bool false, .bool false, .bool false] 53) := ⟨_, rfl⟩
  have hb0 : Below w.heap.size w w0 := by rw [hw0]; (repeat' (first | (with_reducible exact Below.refl _ _) | (with_reducible assumption) | (with_reducible refine below_drewN ?_ _) | (with_reducible refine Below.alloc ?_ ?_ _) | (with_reducible refine Below.drew ?_) | (with_reducible refine Below.setCell ?_ ?_ _) | go_size))
  have RA := Lib.hid (show Blk w0 w.heap.size 22 #[.int .u8 0, .int .u8 0, .int .u8 0, .int .u8 0, .int .u8 0, .int .u8 0, .int .u8 0, .int .u8 0] from by rw [hw0]; exact (Blk.new w _ _).alloc _)
  have RB := Lib.hid (show Blk w0 (w.heap.size + 1) 53 #[.bool false, .bool false, .bool false, .bool false] from by rw [hw0]; exact Blk.new1 w _ _ _)
  have NR := Lib.hid (newReaderNil_any xs d o n c false w0 hn hc hl8 h8 (ha.here hb0) hm)
  have B0 := Lib.hid hb0
  have HW0 := Lib.hid hw0
  clear hb0 hw0 ha hn
  go_enter Tryd.func25, Tryd.ntmps25
  go_wp2_with fail
  rw [← HW0.out]
  refine NR.out.mono ?_
  rintro e w1 ⟨rfl, hb1⟩
  have B1 := Lib.hid (below_from B0.out hb1)
  have RA1 := RA.out.here hb1
  have RB1 := RB.out.here hb1
  have ra := RA1.cell
  have raf := RA1.frozen
  have rb := RB1.cell
  have rbf := RB1.frozen
  have hl1 := RA1.lt
  have hl2 := RB1.lt
  clear hb1
  go_wp2_with fail
  have hB := B1.out
  exact bodyPost_ret (v := .tuple #[.agg #[.int .u8 0, .int .u8 0, .int .u8 0, .int .u8 0, .int .u8 0, .int .u8 0, .int .u8 0, .int .u8 0], .int .u32 0, .agg #[.bool false, .bool false, .bool false, .bool false], .bool false]) (by simp [results, Tryd.results25, go_sem, ra, rb]) rfl ⟨rfl, by (repeat' (first | (with_reducible exact Below.refl _ _) | (with_reducible assumption) | (with_reducible refine below_drewN ?_ _) | (with_reducible refine Below.alloc ?_ ?_ _) | (with_reducible refine Below.drew ?_) | (with_reducible refine Below.setCell ?_ ?_ _) | go_size))⟩
end Go.Proofs.YtimdaolbdgafcaaDoor
