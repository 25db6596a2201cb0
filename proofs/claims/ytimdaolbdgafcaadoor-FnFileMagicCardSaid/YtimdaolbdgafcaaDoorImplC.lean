/- What is read out of an object file: the head, bytes, data. (printed by gen_implc.py) -/
import Derived.Test.YtimdaolbdgafcaaDoorSlB
import Derived.Test.YtimdaolbdgafcaaDoorImplA
namespace Go.Proofs.YtimdaolbdgafcaaDoor
open Go.RowKit

theorem Tryd.infoU8c : (Tryd.prog.info? 5).map (fun i => (i.zero, i.size, i.bytes)) = some (some (.int .u8 0), 1, 1) := by kernel_rfl
section
variable {f : FM} {ro : Bool} {g d o c : Nat} {w : World} (R : Rdr f ro g d o c w)
include R
theorem rdFingerprint_any {p0 p1 p2 p3 p4 p5 p6 p7 : Int} (hf : f.fp = [p0, p1, p2, p3, p4, p5, p6, p7]) : Calls Tryd.prog 58 #[.pointer (some ⟨g, 0, none⟩)] w (RetV (.agg #[.int .u8 p0, .int .u8 p1, .int .u8 p2, .int .u8 p3, .int .u8 p4, .int .u8 p5, .int .u8 p6, .int .u8 p7]) w) := by
  have hg := R.lt
  have c0 := R.fp 0 p0 (by rw [hf]; rfl)
  have c1 := R.fp 1 p1 (by rw [hf]; rfl)
  have c2 := R.fp 2 p2 (by rw [hf]; rfl)
  have c3 := R.fp 3 p3 (by rw [hf]; rfl)
  have c4 := R.fp 4 p4 (by rw [hf]; rfl)
  have c5 := R.fp 5 p5 (by rw [hf]; rfl)
  have c6 := R.fp 6 p6 (by rw [hf]; rfl)
  have c7 := R.fp 7 p7 (by rw [hf]; rfl)
  rw [Nat.add_zero] at c0
  clear R hf
  go_enter Tryd.func58, Tryd.ntmps58
  go_wp2_with fail
  exact bodyPost_ret (v := .agg #[.int .u8 p0, .int .u8 p1, .int .u8 p2, .int .u8 p3, .int .u8 p4, .int .u8 p5, .int .u8 p6, .int .u8 p7]) (by simp [results, Tryd.results58, go_sem]) rfl ⟨rfl, by (repeat' (first | (with_reducible exact Below.refl _ _) | (with_reducible assumption) | (with_reducible refine below_drewN ?_ _) | (with_reducible refine Below.alloc ?_ ?_ _) | (with_reducible refine Below.drew ?_) | (with_reducible refine Below.setCell ?_ ?_ _) | go_size))⟩
end
section
variable {f : FM} {d o n c : Nat} {w : World} (D : Dat f d o n c w)
include D
set_option maxRecDepth 100000 in
set_option maxHeartbeats 1000000 in
theorem fileHead_any {p0 p1 p2 p3 p4 p5 p6 p7 : Int} (hf : f.fp = [p0, p1, p2, p3, p4, p5, p6, p7]) : Calls Tryd.prog 25 #[.slice (some ⟨d, o, none⟩) n c] w (RetV (.tuple #[.agg #[.int .u8 p0, .int .u8 p1, .int .u8 p2, .int .u8 p3, .int .u8 p4, .int .u8 p5, .int .u8 p6, .int .u8 p7], .int .u32 f.flags, .agg #[.bool (bits .and .u32 f.flags 1 != 0), .bool (bits .and .u32 f.flags 4 != 0), .bool (bits .and .u32 f.flags 8 != 0), .bool (bits .and .u32 f.flags 16 != 0)], .bool true]) w) := by
  obtain ⟨w0, hw0⟩ : ∃ w0, w0 = (w.alloc (.cells #[.int .u8 0, .int .u8 0, .int .u8 0, .int .u8 0, .int .u8 0, .int .u8 0, .int .u8 0, .int .u8 0] 22)).alloc (.cells #[.bool false, .bool false, .bool false, .bool false] 53) := ⟨_, rfl⟩
  have hb0 : Below w.heap.size w w0 := by rw [hw0]; (repeat' (first | (with_reducible exact Below.refl _ _) | (with_reducible assumption) | (with_reducible refine below_drewN ?_ _) | (with_reducible refine Below.alloc ?_ ?_ _) | (with_reducible refine Below.drew ?_) | (with_reducible refine Below.setCell ?_ ?_ _) | go_size))
  have HD := Lib.hid (D.here hb0)
  have RA := Lib.hid (show Blk w0 w.heap.size 22 #[.int .u8 0, .int .u8 0, .int .u8 0, .int .u8 0, .int .u8 0, .int .u8 0, .int .u8 0, .int .u8 0] from by rw [hw0]; exact (Blk.new w _ _).alloc _)
  have RB := Lib.hid (show Blk w0 (w.heap.size + 1) 53 #[.bool false, .bool false, .bool false, .bool false] from by rw [hw0]; exact Blk.new1 w _ _ _)
  have B0 := Lib.hid hb0
  have HW0 := Lib.hid hw0
  have HF := Lib.hid hf
  clear D hb0 hf hw0
  go_enter Tryd.func25, Tryd.ntmps25
  go_wp2_with fail
  rw [← HW0.out]
  refine (HD.out.reader false).mono ?_
  rintro e w1 ⟨g, rfl, _, R1, hb1⟩
  have R := Lib.hid R1
  have B1 := Lib.hid (below_from B0.out hb1)
  have RA1 := Lib.hid (RA.out.here hb1)
  have RB1 := Lib.hid (RB.out.here hb1)
  clear R1 hb1
  go_wp2_with fail
  refine (rdFingerprint_any R.out HF.out).mono ?_
  rintro e w2 ⟨rfl, hb2⟩
  have R2 := Lib.hid (R.out.here hb2)
  have B2 := Lib.hid (below_from B1.out hb2)
  have RA2 := Lib.hid (RA1.out.here hb2)
  have RB2 := Lib.hid (RB1.out.here hb2)
  clear hb2 R B1 RA1 RB1
  go_wp2_with fail
  refine (rdFlags_any R2.out).mono ?_
  rintro e w3 ⟨rfl, n3, rfl⟩
  go_wp2_with fail
  refine (rdShared_any (R2.out.drewN _)).mono ?_
  rintro e w3 ⟨rfl, m0, rfl⟩
  go_wp2_with fail
  refine (rdFromAssembly_any (R2.out.drewN _)).mono ?_
  rintro e w3 ⟨rfl, m1, rfl⟩
  go_wp2_with fail
  refine (rdUnlinkable_any (R2.out.drewN _)).mono ?_
  rintro e w3 ⟨rfl, m2, rfl⟩
  go_wp2_with fail
  refine (rdStd_any (R2.out.drewN _)).mono ?_
  rintro e w3 ⟨rfl, m3, rfl⟩
  have ra := RA2.out.cell
  have raf := RA2.out.frozen
  have rb := RB2.out.cell
  have rbf := RB2.out.frozen
  go_wp2_with fail
  have hl1 := RA2.out.lt
  have hl2 := RB2.out.lt
  have hB := B2.out
  exact bodyPost_ret (v := .tuple #[.agg #[.int .u8 p0, .int .u8 p1, .int .u8 p2, .int .u8 p3, .int .u8 p4, .int .u8 p5, .int .u8 p6, .int .u8 p7], .int .u32 f.flags, .agg #[.bool (bits .and .u32 f.flags 1 != 0), .bool (bits .and .u32 f.flags 4 != 0), .bool (bits .and .u32 f.flags 8 != 0), .bool (bits .and .u32 f.flags 16 != 0)], .bool true]) (by simp [results, Tryd.results25, go_sem, ra, rb]) rfl ⟨rfl, by (repeat' (first | (with_reducible exact Below.refl _ _) | (with_reducible assumption) | (with_reducible refine below_drewN ?_ _) | (with_reducible refine Below.alloc ?_ ?_ _) | (with_reducible refine Below.drew ?_) | (with_reducible refine Below.setCell ?_ ?_ _) | go_size))⟩
end
end Go.Proofs.YtimdaolbdgafcaaDoor
