/- What is read out of an object file: small answers. -/
import Derived.Test.YtimdaolbdgafcaaDoorRdrE
namespace Go.Proofs.YtimdaolbdgafcaaDoor
open Go.RowKit

/-- The bytes of a small object file, in memory. -/
structure Dat (f : FM) (d o n c : Nat) (w : World) : Prop where
  len : n = f.bytes.length
  S : f.Small
  fl : 0 ≤ f.flags ∧ f.flags < 4294967296
  cap : n ≤ c
  at_ : At w d o f.bytes
  lt : d < w.heap.size
section
variable {f : FM} {d o n c : Nat} {w w' : World}
theorem Dat.here (D : Dat f d o n c w) (hb : Below w.heap.size w w') : Dat f d o n c w' := ⟨D.len, D.S, D.fl, D.cap, D.at_.here hb, Nat.lt_of_lt_of_le D.lt hb.size⟩
theorem Dat.drewN (D : Dat f d o n c w) (k : Nat) : Dat f d o n c (w.drewN k) := D.here (below_drewN (Below.refl _ _) k)
theorem Dat.reader (D : Dat f d o n c w) (ro : Bool) : Calls Tryd.prog 52 #[.slice (some ⟨d, o, none⟩) n c, .bool ro] w (NewRdr f ro d o c w) := by
  obtain ⟨rfl, S, fl, cap, at_, lt⟩ := D
  exact newReader_any f S fl d o c ro w cap at_ lt
end

section
variable {f : FM} {d o n c : Nat} {w : World} (D : Dat f d o n c w)
include D
theorem fileReadOnly_any (ro : Bool) : Calls Tryd.prog 21 #[.slice (some ⟨d, o, none⟩) n c, .bool ro] w (RetV (.bool ro) w) := by
  have HD := Lib.hid D
  clear D
  go_enter Tryd.func21, Tryd.ntmps21
  go_wp2_with fail
  refine (HD.out.reader ro).mono ?_
  rintro e w1 ⟨g, rfl, _, R1, hb1⟩
  have R := Lib.hid R1
  have B1 := Lib.hid hb1
  clear R1 hb1
  go_wp2_with fail
  refine (rdReadOnly_any R.out).mono ?_
  rintro e w2 ⟨rfl, m, rfl⟩
  go_wp2_with fail
  go_ret
  exact ⟨rfl, below_drewN B1.out m⟩
theorem fileSizes_any : Calls Tryd.prog 28 #[.slice (some ⟨d, o, none⟩) n c] w (RetV (.agg #[.int .i64 f.own.l.length, .int .i64 f.short.l.length, .int .i64 f.hashed.l.length, .int .i64 f.other.l.length, .int .i64 f.refs.l.length, .int .i64 f.rf.l.length, .int .i64 f.rn.l.length]) w) := by
  have hb0 := later_alloc w (.cells #[.int .i64 0, .int .i64 0, .int .i64 0, .int .i64 0, .int .i64 0, .int .i64 0, .int .i64 0] 62)
  have HD := Lib.hid (D.here hb0)
  have RS := Lib.hid (Blk.new w 62 #[.int .i64 0, .int .i64 0, .int .i64 0, .int .i64 0, .int .i64 0, .int .i64 0, .int .i64 0])
  have B0 := Lib.hid hb0
  have SM := Lib.hid D.S
  clear D hb0
  go_enter Tryd.func28, Tryd.ntmps28
  go_wp2_with fail
  refine (HD.out.reader false).mono ?_
  rintro e w1 ⟨g, rfl, _, R1, hb1⟩
  have R := Lib.hid R1
  have B1 := Lib.hid (below_from B0.out hb1)
  have RS1 := Lib.hid (RS.out.here hb1)
  clear R1 hb1
  go_wp2_with fail
  refine (rdNSym_any R.out SM.out).mono ?_
  rintro e w2 ⟨rfl, n2, rfl⟩
  go_wp2_with fail
  refine (rdNHashed64def_any (R.out.drewN _) SM.out).mono ?_
  rintro e w2 ⟨rfl, n3, rfl⟩
  go_wp2_with fail
  refine (rdNHasheddef_any (R.out.drewN _) SM.out).mono ?_
  rintro e w2 ⟨rfl, n4, rfl⟩
  go_wp2_with fail
  refine (rdNNonpkgdef_any (R.out.drewN _) SM.out).mono ?_
  rintro e w2 ⟨rfl, n5, rfl⟩
  go_wp2_with fail
  refine (rdNNonpkgref_any (R.out.drewN _) SM.out).mono ?_
  rintro e w2 ⟨rfl, n6, rfl⟩
  go_wp2_with fail
  refine (rdNRefFlags_any (R.out.drewN _) SM.out).mono ?_
  rintro e w2 ⟨rfl, n7, rfl⟩
  go_wp2_with fail
  refine (rdNRefName_any (R.out.drewN _) SM.out).mono ?_
  rintro e w2 ⟨rfl, n8, rfl⟩
  have rc := RS1.out.cell
  have rf := RS1.out.frozen
  go_wp2_with fail
  have hrc := RS1.out.lt
  have hB := B1.out
  exact bodyPost_ret (v := .agg #[.int .i64 f.own.l.length, .int .i64 f.short.l.length, .int .i64 f.hashed.l.length, .int .i64 f.other.l.length, .int .i64 f.refs.l.length, .int .i64 f.rf.l.length, .int .i64 f.rn.l.length]) (by simp [results, Tryd.results28, go_sem, rc]) rfl ⟨rfl, by (repeat' (first | (with_reducible exact Below.refl _ _) | (with_reducible assumption) | (with_reducible refine below_drewN ?_ _) | (with_reducible refine Below.alloc ?_ ?_ _) | (with_reducible refine Below.drew ?_) | (with_reducible refine Below.setCell ?_ ?_ _) | go_size))⟩
theorem fileOffsets_any (i : Nat) (hi : i ≤ f.all.length) : Calls Tryd.prog 23 #[.slice (some ⟨d, o, none⟩) n c, .int .u32 i] w (RetV (.tuple #[.int .u32 ((f.at_ 3 + 21 * i : Nat) : Int), .int .u32 ((f.at_ 16 + cntK Df.nd f.all i : Nat) : Int)]) w) := by
  have HD := Lib.hid D
  have SM := Lib.hid D.S
  have hi2 : i ≤ 1000 := by have := D.S.all; omega
  have HI := Lib.hid hi
  clear D hi
  go_enter Tryd.func23, Tryd.ntmps23
  go_wp2_with fail
  refine (HD.out.reader false).mono ?_
  rintro e w1 ⟨g, rfl, _, R1, hb1⟩
  have R := Lib.hid R1
  have B1 := Lib.hid hb1
  clear R1 hb1
  go_wp2_with fail
  refine (rdSymOff_any R.out SM.out i hi2).mono ?_
  rintro e w2 ⟨rfl, m1, rfl⟩
  go_wp2_with fail
  refine (rdDataOff_any (R.out.drewN _) SM.out i HI.out).mono ?_
  rintro e w2 ⟨rfl, m2, rfl⟩
  go_wp2_with fail
  go_ret2
  have hB := B1.out
  exact ⟨rfl, by (repeat' (first | (with_reducible exact Below.refl _ _) | (with_reducible assumption) | (with_reducible refine below_drewN ?_ _) | (with_reducible refine Below.alloc ?_ ?_ _) | (with_reducible refine Below.drew ?_) | (with_reducible refine Below.setCell ?_ ?_ _) | go_size))⟩
theorem fileRelocOff_any (i j : Nat) (hi : i ≤ f.all.length) (hj : j ≤ 60) : Calls Tryd.prog 30 #[.slice (some ⟨d, o, none⟩) n c, .int .u32 i, .int .i64 j] w (RetV (.int .u32 ((f.at_ 14 + 23 * (cntK Df.nr f.all i + j) : Nat) : Int)) w) := by
  have HD := Lib.hid D
  have SM := Lib.hid D.S
  have HI := Lib.hid hi
  clear D hi
  go_enter Tryd.func30, Tryd.ntmps30
  go_wp2_with fail
  refine (HD.out.reader false).mono ?_
  rintro e w1 ⟨g, rfl, _, R1, hb1⟩
  have R := Lib.hid R1
  have B1 := Lib.hid hb1
  clear R1 hb1
  go_wp2_with fail
  refine (rdRelocOff_any R.out SM.out i j HI.out hj).mono ?_
  rintro e w2 ⟨rfl, m1, rfl⟩
  go_wp2_with fail
  go_ret
  exact ⟨rfl, below_drewN B1.out m1⟩
theorem fileAuxOff_any (i j : Nat) (hi : i ≤ f.all.length) (hj : j ≤ 60) : Calls Tryd.prog 32 #[.slice (some ⟨d, o, none⟩) n c, .int .u32 i, .int .i64 j] w (RetV (.int .u32 ((f.at_ 15 + 9 * (cntK Df.nx f.all i + j) : Nat) : Int)) w) := by
  have HD := Lib.hid D
  have SM := Lib.hid D.S
  have HI := Lib.hid hi
  clear D hi
  go_enter Tryd.func32, Tryd.ntmps32
  go_wp2_with fail
  refine (HD.out.reader false).mono ?_
  rintro e w1 ⟨g, rfl, _, R1, hb1⟩
  have R := Lib.hid R1
  have B1 := Lib.hid hb1
  clear R1 hb1
  go_wp2_with fail
  refine (rdAuxOff_any R.out SM.out i j HI.out hj).mono ?_
  rintro e w2 ⟨rfl, m1, rfl⟩
  go_wp2_with fail
  go_ret
  exact ⟨rfl, below_drewN B1.out m1⟩
end
end Go.Proofs.YtimdaolbdgafcaaDoor
