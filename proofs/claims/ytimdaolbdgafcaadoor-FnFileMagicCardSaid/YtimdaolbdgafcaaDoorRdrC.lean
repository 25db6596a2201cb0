/- What a reader tells: how many there are; where they stand. (printed by gen_rdrc.py) -/
import Derived.Test.YtimdaolbdgafcaaDoorRdrB
namespace Go.Proofs.YtimdaolbdgafcaaDoor
open Go.RowKit

section
variable {f : FM} {ro : Bool} {g d o c : Nat} {w : World} (R : Rdr f ro g d o c w) (S : f.Small)
include R S
set_option maxRecDepth 100000 in
theorem rdNPkg_any : Calls Tryd.prog 92 #[.pointer (some ⟨g, 0, none⟩)] w (RetQ (.int .i64 f.pk.l.length) w) := by
  have c1 := R.offs 2 (by omega)
  have c2 := R.offs 1 (by omega)
  have q := (FM.at_lens S).2.1
  have b1 := S.at_le 2
  have hl : f.pk.l.length ≤ 60 := S.pk
  generalize f.at_ 2 = y at *
  generalize f.at_ 1 = x at *
  generalize f.pk.l.length = m at *
  have D := Lib.hid (show ((y : Int) - x) / 8 = (m : Int) from by omega)
  have i1 : (x : Int) ≤ y := by omega
  have i2 : (y : Int) ≤ 110000 := by omega
  have i3 : (0 : Int) ≤ x := by omega
  clear R S q b1 hl
  go_enter Tryd.func92, Tryd.ntmps92
  go_wp2_with fail
  go_quiet (fail)
  go_wp2_with fail
  go_ret
  exact ⟨by simp [D.out], _, rfl⟩
set_option maxRecDepth 100000 in
theorem rdNFile_any : Calls Tryd.prog 95 #[.pointer (some ⟨g, 0, none⟩)] w (RetQ (.int .i64 f.fi.l.length) w) := by
  have c1 := R.offs 3 (by omega)
  have c2 := R.offs 2 (by omega)
  have q := (FM.at_lens S).2.2.1
  have b1 := S.at_le 3
  have hl : f.fi.l.length ≤ 60 := S.fi
  generalize f.at_ 3 = y at *
  generalize f.at_ 2 = x at *
  generalize f.fi.l.length = m at *
  have D := Lib.hid (show ((y : Int) - x) / 8 = (m : Int) from by omega)
  have i1 : (x : Int) ≤ y := by omega
  have i2 : (y : Int) ≤ 110000 := by omega
  have i3 : (0 : Int) ≤ x := by omega
  clear R S q b1 hl
  go_enter Tryd.func95, Tryd.ntmps95
  go_wp2_with fail
  go_quiet (fail)
  go_wp2_with fail
  go_ret
  exact ⟨by simp [D.out], _, rfl⟩
set_option maxRecDepth 100000 in
theorem rdNSym_any : Calls Tryd.prog 66 #[.pointer (some ⟨g, 0, none⟩)] w (RetQ (.int .i64 f.own.l.length) w) := by
  have c1 := R.offs 4 (by omega)
  have c2 := R.offs 3 (by omega)
  have q := (FM.at_lens S).2.2.2.1
  have b1 := S.at_le 4
  have hl : f.own.l.length ≤ 60 := S.own_le
  generalize f.at_ 4 = y at *
  generalize f.at_ 3 = x at *
  generalize f.own.l.length = m at *
  have D := Lib.hid (show ((y : Int) - x) / 21 = (m : Int) from by omega)
  have i1 : (x : Int) ≤ y := by omega
  have i2 : (y : Int) ≤ 110000 := by omega
  have i3 : (0 : Int) ≤ x := by omega
  clear R S q b1 hl
  go_enter Tryd.func66, Tryd.ntmps66
  go_wp2_with fail
  go_quiet (fail)
  go_wp2_with fail
  go_ret
  exact ⟨by simp [D.out], _, rfl⟩
set_option maxRecDepth 100000 in
theorem rdNHashed64def_any : Calls Tryd.prog 67 #[.pointer (some ⟨g, 0, none⟩)] w (RetQ (.int .i64 f.short.l.length) w) := by
  have c1 := R.offs 5 (by omega)
  have c2 := R.offs 4 (by omega)
  have q := (FM.at_lens S).2.2.2.2.1
  have b1 := S.at_le 5
  have hl : f.short.l.length ≤ 60 := S.short_le
  generalize f.at_ 5 = y at *
  generalize f.at_ 4 = x at *
  generalize f.short.l.length = m at *
  have D := Lib.hid (show ((y : Int) - x) / 21 = (m : Int) from by omega)
  have i1 : (x : Int) ≤ y := by omega
  have i2 : (y : Int) ≤ 110000 := by omega
  have i3 : (0 : Int) ≤ x := by omega
  clear R S q b1 hl
  go_enter Tryd.func67, Tryd.ntmps67
  go_wp2_with fail
  go_quiet (fail)
  go_wp2_with fail
  go_ret
  exact ⟨by simp [D.out], _, rfl⟩
set_option maxRecDepth 100000 in
theorem rdNHasheddef_any : Calls Tryd.prog 68 #[.pointer (some ⟨g, 0, none⟩)] w (RetQ (.int .i64 f.hashed.l.length) w) := by
  have c1 := R.offs 6 (by omega)
  have c2 := R.offs 5 (by omega)
  have q := (FM.at_lens S).2.2.2.2.2.1
  have b1 := S.at_le 6
  have hl : f.hashed.l.length ≤ 60 := S.hashed_le
  generalize f.at_ 6 = y at *
  generalize f.at_ 5 = x at *
  generalize f.hashed.l.length = m at *
  have D := Lib.hid (show ((y : Int) - x) / 21 = (m : Int) from by omega)
  have i1 : (x : Int) ≤ y := by omega
  have i2 : (y : Int) ≤ 110000 := by omega
  have i3 : (0 : Int) ≤ x := by omega
  clear R S q b1 hl
  go_enter Tryd.func68, Tryd.ntmps68
  go_wp2_with fail
  go_quiet (fail)
  go_wp2_with fail
  go_ret
  exact ⟨by simp [D.out], _, rfl⟩
set_option maxRecDepth 100000 in
theorem rdNNonpkgdef_any : Calls Tryd.prog 69 #[.pointer (some ⟨g, 0, none⟩)] w (RetQ (.int .i64 f.other.l.length) w) := by
  have c1 := R.offs 7 (by omega)
  have c2 := R.offs 6 (by omega)
  have q := (FM.at_lens S).2.2.2.2.2.2.1
  have b1 := S.at_le 7
  have hl : f.other.l.length ≤ 60 := S.other_le
  generalize f.at_ 7 = y at *
  generalize f.at_ 6 = x at *
  generalize f.other.l.length = m at *
  have D := Lib.hid (show ((y : Int) - x) / 21 = (m : Int) from by omega)
  have i1 : (x : Int) ≤ y := by omega
  have i2 : (y : Int) ≤ 110000 := by omega
  have i3 : (0 : Int) ≤ x := by omega
  clear R S q b1 hl
  go_enter Tryd.func69, Tryd.ntmps69
  go_wp2_with fail
  go_quiet (fail)
  go_wp2_with fail
  go_ret
  exact ⟨by simp [D.out], _, rfl⟩
set_option maxRecDepth 100000 in
theorem rdNNonpkgref_any : Calls Tryd.prog 70 #[.pointer (some ⟨g, 0, none⟩)] w (RetQ (.int .i64 f.refs.l.length) w) := by
  have c1 := R.offs 8 (by omega)
  have c2 := R.offs 7 (by omega)
  have q := (FM.at_lens S).2.2.2.2.2.2.2.1
  have b1 := S.at_le 8
  have hl : f.refs.l.length ≤ 60 := S.refs
  generalize f.at_ 8 = y at *
  generalize f.at_ 7 = x at *
  generalize f.refs.l.length = m at *
  have D := Lib.hid (show ((y : Int) - x) / 21 = (m : Int) from by omega)
  have i1 : (x : Int) ≤ y := by omega
  have i2 : (y : Int) ≤ 110000 := by omega
  have i3 : (0 : Int) ≤ x := by omega
  clear R S q b1 hl
  go_enter Tryd.func70, Tryd.ntmps70
  go_wp2_with fail
  go_quiet (fail)
  go_wp2_with fail
  go_ret
  exact ⟨by simp [D.out], _, rfl⟩
set_option maxRecDepth 100000 in
theorem rdNRefFlags_any : Calls Tryd.prog 71 #[.pointer (some ⟨g, 0, none⟩)] w (RetQ (.int .i64 f.rf.l.length) w) := by
  have c1 := R.offs 9 (by omega)
  have c2 := R.offs 8 (by omega)
  have q := (FM.at_lens S).2.2.2.2.2.2.2.2.1
  have b1 := S.at_le 9
  have hl : f.rf.l.length ≤ 60 := S.rf
  generalize f.at_ 9 = y at *
  generalize f.at_ 8 = x at *
  generalize f.rf.l.length = m at *
  have D := Lib.hid (show ((y : Int) - x) / 10 = (m : Int) from by omega)
  have i1 : (x : Int) ≤ y := by omega
  have i2 : (y : Int) ≤ 110000 := by omega
  have i3 : (0 : Int) ≤ x := by omega
  clear R S q b1 hl
  go_enter Tryd.func71, Tryd.ntmps71
  go_wp2_with fail
  go_quiet (fail)
  go_wp2_with fail
  go_ret
  exact ⟨by simp [D.out], _, rfl⟩
set_option maxRecDepth 100000 in
theorem rdNRefName_any : Calls Tryd.prog 72 #[.pointer (some ⟨g, 0, none⟩)] w (RetQ (.int .i64 f.rn.l.length) w) := by
  have c1 := R.offs 18 (by omega)
  have c2 := R.offs 17 (by omega)
  have q := (FM.at_lens S).2.2.2.2.2.2.2.2.2.2.2.2.2.2.2.2.2
  have b1 := S.at_le 18
  have hl : f.rn.l.length ≤ 60 := S.rn
  generalize f.at_ 18 = y at *
  generalize f.at_ 17 = x at *
  generalize f.rn.l.length = m at *
  have D := Lib.hid (show ((y : Int) - x) / 16 = (m : Int) from by omega)
  have i1 : (x : Int) ≤ y := by omega
  have i2 : (y : Int) ≤ 110000 := by omega
  have i3 : (0 : Int) ≤ x := by omega
  clear R S q b1 hl
  go_enter Tryd.func72, Tryd.ntmps72
  go_wp2_with fail
  go_quiet (fail)
  go_wp2_with fail
  go_ret
  exact ⟨by simp [D.out], _, rfl⟩
set_option maxRecDepth 100000 in
theorem rdSymOff_any (i : Nat) (hi : i ≤ 1000) : Calls Tryd.prog 54 #[.pointer (some ⟨g, 0, none⟩), .int .u32 i] w (RetQ (.int .u32 ((f.at_ 3 + 21 * i : Nat) : Int)) w) := by
  have c1 := R.offs 3 (by omega)
  have b1 := S.at_le 3
  generalize f.at_ 3 = x at *
  have i1 : (0 : Int) ≤ x := by omega
  have i2 : (x : Int) ≤ 110000 := by omega
  have i3 : (0 : Int) ≤ i := by omega
  have i4 : (i : Int) ≤ 1000 := by omega
  clear R S b1 hi
  go_enter Tryd.func54, Tryd.ntmps54
  go_wp2_with fail
  go_ret
  exact ⟨by simp; omega, 0, rfl⟩
end
section
variable {f : FM} {ro : Bool} {g d o c : Nat} {w : World} (R : Rdr f ro g d o c w)
include R
theorem rdFlags_any : Calls Tryd.prog 59 #[.pointer (some ⟨g, 0, none⟩)] w (RetQ (.int .u32 f.flags) w) := by
  have c1 := R.flags
  clear R
  go_enter Tryd.func59, Tryd.ntmps59
  go_wp2_with fail
  go_ret
  exact ⟨rfl, 0, rfl⟩
theorem rdReadOnly_any : Calls Tryd.prog 53 #[.pointer (some ⟨g, 0, none⟩)] w (RetQ (.bool ro) w) := by
  have c1 := R.ro
  clear R
  go_enter Tryd.func53, Tryd.ntmps53
  go_wp2_with fail
  go_ret
  exact ⟨rfl, 0, rfl⟩
theorem rdShared_any : Calls Tryd.prog 60 #[.pointer (some ⟨g, 0, none⟩)] w (RetQ (.bool (bits .and .u32 f.flags 1 != 0)) w) := by
  have F := Lib.hid (rdFlags_any R)
  clear R
  go_enter Tryd.func60, Tryd.ntmps60
  go_wp2_with fail
  refine F.out.mono ?_
  rintro e w1 ⟨rfl, n1, rfl⟩
  go_wp2_with fail
  go_ret
  exact ⟨by simp, n1, rfl⟩
theorem rdFromAssembly_any : Calls Tryd.prog 61 #[.pointer (some ⟨g, 0, none⟩)] w (RetQ (.bool (bits .and .u32 f.flags 4 != 0)) w) := by
  have F := Lib.hid (rdFlags_any R)
  clear R
  go_enter Tryd.func61, Tryd.ntmps61
  go_wp2_with fail
  refine F.out.mono ?_
  rintro e w1 ⟨rfl, n1, rfl⟩
  go_wp2_with fail
  go_ret
  exact ⟨by simp, n1, rfl⟩
theorem rdUnlinkable_any : Calls Tryd.prog 62 #[.pointer (some ⟨g, 0, none⟩)] w (RetQ (.bool (bits .and .u32 f.flags 8 != 0)) w) := by
  have F := Lib.hid (rdFlags_any R)
  clear R
  go_enter Tryd.func62, Tryd.ntmps62
  go_wp2_with fail
  refine F.out.mono ?_
  rintro e w1 ⟨rfl, n1, rfl⟩
  go_wp2_with fail
  go_ret
  exact ⟨by simp, n1, rfl⟩
theorem rdStd_any : Calls Tryd.prog 63 #[.pointer (some ⟨g, 0, none⟩)] w (RetQ (.bool (bits .and .u32 f.flags 16 != 0)) w) := by
  have F := Lib.hid (rdFlags_any R)
  clear R
  go_enter Tryd.func63, Tryd.ntmps63
  go_wp2_with fail
  refine F.out.mono ?_
  rintro e w1 ⟨rfl, n1, rfl⟩
  go_wp2_with fail
  go_ret
  exact ⟨by simp, n1, rfl⟩
end
end Go.Proofs.YtimdaolbdgafcaaDoor
