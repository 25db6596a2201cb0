/- A symbol told where it stands among bytes. (printed by gen_tolds.py) -/
import Derived.Test.YtajeinkkfggcbaaGreatDoorTold
import Derived.Test.YtajeinkkfggcbaaGreatDoorRdrE
import Derived.Test.YtajeinkkfggcbaaGreatDoorImplA
namespace Go.Proofs.YtajeinkkfggcbaaGreatDoor
open Go.RowKit

theorem atSym_ABI (f : FM) (q d : Nat) (s : ByteArray) (y : Sy) (w : World) (h : At w d q (f.syB s y)) (ok : y.Ok) : Calls Tryz.prog 57 #[.pointer (some ⟨d, q, none⟩)] w (RetQ (.int .u16 y.abi) w) := by
  have E := Lib.hid (show y.abi % 65536 = y.abi from by have := ok.a; omega)
  have c0 : w.cell? ⟨d, (q + 8) + 0, none⟩ = some (.int .u8 _) := h 8 _ rfl
  have c1 : w.cell? ⟨d, (q + 8) + 1, none⟩ = some (.int .u8 _) := h 9 _ rfl
  clear h ok
  go_enter Tryz.func57, Tryz.ntmps57
  go_wp2_with (go_at_call 89; refine (le16_at d (q + 8) _ _ y.abi _ (by omega) c0 c1).mono ?_; rintro e w' ⟨rfl, n1, rfl⟩; rw [E.out])
  go_ret
  exact ⟨rfl, _, rfl⟩
theorem atSym_Type (f : FM) (q d : Nat) (s : ByteArray) (y : Sy) (w : World) (h : At w d q (f.syB s y)) : Calls Tryz.prog 58 #[.pointer (some ⟨d, q, none⟩)] w (RetQ (.int .u8 y.kind) w) := by
  have c0 : w.cell? ⟨d, q + 10, none⟩ = some (.int .u8 y.kind) := h 10 _ rfl
  clear h
  go_enter Tryz.func58, Tryz.ntmps58
  go_wp2
  go_ret
  exact ⟨rfl, 0, rfl⟩
theorem atSym_Flag (f : FM) (q d : Nat) (s : ByteArray) (y : Sy) (w : World) (h : At w d q (f.syB s y)) : Calls Tryz.prog 59 #[.pointer (some ⟨d, q, none⟩)] w (RetQ (.int .u8 y.flag) w) := by
  have c0 : w.cell? ⟨d, q + 11, none⟩ = some (.int .u8 y.flag) := h 11 _ rfl
  clear h
  go_enter Tryz.func59, Tryz.ntmps59
  go_wp2
  go_ret
  exact ⟨rfl, 0, rfl⟩
theorem atSym_Flag2 (f : FM) (q d : Nat) (s : ByteArray) (y : Sy) (w : World) (h : At w d q (f.syB s y)) : Calls Tryz.prog 60 #[.pointer (some ⟨d, q, none⟩)] w (RetQ (.int .u8 y.flag2) w) := by
  have c0 : w.cell? ⟨d, q + 12, none⟩ = some (.int .u8 y.flag2) := h 12 _ rfl
  clear h
  go_enter Tryz.func60, Tryz.ntmps60
  go_wp2
  go_ret
  exact ⟨rfl, 0, rfl⟩
theorem atSym_Siz (f : FM) (q d : Nat) (s : ByteArray) (y : Sy) (w : World) (h : At w d q (f.syB s y)) (ok : y.Ok) : Calls Tryz.prog 61 #[.pointer (some ⟨d, q, none⟩)] w (RetQ (.int .u32 y.size) w) := by
  have E := Lib.hid (show y.size % 4294967296 = y.size from by have := ok.z; omega)
  have c0 : w.cell? ⟨d, (q + 13) + 0, none⟩ = some (.int .u8 _) := h 13 _ rfl
  have c1 : w.cell? ⟨d, (q + 13) + 1, none⟩ = some (.int .u8 _) := h 14 _ rfl
  have c2 : w.cell? ⟨d, (q + 13) + 2, none⟩ = some (.int .u8 _) := h 15 _ rfl
  have c3 : w.cell? ⟨d, (q + 13) + 3, none⟩ = some (.int .u8 _) := h 16 _ rfl
  clear h ok
  go_enter Tryz.func61, Tryz.ntmps61
  go_wp2_with (go_at_call 55; refine (le32_at d (q + 13) _ _ y.size _ (by omega) c0 c1 c2 c3).mono ?_; rintro e w' ⟨rfl, n1, rfl⟩; rw [E.out])
  go_ret
  exact ⟨rfl, _, rfl⟩
theorem atSym_Align (f : FM) (q d : Nat) (s : ByteArray) (y : Sy) (w : World) (h : At w d q (f.syB s y)) (ok : y.Ok) : Calls Tryz.prog 62 #[.pointer (some ⟨d, q, none⟩)] w (RetQ (.int .u32 y.align) w) := by
  have E := Lib.hid (show y.align % 4294967296 = y.align from by have := ok.l; omega)
  have c0 : w.cell? ⟨d, (q + 17) + 0, none⟩ = some (.int .u8 _) := h 17 _ rfl
  have c1 : w.cell? ⟨d, (q + 17) + 1, none⟩ = some (.int .u8 _) := h 18 _ rfl
  have c2 : w.cell? ⟨d, (q + 17) + 2, none⟩ = some (.int .u8 _) := h 19 _ rfl
  have c3 : w.cell? ⟨d, (q + 17) + 3, none⟩ = some (.int .u8 _) := h 20 _ rfl
  clear h ok
  go_enter Tryz.func62, Tryz.ntmps62
  go_wp2_with (go_at_call 55; refine (le32_at d (q + 17) _ _ y.align _ (by omega) c0 c1 c2 c3).mono ?_; rintro e w' ⟨rfl, n1, rfl⟩; rw [E.out])
  go_ret
  exact ⟨rfl, _, rfl⟩
set_option maxHeartbeats 400000 in
theorem toldSym_at (f : FM) (q d : Nat) (s : ByteArray) (y : Sy) (w : World) (h : At w d q (f.syB s y)) (ok : y.Ok) : Calls Tryz.prog 25 #[.pointer (some ⟨d, q, none⟩)] w (RetV (.agg #[.int .u16 y.abi, .int .u8 y.kind, .int .u8 y.flag, .int .u8 y.flag2, .int .u32 y.size, .int .u32 y.align]) w) := by
  have H := Lib.hid (h.here (later_alloc w (.cells #[.int .u16 0, .int .u8 0, .int .u8 0, .int .u8 0, .int .u32 0, .int .u32 0] 40)))
  have OK := Lib.hid ok
  have r1 := Lib.hid (Blk.new w 40 #[.int .u16 0, .int .u8 0, .int .u8 0, .int .u8 0, .int .u32 0, .int .u32 0])
  clear h ok
  go_enter Tryz.func25, Tryz.ntmps25
  go_wp2_with fail
  refine (atSym_ABI f q d s y _ (H.out.drewN 0) OK.out).mono ?_
  rintro e w' ⟨rfl, nABI, rfl⟩
  go_wp2_with fail
  refine (atSym_Type f q d s y _ (H.out.drewN _)).mono ?_
  rintro e w' ⟨rfl, nType, rfl⟩
  go_wp2_with fail
  refine (atSym_Flag f q d s y _ (H.out.drewN _)).mono ?_
  rintro e w' ⟨rfl, nFlag, rfl⟩
  go_wp2_with fail
  refine (atSym_Flag2 f q d s y _ (H.out.drewN _)).mono ?_
  rintro e w' ⟨rfl, nFlag2, rfl⟩
  go_wp2_with fail
  refine (atSym_Siz f q d s y _ (H.out.drewN _) OK.out).mono ?_
  rintro e w' ⟨rfl, nSiz, rfl⟩
  go_wp2_with fail
  refine (atSym_Align f q d s y _ (H.out.drewN _) OK.out).mono ?_
  rintro e w' ⟨rfl, nAlign, rfl⟩
  have hrc := r1.out.cell
  have hrf := r1.out.frozen
  go_wp2_with fail
  exact bodyPost_ret (v := .agg #[.int .u16 y.abi, .int .u8 y.kind, .int .u8 y.flag, .int .u8 y.flag2, .int .u32 y.size, .int .u32 y.align]) (by simp [results, Tryz.results25, go_sem, hrc]) rfl ⟨rfl, by (repeat' (first | (with_reducible exact Below.refl _ _) | (with_reducible assumption) | (with_reducible refine below_drewN ?_ _) | (with_reducible refine Below.alloc ?_ ?_ _) | (with_reducible refine Below.drew ?_) | (with_reducible refine Below.setCell ?_ ?_ _) | go_size))⟩
section
variable {f : FM} {ro : Bool} {g d o c : Nat} {w : World} (R : Rdr f ro g d o c w) (S : f.Small)
include R S
set_option maxRecDepth 100000 in
theorem rdSymName (q d' : Nat) (s : ByteArray) (y : Sy) (h : At w d' q (f.syB s y)) (hs : s ∈ f.names) : Calls Tryz.prog 24 #[.pointer (some ⟨d', q, none⟩), .pointer (some ⟨g, 0, none⟩)] w (RetQ (.string s) w) := by
  have h1 := FM.has_str S s hs
  have h2 := S.names s hs
  have L0 := Lib.hid (le32_cells (d := d') (q := q) 21 21 s.size w (by omega) (by omega) (by omega) (h.has (p := 0) (Has.refl (f.syB s y)).left.left))
  have L1 := Lib.hid (fun m => le32_cells (d := d') (q := q + 4) 17 17 (f.off s) (w.drewN m) (by omega) (by omega) (by omega) ((h.drewN m).has (p := 4) ((Has.refl (f.syB s y)).left.right rfl)))
  have ST := Lib.hid (fun m => rdStr R S (f.off s) s h1.1 h1.2.1 m)
  clear R S h1 h2 h hs
  go_enter Tryz.func24, Tryz.ntmps24
  go_wp2_with fail
  refine L0.out.mono ?_
  rintro e w1 ⟨rfl, n1, rfl⟩
  go_wp2_with fail
  refine (L1.out n1).mono ?_
  rintro e w1 ⟨rfl, n2, rfl⟩
  go_wp2_with fail
  refine (ST.out _).mono ?_
  rintro e w1 ⟨rfl, n3, rfl⟩
  go_wp2_with fail
  go_ret
  exact ⟨rfl, n1 + n2 + n3, by simp [Nat.add_assoc]⟩
omit R in
theorem rdSymNameLen (q d' : Nat) (s : ByteArray) (y : Sy) (h : At w d' q (f.syB s y)) (hs : s ∈ f.names) : Calls Tryz.prog 26 #[.pointer (some ⟨d', q, none⟩), .pointer (some ⟨g, 0, none⟩)] w (RetQ (.int .i64 s.size) w) := by
  have h2 := S.names s hs
  have i1 : (0 : Int) ≤ s.size := by omega
  have i2 : (s.size : Int) ≤ 200000 := by omega
  have L0 := Lib.hid (le32_cells (d := d') (q := q) 21 21 s.size w (by omega) (by omega) (by omega) (h.has (p := 0) (Has.refl (f.syB s y)).left.left))
  clear S h2 h hs
  go_enter Tryz.func26, Tryz.ntmps26
  go_wp2_with fail
  refine L0.out.mono ?_
  rintro e w1 ⟨rfl, n1, rfl⟩
  go_wp2_with fail
  go_ret
  exact ⟨rfl, n1, rfl⟩
end
end Go.Proofs.YtajeinkkfggcbaaGreatDoor
