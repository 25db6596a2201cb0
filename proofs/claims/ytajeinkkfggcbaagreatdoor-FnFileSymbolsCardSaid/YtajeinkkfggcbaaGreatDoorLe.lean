/- Numbers of two, four and eight bytes, the lowest byte first. -/
import Derived.Test.YtajeinkkfggcbaaGreatDoorMem
namespace Go.Proofs.YtajeinkkfggcbaaGreatDoor
open Go.RowKit

theorem join16 (v : Int) (h0 : 0 ≤ v) (h1 : v < 65536) : bits BinOp.or IntKind.u16 (v % 256) (v / 256 * 256) = v := by
  rw [u16_or8 _ _ (by omega) (by omega) (by omega) (by omega) (by omega)]; omega
theorem join32 (v : Int) (h0 : 0 ≤ v) (h1 : v < 4294967296) : bits BinOp.or IntKind.u32 (bits BinOp.or IntKind.u32 (bits BinOp.or IntKind.u32 (v % 256) (v / 256 % 256 * 256)) (v / 65536 % 256 * 65536)) (v / 16777216 * 16777216) = v := by
  have e1 : bits BinOp.or IntKind.u32 (v % 256) (v / 256 % 256 * 256) = v % 65536 := by rw [u32_or8 _ _ (by omega) (by omega) (by omega) (by omega) (by omega)]; omega
  have e2 : bits BinOp.or IntKind.u32 (v % 65536) (v / 65536 % 256 * 65536) = v % 16777216 := by rw [u32_or16 _ _ (by omega) (by omega) (by omega) (by omega) (by omega)]; omega
  rw [e1, e2, u32_or24 _ _ (by omega) (by omega) (by omega) (by omega) (by omega)]; omega
theorem join64 (v : Int) (h0 : 0 ≤ v) (h1 : v < 18446744073709551616) : bits BinOp.or IntKind.u64 (v % 4294967296) (v / 4294967296 * 4294967296) = v := by
  rw [u64_or32 _ _ (by omega) (by omega) (by omega) (by omega) (by omega)]; omega

set_option maxHeartbeats 400000 in
theorem le16_of (b o len cap : Nat) (v : Int) (w : World) (hl : 2 ≤ len) (h0 : 0 ≤ v) (h1 : v < 65536)
    (c0 : w.cell? ⟨b, o, none⟩ = some (.int .u8 (v % 256))) (c1 : w.cell? ⟨b, o+1, none⟩ = some (.int .u8 (v / 256))) :
    Calls Tryz.prog 89 #[.slice (some ⟨b, o, none⟩) len cap] w fun e w' => e = .returned (.int .u16 v) ∧ ∃ n, w' = w.drewN n := by
  have hj := Lib.hid (join16 v h0 h1)
  go_enter Tryz.func89, Tryz.ntmps89
  go_wp2
  go_quiet (fail)
  go_wp2
  go_ret
  exact ⟨by simp [hj.out], _, rfl⟩
set_option maxHeartbeats 400000 in
theorem le32_of (b o len cap : Nat) (v : Int) (w : World) (hl : 4 ≤ len) (h0 : 0 ≤ v) (h1 : v < 4294967296)
    (c0 : w.cell? ⟨b, o, none⟩ = some (.int .u8 (v % 256))) (c1 : w.cell? ⟨b, o+1, none⟩ = some (.int .u8 (v / 256 % 256))) (c2 : w.cell? ⟨b, o+2, none⟩ = some (.int .u8 (v / 65536 % 256))) (c3 : w.cell? ⟨b, o+3, none⟩ = some (.int .u8 (v / 16777216))) :
    Calls Tryz.prog 55 #[.slice (some ⟨b, o, none⟩) len cap] w fun e w' => e = .returned (.int .u32 v) ∧ ∃ n, w' = w.drewN n := by
  have hj := Lib.hid (join32 v h0 h1)
  go_enter Tryz.func55, Tryz.ntmps55
  go_wp2
  go_quiet (fail)
  go_wp2
  go_ret
  exact ⟨by simp [hj.out], _, rfl⟩
end Go.Proofs.YtajeinkkfggcbaaGreatDoor
