/- Records told where they stand among bytes. (printed by gen_told.py) -/
import Derived.Test.YtajeinkkfggcbaaGreatDoorFm
namespace Go.Proofs.YtajeinkkfggcbaaGreatDoor
open Go.RowKit

theorem wrap32_back2 (a : Int) (a0 : -2147483648 ≤ a) (a1 : a < 2147483648) : wrap32 (a % 4294967296) = a := by unfold wrap32; omega
theorem wrap64_back2 (d : Int) (d0 : -9223372036854775808 ≤ d) (d1 : d < 9223372036854775808) : wrap64 (d % 18446744073709551616) = d := by unfold wrap64; omega
theorem Rl.bytes_le (r : Rl) : r.bytes = le4 r.off ++ ([r.size] ++ (le2 r.kind ++ (le8 r.add ++ (le4 r.pkg ++ le4 r.sym)))) := by
  simp only [Rl.bytes, leN8, leN4, leN2, le4, le2, le8]
theorem Ax.bytes_le (r : Ax) : r.bytes = [r.kind] ++ (le4 r.pkg ++ le4 r.sym) := by
  simp only [Ax.bytes, leN4, le4]
theorem Fl.bytes_le (r : Fl) : r.bytes = (le4 r.pkg ++ le4 r.sym) ++ [r.flag, r.flag2] := by
  simp only [Fl.bytes, leN4, le4]
theorem le32_cells {d q : Nat} (n c : Nat) (v : Int) (w : World) (hl : 4 ≤ n) (v0 : 0 ≤ v) (v1 : v < 4294967296) (h : At w d q (le4 v)) : Calls Tryz.prog 55 #[.slice (some ⟨d, q, none⟩) n c] w (RetQ (.int .u32 v) w) := by
  have r := le32_at d q n c v w hl (h 0 _ rfl) (h 1 _ rfl) (h 2 _ rfl) (h 3 _ rfl)
  rwa [show v % 4294967296 = v from by omega] at r
theorem At.sub {w : World} {g o : Nat} {xs ys : List Int} (h : At w g o xs) (p : Nat) (k : Has xs p ys) : At w g (o + p) ys := h.has k
theorem At.heapEq {w W : World} {g o : Nat} {xs : List Int} (h : At w g o xs) (ob : Obj) (hg : g < w.heap.size) (hW : W.heap = (w.alloc ob).heap) : At W g o xs := h.heap (by rw [hW]; exact Below.heap_alloc w ob g hg)
end Go.Proofs.YtajeinkkfggcbaaGreatDoor
