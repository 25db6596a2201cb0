/- What is known of a function, read. -/
import Derived.Test.YtnbojmciolecgaaDoorFunP
namespace Go.Proofs.YtnbojmciolecgaaDoor
open Go.RowKit

section
variable {g o n c : Nat} {xs : List Int} {w : World} (p : Value) (h : At w g o xs) (hn : (24 : Int) ≤ n) (hc : n ≤ c)
include h hn hc
omit hc in
theorem readArgs_any {v : Int} (k : Has xs 0 (le4 v)) (h0 : 0 ≤ v) (h1 : v < 4294967296) : Calls Tryd.prog 55 #[p, .slice (some ⟨g, o, none⟩) n c] w (RetQ (.int .u32 v) w) := by
  have L := Lib.hid (le32_rd h k h0 h1 n c (by omega))
  clear h k
  go_enter Tryd.func55, Tryd.ntmps55
  go_wp2_with fail
  refine L.out.mono ?_
  rintro e w1 ⟨rfl, m, rfl⟩
  go_wp2_with fail
  go_ret
  exact ⟨rfl, m, rfl⟩
theorem readLocals_any {v : Int} (k : Has xs 4 (le4 v)) (h0 : 0 ≤ v) (h1 : v < 4294967296) : Calls Tryd.prog 56 #[p, .slice (some ⟨g, o, none⟩) n c] w (RetQ (.int .u32 v) w) := by
  have L := Lib.hid (le32_rd h k h0 h1 (n - 4) (c - 4) (by omega))
  have c4 : c ≠ 4 := by omega
  clear h k
  go_enter Tryd.func56, Tryd.ntmps56
  go_wp2_with fail
  refine L.out.mono ?_
  rintro e w1 ⟨rfl, m, rfl⟩
  go_wp2_with fail
  go_ret
  exact ⟨rfl, m, rfl⟩
theorem readStartLine_any {v : Int} (k : Has xs 12 (le4 v)) (h0 : -2147483648 ≤ v) (h1 : v < 2147483648) : Calls Tryd.prog 59 #[p, .slice (some ⟨g, o, none⟩) n c] w (RetQ (.int .i32 v) w) := by
  rw [← le4_mod] at k
  have L := Lib.hid (le32_rd h k (by omega) (by omega) (n - 12) (c - 12) (by omega))
  have c12 : c ≠ 12 := by omega
  have W := Lib.hid (wrap32_back' v h0 h1)
  clear h k
  go_enter Tryd.func59, Tryd.ntmps59
  go_wp2_with fail
  refine L.out.mono ?_
  rintro e w1 ⟨rfl, m, rfl⟩
  go_wp2_with fail
  go_ret
  rw [W.out]
  exact ⟨rfl, m, rfl⟩
omit hc in
theorem readFuncID_any {a b : Int} (k : Has xs 8 [a, b, 0, 0]) : Calls Tryd.prog 57 #[p, .slice (some ⟨g, o, none⟩) n c] w (RetQ (.int .u8 a) w) := by
  have c0 := h.has k 0 a rfl
  clear h k
  go_enter Tryd.func57, Tryd.ntmps57
  go_wp2_with fail
  go_ret
  exact ⟨rfl, 0, rfl⟩
omit hc in
theorem readFuncFlag_any {a b : Int} (k : Has xs 8 [a, b, 0, 0]) : Calls Tryd.prog 58 #[p, .slice (some ⟨g, o, none⟩) n c] w (RetQ (.int .u8 b) w) := by
  have c0 := h.has k 1 b rfl
  clear h k
  go_enter Tryd.func58, Tryd.ntmps58
  go_wp2_with fail
  go_ret
  exact ⟨rfl, 0, rfl⟩
end

set_option maxHeartbeats 400000 in
theorem functionHead_any {g o n c : Nat} {xs : List Int} {w : World} (args locals id flag line : Int) (h : At w g o xs) (hn : (24 : Int) ≤ n) (hc : n ≤ c)
    (k0 : Has xs 0 (le4 args)) (k1 : Has xs 4 (le4 locals)) (k2 : Has xs 8 [id, flag, 0, 0]) (k3 : Has xs 12 (le4 line))
    (a0 : 0 ≤ args) (a1 : args < 4294967296) (l0 : 0 ≤ locals) (l1 : locals < 4294967296) (i0 : -2147483648 ≤ line) (i1 : line < 2147483648) :
    Calls Tryd.prog 30 #[.slice (some ⟨g, o, none⟩) n c] w (RetV (funVal args locals id flag line (.slice none 0 0) (.slice none 0 0)) w) := by
  have hb : Below w.heap.size w ((w.alloc (.cells (funCells 0 0 0 0 0 (.slice none 0 0) (.slice none 0 0)) 52)).alloc (.cells (funCells 0 0 0 0 0 (.slice none 0 0) (.slice none 0 0)) 105)) := by (repeat' (first | (with_reducible exact Below.refl _ _) | (with_reducible assumption) | (with_reducible refine below_drewN ?_ _) | (with_reducible refine Below.alloc ?_ ?_ _) | (with_reducible refine Below.drew ?_) | (with_reducible refine Below.setCell ?_ ?_ _) | go_size))
  have H := Lib.hid (h.here hb)
  have K0 := Lib.hid k0
  have K1 := Lib.hid k1
  have K2 := Lib.hid k2
  have K3 := Lib.hid k3
  have r0 := Lib.hid ((Blk.new w 52 (funCells 0 0 0 0 0 (.slice none 0 0) (.slice none 0 0))).alloc (.cells (funCells 0 0 0 0 0 (.slice none 0 0) (.slice none 0 0)) 105))
  clear h k0 k1 k2 k3 hb
  go_enter Tryd.func30, Tryd.ntmps30
  go_wp2_with fail
  refine (readArgs_any _ H.out hn K0.out a0 a1).mono ?_
  rintro e w' ⟨rfl, n1, rfl⟩
  go_wp2_with fail
  refine (readLocals_any _ (H.out.drewN _) hn hc K1.out l0 l1).mono ?_
  rintro e w' ⟨rfl, n2, rfl⟩
  go_wp2_with fail
  refine (readFuncID_any _ (H.out.drewN _) hn K2.out).mono ?_
  rintro e w' ⟨rfl, n3, rfl⟩
  go_wp2_with fail
  refine (readFuncFlag_any _ (H.out.drewN _) hn K2.out).mono ?_
  rintro e w' ⟨rfl, n4, rfl⟩
  go_wp2_with fail
  refine (readStartLine_any _ (H.out.drewN _) hn hc K3.out i0 i1).mono ?_
  rintro e w' ⟨rfl, n5, rfl⟩
  have hrc := r0.out.cell
  have hrf := r0.out.frozen
  go_wp2_with fail
  exact bodyPost_ret (v := funVal args locals id flag line (.slice none 0 0) (.slice none 0 0)) (by simp [results, Tryd.results30, go_sem]) rfl ⟨rfl, by (repeat' (first | (with_reducible exact Below.refl _ _) | (with_reducible assumption) | (with_reducible refine below_drewN ?_ _) | (with_reducible refine Below.alloc ?_ ?_ _) | (with_reducible refine Below.drew ?_) | (with_reducible refine Below.setCell ?_ ?_ _) | go_size))⟩

/-- What a roadmap tells: how many files and inlined calls there are, and where. -/
abbrev lenVal (f t : Int) : Value := .agg #[.int .u32 f, .int .u32 20, .int .u32 t, .int .u32 (24 + 4 * f), .bool true]
theorem run_len1 (f t : Int) (w : World) : (Instr.field 120 (.agg #[.int .u32 f, .int .u32 20, .int .u32 t, .int .u32 (24 + 4 * f), .bool true]) 1).run Tryd.prog w = .ok (.int .u32 20) w := by kernel_rfl
theorem run_len3 (f t : Int) (w : World) : (Instr.field 120 (.agg #[.int .u32 f, .int .u32 20, .int .u32 t, .int .u32 (24 + 4 * f), .bool true]) 3).run Tryd.prog w = .ok (.int .u32 (24 + 4 * f)) w := by kernel_rfl
set_option maxHeartbeats 400000 in
theorem readLengths_any {g o n c : Nat} {xs : List Int} {w : World} (p : Value) (f t : Nat) (h : At w g o xs) (hg : g < w.heap.size) (hn : 24 + 4 * f ≤ n) (hc : n ≤ c) (k0 : Has xs 16 (le4 f)) (k1 : Has xs (20 + 4 * f) (le4 t)) (hf : f ≤ 100) (ht : t ≤ 100) :
    Calls Tryd.prog 68 #[p, .slice (some ⟨g, o, none⟩) n c] w (RetV (lenVal f t) w) := by
  have hb : Below w.heap.size w ((w.alloc (.cells #[.int .u32 0, .int .u32 0, .int .u32 0, .int .u32 0, .bool false] 120)).alloc (.cells #[.int .u32 0, .int .u32 0, .int .u32 0, .int .u32 0, .bool false] 120)) := by (repeat' (first | (with_reducible exact Below.refl _ _) | (with_reducible assumption) | (with_reducible refine below_drewN ?_ _) | (with_reducible refine Below.alloc ?_ ?_ _) | (with_reducible refine Below.drew ?_) | (with_reducible refine Below.setCell ?_ ?_ _) | go_size))
  have L0 := Lib.hid (le32_rd (h.here hb) k0 (by omega) (by omega) (n - 16) (c - 16) (by omega))
  have H := Lib.hid (h.here hb)
  have K1 := Lib.hid k1
  have c16 : c ≠ 16 := by omega
  have f0 : (0 : Int) ≤ f := by omega
  have f1 : (f : Int) ≤ 100 := by omega
  have n0 : (24 : Int) + 4 * f ≤ n := by omega
  have gne : g ≠ w.heap.size + 1 := by omega
  clear h k0 k1 hb
  go_enter Tryd.func68, Tryd.ntmps68
  go_wp2_with fail
  refine L0.out.mono ?_
  rintro e w1 ⟨rfl, m, rfl⟩
  go_wp2_with fail
  refine (le32_rd (((H.out.drewN m).far (p := ⟨w.heap.size + 1, 0, none⟩) gne _).far (p := ⟨w.heap.size + 1, 1, none⟩) gne _) K1.out (by omega) (by omega) _ _ (by omega)).mono ?_
  rintro e w1 ⟨rfl, m2, rfl⟩
  go_wp2_with fail
  exact bodyPost_ret (v := lenVal f t) (by simp [results, Tryd.results68, go_sem]; omega) rfl ⟨rfl, by (repeat' (first | (with_reducible exact Below.refl _ _) | (with_reducible assumption) | (with_reducible refine below_drewN ?_ _) | (with_reducible refine Below.alloc ?_ ?_ _) | (with_reducible refine Below.drew ?_) | (with_reducible refine Below.setCell ?_ ?_ _) | go_size))⟩

theorem functionSizes_any {g o n c : Nat} {xs : List Int} {w : World} (f t : Nat) (h : At w g o xs) (hg : g < w.heap.size) (hn : 24 + 4 * f ≤ n) (hc : n ≤ c) (k0 : Has xs 16 (le4 f)) (k1 : Has xs (20 + 4 * f) (le4 t)) (hf : f ≤ 100) (ht : t ≤ 100) :
    Calls Tryd.prog 35 #[.slice (some ⟨g, o, none⟩) n c] w (RetV (.tuple #[.int .u32 f, .int .u32 t]) w) := by
  have hb : Below w.heap.size w (w.alloc (.cells (funCells 0 0 0 0 0 (.slice none 0 0) (.slice none 0 0)) 105)) := by (repeat' (first | (with_reducible exact Below.refl _ _) | (with_reducible assumption) | (with_reducible refine below_drewN ?_ _) | (with_reducible refine Below.alloc ?_ ?_ _) | (with_reducible refine Below.drew ?_) | (with_reducible refine Below.setCell ?_ ?_ _) | go_size))
  have L := Lib.hid (fun p => readLengths_any p f t (h.here hb) (by simp; omega) hn hc k0 k1 hf ht)
  have HB := Lib.hid hb
  clear h k0 k1 hb
  go_enter Tryd.func35, Tryd.ntmps35
  go_wp2_with fail
  refine (L.out _).mono ?_
  rintro e w1 ⟨rfl, hb1⟩
  have B1 := Lib.hid (below_from HB.out hb1)
  go_wp2_with fail
  go_quiet (fail)
  go_wp2
  go_ret2
  have hB := B1.out
  have hz := hB.size
  exact ⟨rfl, by (repeat' (first | (with_reducible exact Below.refl _ _) | (with_reducible assumption) | (with_reducible refine below_drewN ?_ _) | (with_reducible refine Below.alloc ?_ ?_ _) | (with_reducible refine Below.drew ?_) | (with_reducible refine Below.setCell ?_ ?_ _) | go_size))⟩

theorem readFile_any {g o n c : Nat} {xs : List Int} {w : World} (p : Value) (k : Nat) (v : Int) (h : At w g o xs) (hn : 24 + 4 * k ≤ n) (hc : n ≤ c) (hk : Has xs (20 + 4 * k) (le4 v)) (v0 : 0 ≤ v) (v1 : v < 4294967296) (k0 : k ≤ 100) :
    Calls Tryd.prog 69 #[p, .slice (some ⟨g, o, none⟩) n c, .int .u32 20, .int .u32 k] w (RetQ (.int .u32 v) w) := by
  have L := Lib.hid (le32_rd h hk v0 v1 (n - (20 + 4 * k)) (c - (20 + 4 * k)) (by omega))
  have f1 : (k : Int) ≤ 100 := by omega
  have f0 : (0 : Int) ≤ k := by omega
  have n0 : (24 : Int) + 4 * k ≤ n := by omega
  clear h hk
  go_enter Tryd.func69, Tryd.ntmps69
  go_wp2_with fail
  refine L.out.mono ?_
  rintro e w1 ⟨rfl, m, rfl⟩
  go_wp2_with fail
  go_ret
  exact ⟨rfl, m, rfl⟩
set_option maxRecDepth 100000 in
theorem functionFile_any {g o n c : Nat} {xs : List Int} {w : World} (f t k : Nat) (v : Int) (h : At w g o xs) (hg : g < w.heap.size) (hn : 24 + 4 * f ≤ n) (hc : n ≤ c) (k0 : Has xs 16 (le4 f)) (k1 : Has xs (20 + 4 * f) (le4 t)) (hf : f ≤ 100) (ht : t ≤ 100)
    (hk : Has xs (20 + 4 * k) (le4 v)) (v0 : 0 ≤ v) (v1 : v < 4294967296) (kf : k < f) :
    Calls Tryd.prog 36 #[.slice (some ⟨g, o, none⟩) n c, .int .u32 k] w (RetV (.int .u32 v) w) := by
  have hb : Below w.heap.size w (w.alloc (.cells (funCells 0 0 0 0 0 (.slice none 0 0) (.slice none 0 0)) 105)) := by (repeat' (first | (with_reducible exact Below.refl _ _) | (with_reducible assumption) | (with_reducible refine below_drewN ?_ _) | (with_reducible refine Below.alloc ?_ ?_ _) | (with_reducible refine Below.drew ?_) | (with_reducible refine Below.setCell ?_ ?_ _) | go_size))
  have H := Lib.hid (h.here hb)
  have L := Lib.hid (fun p => readLengths_any p f t (h.here hb) (by simp; omega) hn hc k0 k1 hf ht)
  have HB := Lib.hid hb
  have HK := Lib.hid hk
  clear h k0 k1 hb hk
  go_enter Tryd.func36, Tryd.ntmps36
  go_wp2_with fail
  refine (L.out _).mono ?_
  rintro e w1 ⟨rfl, hb1⟩
  unfold lenVal
  have q1 := run_len1 f t
  have B1 := Lib.hid (below_from HB.out hb1)
  have R := Lib.hid (fun p => readFile_any (n := n) (c := c) p k v (H.out.here hb1) (by omega) hc HK.out v0 v1 (by omega))
  clear hb1
  go_wp2_with fail
  refine (R.out _).mono ?_
  rintro e w2 ⟨rfl, m, rfl⟩
  go_wp2_with fail
  go_ret
  exact ⟨rfl, below_drewN B1.out m⟩

set_option maxHeartbeats 400000 in
theorem readInlTree_any {g o n c : Nat} {xs : List Int} {w : World} (p : Value) (f k : Nat) (x : Nd) (h : At w g o xs) (hg : g < w.heap.size) (hx : xs.length = n) (hn : 48 + 4 * f + k * 24 ≤ n) (hc : n ≤ c) (hk : Has xs (24 + 4 * f + k * 24) x.bytes) (ok : x.Ok) (f0 : f ≤ 100) (k0 : k ≤ 100) :
    Calls Tryd.prog 70 #[p, .slice (some ⟨g, o, none⟩) n c, .int .u32 (24 + 4 * f), .int .u32 k] w (RetV (nodeVal x.a x.f x.l x.p x.y x.c) w) := by
  have hb : Below w.heap.size w ((w.alloc (.cells (nodeCells 0 0 0 0 0 0) 94)).alloc (.cells (nodeCells 0 0 0 0 0 0) 94)) := by (repeat' (first | (with_reducible exact Below.refl _ _) | (with_reducible assumption) | (with_reducible refine below_drewN ?_ _) | (with_reducible refine Below.alloc ?_ ?_ _) | (with_reducible refine Below.drew ?_) | (with_reducible refine Below.setCell ?_ ?_ _) | go_size))
  have R0 := Lib.hid ((Blk.new w 94 (nodeCells 0 0 0 0 0 0)).alloc (.cells (nodeCells 0 0 0 0 0 0) 94))
  have N0 := Lib.hid (Blk.new1 w (.cells (nodeCells 0 0 0 0 0 0) 94) 94 (nodeCells 0 0 0 0 0 0))
  have H := Lib.hid ((h.here hb).drop (24 + 4 * f + k * 24))
  have D := Lib.hid hk.drop
  have HL := Lib.hid (show n - (24 + 4 * f + k * 24) = 24 + (xs.drop (24 + 4 * f + k * 24 + x.bytes.length)).length from by rw [List.length_drop, hx]; show _ = 24 + (n - (24 + 4 * f + k * 24 + 24)); omega)
  have HB := Lib.hid hb
  have a0 : (0 : Int) ≤ f := by omega
  have a1 : (f : Int) ≤ 100 := by omega
  have b0 : (0 : Int) ≤ k := by omega
  have b1 : (k : Int) ≤ 100 := by omega
  have n0 : (48 : Int) + 4 * f + k * 24 ≤ n := by omega
  clear h hb hk
  go_enter Tryd.func70, Tryd.ntmps70
  go_wp2_with fail
  refine (inlRead_any (w.heap.size + 1) g _ _ _ _ _ x.a x.f x.l x.p x.y x.c _ _ N0.out rfl (by omega) HL.out (by omega) (by have h := H.out; rw [D.out] at h; exact h) (by simp; omega) ok.a.1 ok.a.2 ok.f.1 ok.f.2 ok.l.1 ok.l.2 ok.p.1 ok.p.2 ok.y.1 ok.y.2 ok.c.1 ok.c.2).mono ?_
  rintro e w1 ⟨rfl, _, N1, F1⟩
  have r1 := R0.out.fr F1 (by simp)
  have hc1 := N1.cell
  have hr1 := r1.cell
  have hf1 := r1.frozen
  have B1 := Lib.hid (HB.out.trans ⟨F1.os, F1.tape, F1.output, F1.size, fun k hk => F1.block k (Nat.lt_of_lt_of_le hk HB.out.size) (by simp; omega)⟩ : Below w.heap.size w w1)
  have R1 := Lib.hid r1
  have hz := F1.size
  clear r1 N1 F1
  go_wp2_with fail
  have hB := B1.out
  have hrc := R1.out.lt
  exact bodyPost_ret (v := nodeVal x.a x.f x.l x.p x.y x.c) (by simp [results, Tryd.results70, go_sem, hr1]) rfl ⟨rfl, by (repeat' (first | (with_reducible exact Below.refl _ _) | (with_reducible assumption) | (with_reducible refine below_drewN ?_ _) | (with_reducible refine Below.alloc ?_ ?_ _) | (with_reducible refine Below.drew ?_) | (with_reducible refine Below.setCell ?_ ?_ _) | go_size))⟩

set_option maxRecDepth 100000 in
set_option maxHeartbeats 400000 in
theorem functionInlined_any {g o n c : Nat} {xs : List Int} {w : World} (f t k : Nat) (x : Nd) (h : At w g o xs) (hg : g < w.heap.size) (hx : xs.length = n) (hn : 24 + 4 * f + t * 24 ≤ n) (hc : n ≤ c) (k0 : Has xs 16 (le4 f)) (k1 : Has xs (20 + 4 * f) (le4 t)) (hf : f ≤ 100) (ht : t ≤ 100)
    (hk : Has xs (24 + 4 * f + k * 24) x.bytes) (ok : x.Ok) (kf : k < t) :
    Calls Tryd.prog 37 #[.slice (some ⟨g, o, none⟩) n c, .int .u32 k] w (RetV (nodeVal x.a x.f x.l x.p x.y x.c) w) := by
  have hb : Below w.heap.size w ((w.alloc (.cells (nodeCells 0 0 0 0 0 0) 43)).alloc (.cells (funCells 0 0 0 0 0 (.slice none 0 0) (.slice none 0 0)) 105)) := by (repeat' (first | (with_reducible exact Below.refl _ _) | (with_reducible assumption) | (with_reducible refine below_drewN ?_ _) | (with_reducible refine Below.alloc ?_ ?_ _) | (with_reducible refine Below.drew ?_) | (with_reducible refine Below.setCell ?_ ?_ _) | go_size))
  have H := Lib.hid (h.here hb)
  have r0 := Lib.hid ((Blk.new w 43 (nodeCells 0 0 0 0 0 0)).alloc (.cells (funCells 0 0 0 0 0 (.slice none 0 0) (.slice none 0 0)) 105))
  have L := Lib.hid (fun p => readLengths_any p f t (h.here hb) (by simp; omega) (by omega) hc k0 k1 hf ht)
  have HB := Lib.hid hb
  have HK := Lib.hid hk
  have HX := Lib.hid hx
  clear h k0 k1 hb hk hx
  go_enter Tryd.func37, Tryd.ntmps37
  go_wp2_with fail
  refine (L.out _).mono ?_
  rintro e w1 ⟨rfl, hb1⟩
  unfold lenVal
  have q3 := run_len3 f t
  have r1 := Lib.hid (r0.out.here hb1)
  have B1 := Lib.hid (below_from HB.out hb1)
  have R := Lib.hid (fun p => readInlTree_any (n := n) (c := c) p f k x (H.out.here hb1) (Nat.lt_of_lt_of_le hg B1.out.size) HX.out (by omega) hc HK.out ok (by omega) (by omega))
  clear hb1
  go_wp2_with fail
  refine (R.out _).mono ?_
  rintro e w2 ⟨rfl, hb2⟩
  have r2 := Lib.hid (r1.out.here hb2)
  have B2 := Lib.hid (below_from B1.out hb2)
  clear hb2
  go_wp2_with fail
  refine (toldNode_any x.a x.f x.l x.p x.y x.c w2).mono ?_
  rintro e w3 ⟨rfl, hb3⟩
  have r3 := r2.out.here hb3
  have B3 := Lib.hid (below_from B2.out hb3)
  have hrc := r3.cell
  have hrf := r3.frozen
  have hz := r3.lt
  clear r3 hb3
  go_wp2_with fail
  have hB := B3.out
  have hzz := hB.size
  exact bodyPost_ret (v := nodeVal x.a x.f x.l x.p x.y x.c) (by simp [results, Tryd.results37, go_sem, hrc]) rfl ⟨rfl, by (repeat' (first | (with_reducible exact Below.refl _ _) | (with_reducible assumption) | (with_reducible refine below_drewN ?_ _) | (with_reducible refine Below.alloc ?_ ?_ _) | (with_reducible refine Below.drew ?_) | (with_reducible refine Below.setCell ?_ ?_ _) | go_size))⟩
end Go.Proofs.YtnbojmciolecgaaDoor
