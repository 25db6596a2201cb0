/- An element's decoder: its numbers. (printed by gen_pds.py) -/
import Derived.Lib.Zigzag
import Derived.Test.YtedjadicdodahaaGreatDoorQRd
import Derived.Test.YtedjadicdodahaaGreatDoorQDe
import Derived.Test.YtedjadicdodahaaGreatDoorPIn
import Derived.Test.YtedjadicdodahaaGreatDoorQPe
namespace Go.Proofs.YtedjadicdodahaaGreatDoor
open Go.RowKit

/-- A decoder of an element: block d, of the package's decoder pb; it reads t, at i. -/
structure Dst (pb : Nat) (s : Bool) (d : Nat) (R : Nat → Option Value) (t : ByteArray) (i : Nat) (w : World) : Prop where
  rs : Rs 87 R d 2 t i w
  pt : R 0 = some (.pointer (some ⟨pb, 0, none⟩))
  sy : w.cell? ⟨pb, 1, none⟩ = some (.bool s)
  ne : pb ≠ d
  sz : t.size ≤ 1000000000
/-- What a step of a decoder leaves. -/
def Dmet (pb : Nat) (s : Bool) (d : Nat) (R : Nat → Option Value) (t : ByteArray) (i : Nat) (v : Value) (w : World) (e : Ending) (w' : World) : Prop := e = .returned v ∧ Dst pb s d R t i w' ∧ Fr [d] w w'
section
variable {pb : Nat} {s : Bool} {d : Nat} {R : Nat → Option Value} {t : ByteArray} {i j : Nat} {w w' : World}
theorem Dst.fr (h : Dst pb s d R t i w) (r : Rs 87 R d 2 t j w') (f : Fr [d] w w') : Dst pb s d R t j w' := ⟨r, h.pt, f.cell h.sy (by simpa using h.ne), h.ne, h.sz⟩
theorem Dst.here (h : Dst pb s d R t i w) (f : Below w.heap.size w w') : Dst pb s d R t i w' := ⟨h.rs.here f, h.pt, keep_cell f h.sy, h.ne, h.sz⟩
theorem Dst.c0 (h : Dst pb s d R t i w) : w.cell? ⟨d, 0, none⟩ = some (.pointer (some ⟨pb, 0, none⟩)) := by
  obtain ⟨pr, h3⟩ := h.rs
  rw [h3.rest 0 (by omega)]
  exact h.pt
theorem Dst.lt (h : Dst pb s d R t i w) : d < w.heap.size := h.rs.lt
theorem Dst.drewN (h : Dst pb s d R t i w) (n : Nat) : Dst pb s d R t i (w.drewN n) := h.here (below_drewN (Below.refl _ _) n)
end
theorem dErr_nil (d : Nat) (w : World) : Calls Tryz.prog 114 #[.pointer (some ⟨d, 0, none⟩), .nilIface] w (RetQ (.tuple #[]) w) := by
  go_enter Tryz.func114, Tryz.ntmps114
  go_wp2
  go_end0
  exact ⟨rfl, 0, rfl⟩
set_option maxRecDepth 100000 in
set_option maxHeartbeats 1000000 in
theorem dRaw_any {pb : Nat} {s : Bool} {d : Nat} {R : Nat → Option Value} {t : ByteArray} {i : Nat} {w : World} (h : Dst pb s d R t i w) (x : Nat) (hx : x < 18446744073709551616) (hs : Sat t i (uv x)) :
    Calls Tryz.prog 101 #[.pointer (some ⟨d, 0, none⟩)] w (Dmet pb s d R t (i + (uv x).length) (.int .u64 x) w) := by
  have RU := Lib.hid (readUvarint_any h.rs x hx hs h.sz)
  have H := Lib.hid h
  clear h hs
  go_enter Tryz.func101, Tryz.ntmps101
  go_wp2_with fail
  refine RU.out.mono ?_
  rintro e w1 ⟨rfl, r1, f1⟩
  have R1 := Lib.hid r1
  have F1 := Lib.hid f1
  clear r1 f1
  go_wp2_with fail
  refine (dErr_nil d w1).mono ?_
  rintro e w2 ⟨rfl, n2, rfl⟩
  go_wp2_with fail
  go_returns
  exact ⟨rfl, (H.out.fr R1.out F1.out).drewN n2, F1.out.drewN n2⟩
set_option maxRecDepth 100000 in
set_option maxHeartbeats 1000000 in
theorem dVar_any {pb : Nat} {s : Bool} {d : Nat} {R : Nat → Option Value} {t : ByteArray} {i : Nat} {w : World} (h : Dst pb s d R t i w) (x : Int) (h0 : -9223372036854775808 ≤ x) (h1 : x < 9223372036854775808) (hs : Sat t i (uv (Lib.zigzag x))) :
    Calls Tryz.prog 127 #[.pointer (some ⟨d, 0, none⟩)] w (Dmet pb s d R t (i + (uv (Lib.zigzag x)).length) (.int .i64 x) w) := by
  have RU := Lib.hid (dRaw_any h (Lib.zigzag x) (zigzag_lt h0 h1) hs)
  have HZ := zigzag_lt h0 h1
  by_cases hneg : x < 0
  · have hz : ((Lib.zigzag x : Nat) : Int) = -2 * x - 1 := by
      unfold Lib.zigzag
      rw [if_neg (by omega)]
      omega
    obtain ⟨z, hzz⟩ : ∃ z, z = Lib.zigzag x := ⟨_, rfl⟩
    rw [← hzz] at RU hz HZ ⊢
    obtain rfl : x = -((z : Int) / 2) - 1 := by omega
    have ha : bits .and .u64 (z : Int) 1 = 1 := by rw [Lib.u64_and1 _ (by omega) (by omega)]; omega
    have hn : bits .xor .i64 (-1) ((z : Int) / 2) = -((z : Int) / 2) - 1 := by
      have h3 := Lib.i64_not (z / 2) (by omega)
      rw [show (((z / 2 : Nat) : Int)) = (z : Int) / 2 by omega] at h3
      exact h3
    have z0 : (0 : Int) ≤ z := by omega
    have z1 : (z : Int) < 18446744073709551616 := by omega
    have sg : IntKind.i64.signed = true := rfl
    clear h hs hzz hz hneg h0 h1 HZ
    go_enter Tryz.func127, Tryz.ntmps127
    go_wp2_with fail
    refine RU.out.mono ?_
    rintro e w1 ⟨rfl, d1, f1⟩
    have D1 := Lib.hid d1
    have F1 := Lib.hid f1
    clear d1 f1
    go_wp2_with fail
    go_returns
    exact ⟨by rfl, D1.out, F1.out⟩
  · obtain ⟨n, rfl⟩ : ∃ n : Nat, x = n := ⟨x.toNat, by omega⟩
    have hz : Lib.zigzag (n : Int) = 2 * n := by
      unfold Lib.zigzag
      rw [if_pos (by omega)]
      omega
    obtain ⟨z, hzz⟩ : ∃ z, z = Lib.zigzag (n : Int) := ⟨_, rfl⟩
    rw [← hzz] at RU hz HZ ⊢
    have ha : bits .and .u64 (z : Int) 1 = 0 := by rw [Lib.u64_and1 _ (by omega) (by omega)]; omega
    have hd : (z : Int) / 2 = n := by omega
    have hw : IntKind.i64.wrap (n : Int) = n := by rw [IntKind.wrap_i64]; omega
    have z0 : (0 : Int) ≤ z := by omega
    have z1 : (z : Int) < 18446744073709551616 := by omega
    clear h hs hzz hz
    go_enter Tryz.func127, Tryz.ntmps127
    go_wp2_with fail
    refine RU.out.mono ?_
    rintro e w1 ⟨rfl, d1, f1⟩
    have D1 := Lib.hid d1
    have F1 := Lib.hid f1
    clear d1 f1
    go_wp2_with fail
    go_returns
    exact ⟨by simp, D1.out, F1.out⟩
theorem Tryz.infoInt : (Tryz.prog.info? 3).map (fun i => (i.zero, i.size, i.bytes)) = some (some (.int .i64 0), 1, 8) := by kernel_rfl
set_option maxRecDepth 100000 in
set_option maxHeartbeats 1000000 in
theorem dSync_any {pb : Nat} {s : Bool} {d : Nat} {R : Nat → Option Value} {t : ByteArray} {i : Nat} {w : World} (h : Dst pb s d R t i w) (m : Nat) (hm : m < 128) (hs : Sat t i (sy s m)) :
    Calls Tryz.prog 78 #[.pointer (some ⟨d, 0, none⟩), .int .i64 m] w (Dmet pb s d R t (i + (sy s m).length) (.tuple #[]) w) := by
  have c0 := h.c0
  have c1 := h.sy
  cases s
  · have H := Lib.hid h
    clear h hs
    go_enter Tryz.func78, Tryz.ntmps78
    go_wp2_with fail
    go_end0
    exact ⟨rfl, H.out, Fr.refl _ _⟩
  · have sa : Sat t i (uv m ++ uv 0) := hs
    have RU := Lib.hid (dRaw_any h m (by omega) sa.left)
    have SB := Lib.hid sa.right
    have HL := Lib.hid (show i + (sy true m).length = i + (uv m).length + (uv 0).length from by
      show i + (uv m ++ uv 0).length = _
      rw [List.length_append, Nat.add_assoc])
    rw [HL.out]
    have m0 : (0 : Int) ≤ m := by omega
    have m1 : (m : Int) < 128 := by omega
    clear h hs sa
    go_enter Tryz.func78, Tryz.ntmps78
    go_wp2_with fail
    refine RU.out.mono ?_
    rintro e w1 ⟨rfl, d1, f1⟩
    have D1 := Lib.hid d1
    have F1 := Lib.hid f1
    have RV := Lib.hid (show Calls Tryz.prog 101 #[.pointer (some ⟨d, 0, none⟩)] w1 (Dmet pb true d R t (i + (uv m).length + (uv 0).length) (.int .u64 0) w1) from dRaw_any d1 0 (by decide) SB.out)
    clear d1 f1 c0 c1
    go_wp2_with fail
    refine RV.out.mono ?_
    rintro e w2 ⟨rfl, d2, f2⟩
    have D2 := Lib.hid d2
    have F2 := Lib.hid (F1.out.trans1 f2)
    clear d2 f2
    obtain ⟨i0, hi0, hz0, hz1, hz2⟩ := info_parts Tryz.infoInt
    obtain ⟨M, hM⟩ : ∃ M, M = madeCells (Value.int .i64 0).cells (0 * i0.size) := ⟨_, rfl⟩
    have hmk : ∀ W : World, (Instr.makeSlice 193 (.int .u64 0) (.int .u64 0)).run Tryz.prog W = .ok (.slice (some ⟨W.heap.size, 0, none⟩) 0 0) (W.alloc (.cells M 3)) := fun W => by
      have h := run_makeSlice (P := Tryz.prog) W 193 3 i0 (.int .i64 0) Tryz.underlying193 hi0 hz0 .u64 .u64 0 0 (by omega) (by omega) (by rw [hz1]; omega) (by rw [hz2]; omega) (by omega)
      rw [show ((0 : Int)).toNat = 0 from rfl, ← hM] at h
      exact h
    clear hM hz0 hz1 hz2 hi0
    go_wp2_with fail
    obtain ⟨w3, hw3⟩ : ∃ w3 : World, w3 = w2.alloc (.cells M 3) := ⟨_, rfl⟩
    have D3 := Lib.hid (show Dst pb true d R t (i + (uv m).length + (uv 0).length) w3 from by rw [hw3]; exact D2.out.here (Below.alloc (Below.refl _ _) (Nat.le_refl _) _))
    have F3 := Lib.hid (show Fr [d] w w3 from by rw [hw3]; exact F2.out.alloc _)
    clear D2 F2
    rw [← hw3]
    clear hw3 hmk
    go_loopw [6, 23] (fun _ x wr => x = .int .i64 0 ∧ wr = w3) (fun _ _ _ => 0)
    case atStart => exact ⟨rfl, rfl⟩
    case round =>
      obtain ⟨rfl, rfl⟩ := hrel
      go_wp2_with fail
      go_end0
      exact ⟨rfl, D3.out, F3.out⟩
set_option maxRecDepth 100000 in
set_option maxHeartbeats 1000000 in
theorem dUint64_any {pb : Nat} {s : Bool} {d : Nat} {R : Nat → Option Value} {t : ByteArray} {i : Nat} {w : World} (h : Dst pb s d R t i w) (x : Nat) (hx : x < 18446744073709551616) (hs : Sat t i (eU s x)) :
    Calls Tryz.prog 102 #[.pointer (some ⟨d, 0, none⟩)] w (Dmet pb s d R t (i + (eU s x).length) (.int .u64 x) w) := by
  have sa : Sat t i (sy s 4 ++ (uv x)) := hs
  have SA0 := Lib.hid (sa).left
  have SA1 := Lib.hid (sa.right)
  have HL := Lib.hid (show i + (eU s x).length = i + (sy s 4).length + (uv x).length from by
    show i + (sy s 4 ++ (uv x)).length = _
    simp only [List.length_append, Nat.add_assoc])
  rw [HL.out]
  have D0 := Lib.hid h
  clear h hs sa
  go_enter Tryz.func102, Tryz.ntmps102
  go_wp2_with fail
  refine (dSync_any D0.out 4 (by decide) SA0.out).mono ?_
  rintro e w1 ⟨rfl, d1, f1⟩
  have D1 := Lib.hid d1
  have F1 := Lib.hid f1
  clear d1 f1
  go_wp2_with fail
  refine (dRaw_any D1.out x hx SA1.out).mono ?_
  rintro e w2 ⟨rfl, d2, f2⟩
  have D2 := Lib.hid d2
  have F2 := Lib.hid (F1.out.trans1 f2)
  clear d2 f2
  go_wp2_with fail
  go_returns
  exact ⟨rfl, D2.out, F2.out⟩
set_option maxRecDepth 100000 in
set_option maxHeartbeats 1000000 in
theorem dInt64_any {pb : Nat} {s : Bool} {d : Nat} {R : Nat → Option Value} {t : ByteArray} {i : Nat} {w : World} (h : Dst pb s d R t i w) (x : Int) (h0 : -9223372036854775808 ≤ x) (h1 : x < 9223372036854775808) (hs : Sat t i (eI s x)) :
    Calls Tryz.prog 116 #[.pointer (some ⟨d, 0, none⟩)] w (Dmet pb s d R t (i + (eI s x).length) (.int .i64 x) w) := by
  have sa : Sat t i (sy s 3 ++ (uv (Lib.zigzag x))) := hs
  have SA0 := Lib.hid (sa).left
  have SA1 := Lib.hid (sa.right)
  have HL := Lib.hid (show i + (eI s x).length = i + (sy s 3).length + (uv (Lib.zigzag x)).length from by
    show i + (sy s 3 ++ (uv (Lib.zigzag x))).length = _
    simp only [List.length_append, Nat.add_assoc])
  rw [HL.out]
  have D0 := Lib.hid h
  clear h hs sa
  go_enter Tryz.func116, Tryz.ntmps116
  go_wp2_with fail
  refine (dSync_any D0.out 3 (by decide) SA0.out).mono ?_
  rintro e w1 ⟨rfl, d1, f1⟩
  have D1 := Lib.hid d1
  have F1 := Lib.hid f1
  clear d1 f1
  go_wp2_with fail
  refine (dVar_any D1.out x h0 h1 SA1.out).mono ?_
  rintro e w2 ⟨rfl, d2, f2⟩
  have D2 := Lib.hid d2
  have F2 := Lib.hid (F1.out.trans1 f2)
  clear d2 f2
  go_wp2_with fail
  go_returns
  exact ⟨rfl, D2.out, F2.out⟩
set_option maxRecDepth 100000 in
set_option maxHeartbeats 1000000 in
theorem dLen_any {pb : Nat} {s : Bool} {d : Nat} {R : Nat → Option Value} {t : ByteArray} {i : Nat} {w : World} (h : Dst pb s d R t i w) (x : Nat) (hx : x < 9223372036854775808) (hs : Sat t i (eU s x)) :
    Calls Tryz.prog 79 #[.pointer (some ⟨d, 0, none⟩)] w (Dmet pb s d R t (i + (eU s x).length) (.int .i64 x) w) := by
  have sa : Sat t i (eU s x) := hs
  have SA0 := Lib.hid sa
  have D0 := Lib.hid h
  have x0 : (0 : Int) ≤ x := by omega
  have x1 : (x : Int) < 9223372036854775808 := by omega
  have wi : IntKind.i64.wrap (x : Int) = x := by rw [IntKind.wrap_i64]; omega
  have wu : IntKind.u64.wrap (x : Int) = x := by rw [IntKind.wrap_u64]; omega
  clear h hs sa
  go_enter Tryz.func79, Tryz.ntmps79
  go_wp2_with fail
  refine (dUint64_any D0.out x (by omega) SA0.out).mono ?_
  rintro e w1 ⟨rfl, d1, f1⟩
  have D1 := Lib.hid d1
  have F1 := Lib.hid f1
  clear d1 f1
  go_wp2_with fail
  refine (assert_true _).mono ?_
  rintro e w9 ⟨rfl, n9, rfl⟩
  go_wp2_with fail
  go_returns
  exact ⟨rfl, D1.out.drewN n9, F1.out.drewN n9⟩
set_option maxRecDepth 100000 in
set_option maxHeartbeats 1000000 in
theorem dInt_any {pb : Nat} {s : Bool} {d : Nat} {R : Nat → Option Value} {t : ByteArray} {i : Nat} {w : World} (h : Dst pb s d R t i w) (x : Int) (h0 : -9223372036854775808 ≤ x) (h1 : x < 9223372036854775808) (hs : Sat t i (eI s x)) :
    Calls Tryz.prog 117 #[.pointer (some ⟨d, 0, none⟩)] w (Dmet pb s d R t (i + (eI s x).length) (.int .i64 x) w) := by
  have sa : Sat t i (eI s x) := hs
  have SA0 := Lib.hid sa
  have D0 := Lib.hid h
  clear h hs sa
  go_enter Tryz.func117, Tryz.ntmps117
  go_wp2_with fail
  refine (dInt64_any D0.out x h0 h1 SA0.out).mono ?_
  rintro e w1 ⟨rfl, d1, f1⟩
  have D1 := Lib.hid d1
  have F1 := Lib.hid f1
  clear d1 f1
  go_wp2_with fail
  refine (assert_true _).mono ?_
  rintro e w9 ⟨rfl, n9, rfl⟩
  go_wp2_with fail
  go_returns
  exact ⟨rfl, D1.out.drewN n9, F1.out.drewN n9⟩
set_option maxRecDepth 100000 in
set_option maxHeartbeats 1000000 in
theorem dUint_any {pb : Nat} {s : Bool} {d : Nat} {R : Nat → Option Value} {t : ByteArray} {i : Nat} {w : World} (h : Dst pb s d R t i w) (x : Nat) (hx : x < 18446744073709551616) (hs : Sat t i (eU s x)) :
    Calls Tryz.prog 118 #[.pointer (some ⟨d, 0, none⟩)] w (Dmet pb s d R t (i + (eU s x).length) (.int .u64 x) w) := by
  have sa : Sat t i (eU s x) := hs
  have SA0 := Lib.hid sa
  have D0 := Lib.hid h
  clear h hs sa
  go_enter Tryz.func118, Tryz.ntmps118
  go_wp2_with fail
  refine (dUint64_any D0.out x hx SA0.out).mono ?_
  rintro e w1 ⟨rfl, d1, f1⟩
  have D1 := Lib.hid d1
  have F1 := Lib.hid f1
  clear d1 f1
  go_wp2_with fail
  refine (assert_true _).mono ?_
  rintro e w9 ⟨rfl, n9, rfl⟩
  go_wp2_with fail
  go_returns
  exact ⟨rfl, D1.out.drewN n9, F1.out.drewN n9⟩
set_option maxRecDepth 100000 in
set_option maxHeartbeats 1000000 in
theorem dCode_any {pb : Nat} {s : Bool} {d : Nat} {R : Nat → Option Value} {t : ByteArray} {i : Nat} {w : World} (h : Dst pb s d R t i w) (m : Nat) (hm : m < 128) (x : Nat) (hx : x < 9223372036854775808) (hs : Sat t i (sy s m ++ eU s x)) :
    Calls Tryz.prog 122 #[.pointer (some ⟨d, 0, none⟩), .int .i64 m] w (Dmet pb s d R t (i + (sy s m ++ eU s x).length) (.int .i64 x) w) := by
  have sa : Sat t i (sy s m ++ (eU s x)) := hs
  have SA0 := Lib.hid (sa).left
  have SA1 := Lib.hid (sa.right)
  have HL := Lib.hid (show i + (sy s m ++ eU s x).length = i + (sy s m).length + (eU s x).length from by
    show i + (sy s m ++ (eU s x)).length = _
    simp only [List.length_append, Nat.add_assoc])
  rw [HL.out]
  have D0 := Lib.hid h
  clear h hs sa
  go_enter Tryz.func122, Tryz.ntmps122
  go_wp2_with fail
  refine (dSync_any D0.out m hm SA0.out).mono ?_
  rintro e w1 ⟨rfl, d1, f1⟩
  have D1 := Lib.hid d1
  have F1 := Lib.hid f1
  clear d1 f1
  go_wp2_with fail
  refine (dLen_any D1.out x hx SA1.out).mono ?_
  rintro e w2 ⟨rfl, d2, f2⟩
  have D2 := Lib.hid d2
  have F2 := Lib.hid (F1.out.trans1 f2)
  clear d2 f2
  go_wp2_with fail
  go_returns
  exact ⟨rfl, D2.out, F2.out⟩
set_option maxRecDepth 100000 in
set_option maxHeartbeats 1000000 in
theorem dBool_any {pb : Nat} {s : Bool} {d : Nat} {R : Nat → Option Value} {t : ByteArray} {i : Nat} {w : World} (h : Dst pb s d R t i w) (b : Bool) (hs : Sat t i (eB s b)) :
    Calls Tryz.prog 115 #[.pointer (some ⟨d, 0, none⟩)] w (Dmet pb s d R t (i + (eB s b).length) (.bool b) w) := by
  have sa : Sat t i (sy s 2 ++ [if b then 1 else 0]) := hs
  have SA0 := Lib.hid sa.left
  have SA1 := Lib.hid (show t.data.toList[i + (sy s 2).length]? = some (if b then 1 else 0) from by
    have h1 := sa.right.at 0 (by simp)
    simpa using h1)
  have HL := Lib.hid (show i + (eB s b).length = i + (sy s 2).length + 1 from by
    show i + (sy s 2 ++ [if b then 1 else 0]).length = _
    rw [List.length_append, List.length_singleton, Nat.add_assoc])
  rw [HL.out]
  have D0 := Lib.hid h
  clear h hs sa
  go_enter Tryz.func115, Tryz.ntmps115
  go_wp2_with fail
  refine (dSync_any D0.out 2 (by decide) SA0.out).mono ?_
  rintro e w1 ⟨rfl, d1, f1⟩
  have D1 := Lib.hid d1
  have F1 := Lib.hid f1
  clear d1 f1
  go_wp2_with fail
  refine (readByte_any D1.out.rs _ SA1.out D1.out.sz).mono ?_
  rintro e w2 ⟨rfl, r2, f2⟩
  have D2 := Lib.hid (D1.out.fr r2 f2)
  have F2 := Lib.hid (F1.out.trans1 f2)
  clear r2 f2
  cases b
  all_goals
    go_wp2_with fail
    refine (dErr_nil d w2).mono ?_
    rintro e w3 ⟨rfl, n3, rfl⟩
    go_wp2_with fail
    refine (assert_true _).mono ?_
    rintro e w9 ⟨rfl, n9, rfl⟩
    go_wp2_with fail
    go_returns
    exact ⟨rfl, D2.out.drewN _, F2.out.drewN _⟩
end Go.Proofs.YtedjadicdodahaaGreatDoor

namespace Go.Proofs.YtedjadicdodahaaGreatDoor
open Go.RowKit

theorem Dst.c1 {pb : Nat} {s : Bool} {d : Nat} {R : Nat → Option Value} {t : ByteArray} {i : Nat} {w : World} (h : Dst pb s d R t i w) : w.cell? ⟨d, 1, none⟩ = R 1 := by
  obtain ⟨pr, h3⟩ := h.rs
  exact h3.rest 1 (by omega)
set_option maxRecDepth 100000 in
set_option maxHeartbeats 1000000 in
theorem dRawReloc_any {w : World} (d : Nat) (n c g o j : Nat) (k x : Int) (c1 : w.cell? ⟨d, 1, none⟩ = some (.slice (some ⟨g, o, none⟩) n c)) (hj : j < n) (hn : n ≤ 1000000) (q0 : w.cell? ⟨g, o + j * 2, none⟩ = some (.int .i32 k)) (q1 : w.cell? ⟨g, o + j * 2 + 1, none⟩ = some (.int .i32 x)) :
    Calls Tryz.prog 129 #[.pointer (some ⟨d, 0, none⟩), .int .i32 k, .int .i64 j] w (RetV (.int .i32 x) w) := by
  have j0 : (0 : Int) ≤ j := by omega
  have j1 : (j : Int) < n := by omega
  have n1 : (n : Int) ≤ 1000000 := by omega
  go_enter Tryz.func129, Tryz.ntmps129
  go_wp2_with fail
  refine (assert_true _).mono ?_
  rintro e w9 ⟨rfl, n9, rfl⟩
  go_wp2_with fail
  go_returns
  exact ⟨rfl, by (repeat' (first | (with_reducible exact Below.refl _ _) | (with_reducible assumption) | (with_reducible refine below_drewN ?_ _) | (with_reducible refine Below.alloc ?_ ?_ _) | (with_reducible refine Below.drew ?_) | (with_reducible refine Below.setCell ?_ ?_ _) | go_size))⟩
set_option maxRecDepth 100000 in
set_option maxHeartbeats 1000000 in
theorem dReloc_any {pb : Nat} {s : Bool} {d : Nat} {R : Nat → Option Value} {t : ByteArray} {i : Nat} {w : World} (h : Dst pb s d R t i w) (n c g o j : Nat) (k x : Int) (hR : R 1 = some (.slice (some ⟨g, o, none⟩) n c)) (hg : g ≠ d) (hj : j < n) (hn : n ≤ 1000000) (q0 : w.cell? ⟨g, o + j * 2, none⟩ = some (.int .i32 k)) (q1 : w.cell? ⟨g, o + j * 2 + 1, none⟩ = some (.int .i32 x)) (hs : Sat t i (sy s 10 ++ eU s j)) :
    Calls Tryz.prog 121 #[.pointer (some ⟨d, 0, none⟩), .int .i32 k] w (Dmet pb s d R t (i + (sy s 10 ++ eU s j).length) (.int .i32 x) w) := by
  have SA0 := Lib.hid hs.left
  have SA1 := Lib.hid hs.right
  have HL := Lib.hid (show i + (sy s 10 ++ eU s j).length = i + (sy s 10).length + (eU s j).length from by
    simp only [List.length_append, Nat.add_assoc])
  rw [HL.out]
  have D0 := Lib.hid h
  have Q0 := Lib.hid q0
  have Q1 := Lib.hid q1
  have HR := Lib.hid hR
  clear h hs q0 q1 hR
  go_enter Tryz.func121, Tryz.ntmps121
  go_wp2_with fail
  refine (dSync_any D0.out 10 (by decide) SA0.out).mono ?_
  rintro e w1 ⟨rfl, d1, f1⟩
  have D1 := Lib.hid d1
  have F1 := Lib.hid f1
  clear d1 f1
  go_wp2_with fail
  refine (dLen_any D1.out j (by omega) SA1.out).mono ?_
  rintro e w2 ⟨rfl, d2, f2⟩
  have D2 := Lib.hid d2
  have F2 := Lib.hid (F1.out.trans1 f2)
  clear d2 f2
  go_wp2_with fail
  refine (dRawReloc_any d n c g o j k x (by rw [D2.out.c1]; exact HR.out) hj hn (F2.out.cell Q0.out (by simpa using hg)) (F2.out.cell Q1.out (by simpa using hg))).mono ?_
  rintro e w3 ⟨rfl, b3⟩
  have D3 := Lib.hid (D2.out.here b3)
  have F3 := Lib.hid (F2.out.trans0 b3)
  clear b3
  go_wp2_with fail
  go_returns
  exact ⟨rfl, D3.out, F3.out⟩
/-- What stands beside a decoder: the package's decoder, the references; w0 is the world ahead of the decoder's block. -/
structure Dbs (w0 : World) (pb v : Nat) (s : Bool) (path : ByteArray) (p : Pk) (fp : List UInt8) (sc : Value) (A : Option Addr) (rs : List (Int × Int)) : Prop where
  pk : PkQ pb v s path p fp sc w0
  cnt : (p.elems 10).length ≤ 1000000
  siz : (szs (p.elems 10)).sum ≤ 100000000
  rl : SlR 2 w0 A (rs.map fun r => [.int .i32 r.1, .int .i32 r.2])
  rn : rs.length ≤ 1000000
theorem Dbs.ref {w0 w : World} {pb v : Nat} {s : Bool} {path : ByteArray} {p : Pk} {fp : List UInt8} {sc : Value} {A : Option Addr} {rs : List (Int × Int)} (h : Dbs w0 pb v s path p fp sc A rs) (hb : Below w0.heap.size w0 w) {j : Nat} {k x : Int} (hj : rs[j]? = some (k, x)) :
    ∃ g o, A = some ⟨g, o, none⟩ ∧ g < w0.heap.size ∧ j < rs.length ∧ w.cell? ⟨g, o + j * 2, none⟩ = some (.int .i32 k) ∧ w.cell? ⟨g, o + j * 2 + 1, none⟩ = some (.int .i32 x) := by
  have hl := (List.getElem?_eq_some_iff.1 hj).1
  obtain ⟨g, o, rfl, hc⟩ := h.rl (by rw [List.length_map]; omega)
  have h0 := hc j [.int .i32 k, .int .i32 x] (by rw [List.getElem?_map, hj]; rfl)
  have c0 := h0 0 _ rfl
  have c1 := h0 1 _ rfl
  rw [Nat.add_zero] at c0
  exact ⟨g, o, rfl, World.block_lt_of_cell? w0 _ c0, hl, keep_cell hb c0, keep_cell hb c1⟩
set_option maxRecDepth 100000 in
set_option maxHeartbeats 1000000 in
theorem dString_any {w0 : World} {pb v : Nat} {s : Bool} {path : ByteArray} {p : Pk} {fp : List UInt8} {sc : Value} {A : Option Addr} {rs : List (Int × Int)} (B : Dbs w0 pb v s path p fp sc A rs) {d : Nat} {R : Nat → Option Value} {t : ByteArray} {i : Nat} {w : World} (h : Dst pb s d R t i w) (be : Below w0.heap.size w0 w) (dz : w0.heap.size ≤ d) (c : Nat) (hR : R 1 = some (.slice A rs.length c)) (j y : Nat) (T : ByteArray) (hj : rs[j]? = some (0, (y : Int))) (hy : (p 0)[y]? = some T) (hs : Sat t i (sy s 5 ++ (sy s 10 ++ eU s j))) :
    Calls Tryz.prog 119 #[.pointer (some ⟨d, 0, none⟩)] w (Dmet pb s d R t (i + (sy s 5 ++ (sy s 10 ++ eU s j)).length) (.string T) w) := by
  have SA0 := Lib.hid hs.left
  have SA1 := Lib.hid hs.right
  have HL := Lib.hid (show i + (sy s 5 ++ (sy s 10 ++ eU s j)).length = i + (sy s 5).length + (sy s 10 ++ eU s j).length from by
    simp only [List.length_append, Nat.add_assoc])
  rw [HL.out]
  obtain ⟨g, o, rfl, hg, hjl, q0, q1⟩ := B.ref be hj
  have hgd : g ≠ d := by omega
  have D0 := Lib.hid h
  have Q0 := Lib.hid q0
  have Q1 := Lib.hid q1
  have HR := Lib.hid hR
  have HB := Lib.hid B
  have BE := Lib.hid be
  have c0 := h.c0
  have hyl := (List.getElem?_eq_some_iff.1 hy).1
  have hyv := (List.getElem?_eq_some_iff.1 hy).2
  have BZ := Lib.hid be.size
  have PS := Lib.hid (fun (W : World) (hb : Below w0.heap.size w0 W) => show Calls Tryz.prog 128 #[.pointer (some ⟨pb, 0, none⟩), .int .i32 y] W (RetQ (.string T) W) from by
    have h1 := pkStringIdx_any (B.pk.here hb) y hyl B.cnt B.siz
    rw [hyv] at h1
    exact h1)
  clear h hs q0 q1 hR B be hyl hyv hy hj
  go_enter Tryz.func119, Tryz.ntmps119
  go_wp2_with fail
  refine (dSync_any D0.out 5 (by decide) SA0.out).mono ?_
  rintro e w1 ⟨rfl, d1, f1⟩
  have D1 := Lib.hid (d1.here (Below.drew (Below.refl _ _)))
  have F1 := Lib.hid f1.drew
  have c1 := D1.out.c0
  clear d1 f1 c0
  have RL := Lib.hid (dReloc_any D1.out rs.length c g o j 0 y HR.out hgd hjl HB.out.rn (F1.out.cell Q0.out (by simpa using hgd)) (F1.out.cell Q1.out (by simpa using hgd)) SA1.out)
  go_upto_region 2 with fail
  go_region_held3 (fun W => W.cell? ⟨d, 0, none⟩ = some (.pointer (some ⟨pb, 0, none⟩))) (first | exact c1 | exact c2 | exact c3 | go_keep)
    (first | (go_at_call 121; refine RL.out.mono ?_; rintro e w2 ⟨rfl, d2, f2⟩; have c2 := d2.c0; have D2 := Lib.hid d2; have F2 := Lib.hid (F1.out.trans1 f2); have B2 := Lib.hid (below_fr BE.out (F1.out.trans1 f2) (fun q hq => (List.mem_singleton.1 hq).symm ▸ dz) BZ.out); clear d2 f2) | (go_at_call 128; refine (PS.out w2 B2.out).mono ?_; rintro e w3 ⟨rfl, n3, rfl⟩; have c3 := (D2.out.drewN n3).c0))
  all_goals
    go_wp2_with fail
    go_returns
    exact ⟨rfl, D2.out.drewN n3, F2.out.drewN n3⟩
end Go.Proofs.YtedjadicdodahaaGreatDoor

namespace Go.Proofs.YtedjadicdodahaaGreatDoor
open Go.RowKit

/-- A decoder's cells. -/
abbrev dArr (pb : Nat) (rl : Value) (t : ByteArray) (i pr k x : Int) : Array Value := #[.pointer (some ⟨pb, 0, none⟩), rl, .string t, .int .i64 i, .int .i64 pr, .int .i32 k, .int .i32 x]
abbrev dR (pb : Nat) (rl : Value) (k x : Int) : Nat → Option Value := fun j => (dArr pb rl ⟨#[]⟩ 0 0 k x)[j]?
theorem Rs.of_blk {w : World} {pb d : Nat} {rl : Value} {t : ByteArray} {i : Nat} {pr k x : Int} (h : Blk w d 87 (dArr pb rl t i pr k x)) : Rs 87 (dR pb rl k x) d 2 t i w := by
  refine ⟨pr, _, h, rfl, rfl, rfl, fun j hj => ?_⟩
  match j, hj with
  | 0, _ => rfl
  | 1, _ => rfl
  | 2, hj => exact absurd hj (by omega)
  | 3, hj => exact absurd hj (by omega)
  | 4, hj => exact absurd hj (by omega)
  | 5, _ => rfl
  | 6, _ => rfl
  | j + 7, _ => rw [Array.getElem?_eq_none (by show 7 ≤ j + 7; omega)]; unfold dR; rw [Array.getElem?_eq_none (by show 7 ≤ j + 7; omega)]
theorem Rs.blk {w : World} {pb d : Nat} {rl : Value} {t : ByteArray} {i : Nat} {k x : Int} (h : Rs 87 (dR pb rl k x) d 2 t i w) : ∃ pr : Int, Blk w d 87 (dArr pb rl t i pr k x) := by
  obtain ⟨pr, cs, hb, h2, h3, h4, hr⟩ := h
  refine ⟨pr, ?_⟩
  have he : cs = dArr pb rl t i pr k x := by
    apply Array.ext_getElem?
    intro j
    match j with
    | 0 => exact hr 0 (by omega)
    | 1 => exact hr 1 (by omega)
    | 2 => exact h2
    | 3 => exact h3
    | 4 => exact h4
    | 5 => exact hr 5 (by omega)
    | 6 => exact hr 6 (by omega)
    | j + 7 =>
      rw [hr (j + 7) (by omega)]
      unfold dR
      rw [Array.getElem?_eq_none (by show 7 ≤ j + 7; omega), Array.getElem?_eq_none (by show 7 ≤ j + 7; omega)]
  rw [← he]
  exact hb
theorem Dst.far {pb : Nat} {s : Bool} {d : Nat} {R : Nat → Option Value} {t : ByteArray} {i : Nat} {w w' : World} {G : List Nat} (h : Dst pb s d R t i w) (f : Fr G w w') (hd : d ∉ G) (hp : pb ∉ G) : Dst pb s d R t i w' := ⟨h.rs.fr f hd, h.pt, f.cell h.sy hp, h.ne, h.sz⟩
theorem le_szs {l : List ByteArray} {t : ByteArray} (h : t ∈ l) : t.size ≤ (szs l).sum := by
  induction l with
  | nil => simp at h
  | cons x l ih =>
    have h2 : (szs (x :: l)).sum = x.size + (szs l).sum := by simp [szs]
    rw [h2]
    rcases List.mem_cons.1 h with rfl | h
    · omega
    · have := ih h
      omega
theorem Pk.at_size {p : Pk} {k i : Nat} (hk : k < 10) (hi : i < (p k).length) : (p k)[i].size ≤ (szs (p.elems 10)).sum := le_szs (List.mem_of_getElem? (p.elem_at k i hk hi))
set_option maxRecDepth 100000 in
theorem reset_any {w : World} {pb d : Nat} {rl : Value} {a : ByteArray} {i pr k x : Int} (h : Blk w d 87 (dArr pb rl a i pr k x)) (t : ByteArray) :
    Calls Tryz.prog 77 #[.pointer (some ⟨d, 2, none⟩), .string t] w fun e w' => e = .returned (.tuple #[]) ∧ Blk w' d 87 (dArr pb rl t 0 (-1) k x) ∧ Fr [d] w w' := by
  have c2 := h.cell 2
  have c3 := h.cell 3
  have c4 := h.cell 4
  have f2 := h.frozen 2
  have f3 := h.frozen 3
  have f4 := h.frozen 4
  have H := Lib.hid h
  clear h
  go_enter Tryz.func77, Tryz.ntmps77
  go_wp2
  go_end0
  refine ⟨rfl, ?_, by (repeat' (first | (with_reducible exact Fr.refl _ _) | (with_reducible assumption) | (with_reducible refine Fr.drewN ?_ _) | (with_reducible refine Fr.alloc ?_ _) | (with_reducible refine Fr.drew ?_) | (with_reducible refine Fr.setCell ?_ (.inl (by simp)) _) | (with_reducible refine Fr.setCell ?_ (.inr ?_) _) | go_size))⟩
  exact ((H.out.set_ 2 (.string t)).set_ 3 (.int .i64 0)).set_ 4 (.int .i64 (-1))
theorem Tryz.infoRel : (Tryz.prog.info? 131).map (fun i => (i.zero, i.size, i.bytes)) = some (some (.agg #[.int .i32 0, .int .i32 0]), 2, 8) := by kernel_rfl
/-- The references read so far. -/
structure Rels (g : Nat) (rs : List (Int × Int)) (j : Nat) (w : World) : Prop where
  is : ∃ cs : Array Value, Blk w g 131 cs ∧ cs.size = 2 * rs.length ∧ ∀ q r, q < j → rs[q]? = some r → cs[q * 2]? = some (.int .i32 r.1) ∧ cs[q * 2 + 1]? = some (.int .i32 r.2)
theorem Rels.fr {g : Nat} {rs : List (Int × Int)} {j : Nat} {w w' : World} {G : List Nat} (h : Rels g rs j w) (f : Fr G w w') (hg : g ∉ G) : Rels g rs j w' := by
  obtain ⟨cs, hb, h1, h2⟩ := h.is
  exact ⟨cs, hb.fr f hg, h1, h2⟩
theorem Rels.lt {g : Nat} {rs : List (Int × Int)} {j : Nat} {w : World} (h : Rels g rs j w) : g < w.heap.size := by
  obtain ⟨cs, hb, _, _⟩ := h.is
  exact hb.lt
theorem Rels.cells {g : Nat} {rs : List (Int × Int)} {j q : Nat} {w : World} (h : Rels g rs j w) (hq : q < rs.length) : (∃ y, w.cell? ⟨g, q * 2, none⟩ = some y) ∧ (∃ y, w.cell? ⟨g, q * 2 + 1, none⟩ = some y) ∧ w.frozen? ⟨g, q * 2, none⟩ = false ∧ w.frozen? ⟨g, q * 2 + 1, none⟩ = false := by
  obtain ⟨cs, hb, h1, _⟩ := h.is
  refine ⟨⟨cs[q * 2]'(by omega), ?_⟩, ⟨cs[q * 2 + 1]'(by omega), ?_⟩, hb.frozen _, hb.frozen _⟩
  · rw [hb.cell, Array.getElem?_eq_getElem]
  · rw [hb.cell, Array.getElem?_eq_getElem]
theorem Rels.next {g : Nat} {rs : List (Int × Int)} {j : Nat} {w : World} (h : Rels g rs j w) (hj : j < rs.length) : Rels g rs (j + 1) ((w.setCell ⟨g, j * 2, none⟩ (.int .i32 rs[j].1)).setCell ⟨g, j * 2 + 1, none⟩ (.int .i32 rs[j].2)) := by
  obtain ⟨cs, hb, h1, h2⟩ := h.is
  refine ⟨_, (hb.set_ (j * 2) (.int .i32 rs[j].1)).set_ (j * 2 + 1) (.int .i32 rs[j].2), by rw [Array.size_setIfInBounds, Array.size_setIfInBounds]; exact h1, fun q r hq hr => ?_⟩
  by_cases e : q = j
  · subst e
    rw [List.getElem?_eq_getElem hj, Option.some.injEq] at hr
    subst hr
    refine ⟨?_, ?_⟩
    · rw [Array.getElem?_setIfInBounds_ne (by omega), Array.getElem?_setIfInBounds_self_of_lt (by omega)]
    · rw [Array.getElem?_setIfInBounds_self_of_lt (by rw [Array.size_setIfInBounds]; omega)]
  · have h3 := h2 q r (by omega) hr
    refine ⟨?_, ?_⟩
    · rw [Array.getElem?_setIfInBounds_ne (by omega), Array.getElem?_setIfInBounds_ne (by omega)]
      exact h3.1
    · rw [Array.getElem?_setIfInBounds_ne (by omega), Array.getElem?_setIfInBounds_ne (by omega)]
      exact h3.2
theorem Rels.rows {g : Nat} {rs : List (Int × Int)} {w : World} (h : Rels g rs rs.length w) : SlR 2 w (some ⟨g, 0, none⟩) (rs.map fun r => [.int .i32 r.1, .int .i32 r.2]) := fun _ => by
  obtain ⟨cs, hb, h1, h2⟩ := h.is
  refine ⟨g, 0, rfl, fun q ps hq i u hu => ?_⟩
  rw [List.getElem?_map, Option.map_eq_some_iff] at hq
  obtain ⟨r, hr, rfl⟩ := hq
  have h3 := h2 q r (List.getElem?_eq_some_iff.1 hr).1 hr
  match i, hu with
  | 0, hu =>
    obtain rfl : Value.int .i32 r.1 = u := by simpa using hu
    rw [Nat.zero_add, Nat.add_zero, hb.cell]
    exact h3.1
  | 1, hu =>
    obtain rfl : Value.int .i32 r.2 = u := by simpa using hu
    rw [Nat.zero_add, hb.cell]
    exact h3.2
  | i + 2, hu => simp at hu
abbrev dzArr : Array Value := #[.pointer none, .slice none 0 0, .string ⟨#[]⟩, .int .i64 0, .int .i64 0, .int .i32 0, .int .i32 0]
set_option maxRecDepth 100000 in
set_option maxHeartbeats 4000000 in
theorem newDecoderRaw_any {pb v : Nat} {s : Bool} {path : ByteArray} {p : Pk} {fp : List UInt8} {sc : Value} {w : World} (h : PkQ pb v s path p fp sc w) (k i : Nat) (hk : k < 10) (hi : i < (p k).length) (hn : (p.elems 10).length ≤ 1000000) (hz : (szs (p.elems 10)).sum ≤ 100000000) (rs : List (Int × Int)) (ds : List UInt8) (ht : (p k)[i] = str (refsB s rs ++ ds)) (hr : ∀ r ∈ rs, (0 ≤ r.1 ∧ r.1 ≤ 2147483647) ∧ (0 ≤ r.2 ∧ r.2 ≤ 2147483647)) (hl : rs.length ≤ 1000000) :
    Calls Tryz.prog 33 #[.pointer (some ⟨pb, 0, none⟩), .int .i32 k, .int .i32 i] w fun e w' => ∃ (g : Nat) (pr : Int), e = .returned (.agg (dArr pb (.slice (some ⟨g, 0, none⟩) rs.length rs.length) (p k)[i] (refsB s rs).length pr k i)) ∧ SlR 2 w' (some ⟨g, 0, none⟩) (rs.map fun r => [.int .i32 r.1, .int .i32 r.2]) ∧ Below w.heap.size w w' := by
  have hsz := Pk.at_size hk hi
  have DI := Lib.hid (fun (W : World) (hb : Below w.heap.size w W) => dataIdx_any (h.here hb) k i hk hi hn hz)
  obtain ⟨t, ht9⟩ : ∃ t, t = (p k)[i] := ⟨_, rfl⟩
  rw [← ht9] at DI hsz ht ⊢
  obtain ⟨n, hn9⟩ : ∃ n, n = rs.length := ⟨_, rfl⟩
  have sat : Sat t 0 (refsB s rs) := by rw [ht]; exact (Sat.all _).left
  have sat2 : Sat t 0 (sy s 8 ++ (eU s n ++ rs.flatMap (refB s))) := by rw [hn9]; exact sat
  have SA0 := Lib.hid sat2.left
  have SA1 := Lib.hid sat2.right.left
  have SA2 := Lib.hid sat2.right.right
  have HE := Lib.hid (show (refsB s rs).length = 0 + (sy s 8).length + (eU s n).length + (rs.flatMap (refB s)).length from by
    show (sy s 8 ++ (eU s rs.length ++ rs.flatMap (refB s))).length = _
    rw [hn9]
    simp only [List.length_append]
    omega)
  have HSY := Lib.hid (show w.cell? ⟨pb, 1, none⟩ = some (.bool s) from by
    obtain ⟨_, _, hb, _⟩ := h.is
    exact hb.cell 1)
  have zpb : pb < w.heap.size := by
    obtain ⟨_, _, hb, _⟩ := h.is
    exact hb.lt
  obtain ⟨w0, hw0⟩ : ∃ w0, w0 = (w.alloc (.cells dzArr 87)).alloc (.cells (dArr pb (.slice none 0 0) ⟨#[]⟩ 0 0 k i) 87) := ⟨_, rfl⟩
  have b0 : Below w.heap.size w w0 := by rw [hw0]; exact Below.alloc (Below.alloc (Below.refl _ _) (Nat.le_refl _) _) (by simp) _
  have KA := Lib.hid (show Blk w0 w.heap.size 87 dzArr from by rw [hw0]; exact (Blk.new w _ _).alloc _)
  obtain ⟨d, hd⟩ : ∃ d, d = w.heap.size + 1 := ⟨_, rfl⟩
  have KD := Lib.hid (show Blk w0 d 87 (dArr pb (.slice none 0 0) ⟨#[]⟩ 0 0 k i) from by rw [hw0, hd]; exact Blk.new1 w _ _ _)
  have HW := Lib.hid hw0
  have HD := Lib.hid hd
  have B0 := Lib.hid b0
  have HR := Lib.hid hr
  have HN := Lib.hid hn9
  have n0 : (0 : Int) ≤ n := by omega
  have n1 : (n : Int) ≤ 1000000 := by omega
  have hsz2 : t.size ≤ 1000000000 := by omega
  clear h hsz ht9 ht sat sat2 hw0 b0 hd hr hn9 hl hz hn
  go_enter Tryz.func33, Tryz.ntmps33
  go_wp2_with fail
  rw [← HW.out, ← HD.out]
  refine (DI.out w0 B0.out).mono ?_
  rintro e w1 ⟨rfl, n1', rfl⟩
  go_wp2_with fail
  refine (reset_any (KD.out.drewN n1') t).mono ?_
  rintro e w2 ⟨rfl, kd2, f2⟩
  have hdw : d = w.heap.size + 1 := HD.out
  have B2 := Lib.hid (below_fr (below_drewN B0.out n1') f2 (fun q hq => by rw [List.mem_singleton.1 hq]; omega) B0.out.size)
  have KA2 := Lib.hid ((KA.out.drewN n1').fr f2 (by simp; omega))
  have D2 := Lib.hid (show Dst pb s d (dR pb (.slice none 0 0) k i) t 0 w2 from ⟨Rs.of_blk kd2, rfl, keep_cell B2.out HSY.out, by omega, hsz2⟩)
  clear kd2 f2 DI KD KA B0 HW hdw
  go_wp2_with fail
  refine (dSync_any D2.out 8 (by decide) SA0.out).mono ?_
  rintro e w3 ⟨rfl, d3, f3⟩
  have D3 := Lib.hid d3
  have F3 := Lib.hid f3
  clear d3 f3
  go_wp2_with fail
  refine (dLen_any D3.out n (by omega) SA1.out).mono ?_
  rintro e w4 ⟨rfl, d4, f4⟩
  have F4 := Lib.hid (F3.out.trans1 f4)
  have D4 := Lib.hid d4
  clear d4 f4
  obtain ⟨i0, hi0, hz0, hz1, hz2⟩ := info_parts Tryz.infoRel
  obtain ⟨M, hM⟩ : ∃ M, M = madeCells (Value.agg #[.int .i32 0, .int .i32 0]).cells (n * i0.size) := ⟨_, rfl⟩
  have hMs : M.size = 2 * n := by rw [hM, size_madeCells, hz1]; omega
  have hmk : ∀ W : World, (Instr.makeSlice 79 (.int .i64 (n : Int)) (.int .i64 (n : Int))).run Tryz.prog W = .ok (.slice (some ⟨W.heap.size, 0, none⟩) n n) (W.alloc (.cells M 131)) := fun W => by
    have h := run_makeSlice (P := Tryz.prog) W 79 131 i0 (.agg #[.int .i32 0, .int .i32 0]) Tryz.underlying79 hi0 hz0 .i64 .i64 (n : Int) (n : Int) (by omega) (by omega) (by rw [hz1]; omega) (by rw [hz2]; omega) (by omega)
    rw [show ((n : Int)).toNat = n from by omega, ← hM] at h
    exact h
  obtain ⟨pr, kd4⟩ := Rs.blk D4.out.rs
  have zd4 := kd4.lt
  have c1 : w4.cell? ⟨d, 1, none⟩ = some (.slice none 0 0) := kd4.cell 1
  have e1 := kd4.frozen 1
  have HMS := Lib.hid hMs
  have KD4 := Lib.hid kd4
  clear hM hMs hz0 hz1 hz2 hi0 kd4
  go_upto_region 5 with fail
  obtain ⟨w5, hw5⟩ : ∃ w5, w5 = (w4.setCell ⟨d, 1, none⟩ (.slice (some ⟨w4.heap.size, 0, none⟩) n n)).alloc (.cells M 131) := ⟨_, rfl⟩
  rw [← hw5]
  obtain ⟨g, hg⟩ : ∃ g, g = w4.heap.size := ⟨_, rfl⟩
  rw [← hg] at hw5 ⊢
  have f5 : Fr [d] w4 w5 := by rw [hw5]; exact (((Fr.refl [d] w4).setCell (.inl (by simp)) _).alloc _)
  have KD5 := Lib.hid (show Blk w5 d 87 (dArr pb (.slice (some ⟨g, 0, none⟩) n n) t (0 + (sy s 8).length + (eU s n).length : Nat) pr k i) from by
    rw [hw5]
    exact (KD4.out.set_ 1 _).alloc _)
  have hdw : d = w.heap.size + 1 := HD.out
  have zB2 := B2.out.size
  have zF4 := F4.out.size
  have R5 := Lib.hid (show Rels g rs 0 w5 from ⟨M, by
    have h9 := Blk.new (w4.setCell ⟨d, 1, none⟩ (.slice (some ⟨g, 0, none⟩) n n)) 131 M
    rw [show (w4.setCell ⟨d, 1, none⟩ (.slice (some ⟨g, 0, none⟩) n n)).heap.size = g from by rw [hg]; simp [World.setCell], ← hw5] at h9
    exact h9, by rw [HMS.out, HN.out], fun q r hq => by omega⟩)
  have B5 := Lib.hid (below_fr B2.out (F4.out.trans1 f5) (fun q hq => by rw [List.mem_singleton.1 hq]; omega) B2.out.size)
  have KA5 := Lib.hid (KA2.out.fr (F4.out.trans1 f5) (by simp; omega))
  have D5 := Lib.hid (show Dst pb s d (dR pb (.slice (some ⟨g, 0, none⟩) n n) k i) t (0 + (sy s 8).length + (eU s n).length) w5 from ⟨Rs.of_blk KD5.out, rfl, keep_cell B5.out HSY.out, by omega, hsz2⟩)
  have hgd : g ≠ d := by omega
  have hgw : w.heap.size + 1 < g := by omega
  have q1 : w5.cell? ⟨d, 1, none⟩ = some (.slice (some ⟨g, 0, none⟩) n n) := KD5.out.cell 1
  have hgr : g ≠ w.heap.size := by omega
  have hpg : pb ≠ g := by omega
  have GE := Lib.hid (show w.heap.size ≤ d ∧ w.heap.size ≤ g from ⟨by omega, by omega⟩)
  have hdr : d ≠ w.heap.size := by omega
  clear f5 hw5 hg c1 e1 hmk hdw hgw zB2 zF4 D2 D3 D4 F3 F4 KD4 KD5 KA2 B2
  go_wp2_with fail
  go_loopw [8, 26] (fun _ x wr => ∃ (j pos : Nat), j ≤ n ∧ x = .int .i64 j ∧ Dst pb s d (dR pb (.slice (some ⟨g, 0, none⟩) n n) k i) t pos wr ∧ Sat t pos ((rs.drop j).flatMap (refB s)) ∧ pos + ((rs.drop j).flatMap (refB s)).length = (refsB s rs).length ∧ Rels g rs j wr ∧ Blk wr w.heap.size 87 dzArr ∧ Below w.heap.size w wr) (fun _ x _ => n - (intOf x).toNat)
  case atStart => exact ⟨0, _, by omega, rfl, D5.out, SA2.out, by rw [HE.out]; rfl, R5.out, KA5.out, B5.out⟩
  case round =>
    obtain ⟨j, pos, hj, rfl, dj, sj, ej, rj, kj, bj⟩ := hrel
    have RJ := Lib.hid rj
    have KJ := Lib.hid kj
    have BJ := Lib.hid bj
    have EJ := Lib.hid ej
    have DJ := Lib.hid dj
    have qj := dj.c1
    by_cases hlt : j < n
    · have hjl : j < rs.length := by rw [← HN.out]; exact hlt
      rw [refs_drop s rs j hjl] at sj ej
      have s3 : Sat t pos (sy s 9 ++ (eU s rs[j].1.toNat ++ eU s rs[j].2.toNat)) := sj.left
      have S0 := Lib.hid s3.left
      have S1 := Lib.hid s3.right.left
      have S2 := Lib.hid s3.right.right
      have S3 := Lib.hid sj.right
      have LB := Lib.hid (show (refB s rs[j]).length = (sy s 9).length + ((eU s rs[j].1.toNat).length + (eU s rs[j].2.toNat).length) from by
        show (sy s 9 ++ (eU s rs[j].1.toNat ++ eU s rs[j].2.toNat)).length = _
        simp only [List.length_append])
      have EJ2 := Lib.hid (show pos + ((refB s rs[j]).length + ((rs.drop (j + 1)).flatMap (refB s)).length) = (refsB s rs).length from by
        rw [← ej, List.length_append])
      have hrr := HR.out rs[j] (List.getElem_mem hjl)
      have NX := Lib.hid (fun (W : World) (h : Rels g rs j W) => h.next hjl)
      have CE := Lib.hid (fun (W : World) (h : Rels g rs j W) => h.cells hjl)
      obtain ⟨⟨x, y⟩, hxy⟩ : ∃ r, r = rs[j] := ⟨_, rfl⟩
      rw [← hxy] at S1 S2 S3 LB EJ2 hrr NX
      obtain ⟨a, rfl⟩ : ∃ a : Nat, x = a := ⟨x.toNat, by simp only at hrr; omega⟩
      obtain ⟨b, rfl⟩ : ∃ b : Nat, y = b := ⟨y.toNat, by simp only at hrr; omega⟩
      simp only [Int.toNat_natCast] at S1 S2 S3 LB EJ2 hrr NX
      have wa : IntKind.i32.wrap (a : Int) = a := by rw [IntKind.wrap_i32]; omega
      have wb : IntKind.i32.wrap (b : Int) = b := by rw [IntKind.wrap_i32]; omega
      have ha : a < 9223372036854775808 := by omega
      have hb : b < 9223372036854775808 := by omega
      have j0 : (0 : Int) ≤ j := by omega
      have j1 : (j : Int) < n := by omega
      clear dj sj ej rj kj bj s3 hrr hxy
      go_wp2_with fail
      refine (dSync_any DJ.out 9 (by decide) S0.out).mono ?_
      rintro e w6 ⟨rfl, d6, f6⟩
      have D6 := Lib.hid (d6.here (Below.drew (Below.refl _ _)))
      have F6 := Lib.hid f6.drew
      have q6 : w6.drew.cell? ⟨d, 1, none⟩ = some (.slice (some ⟨g, 0, none⟩) n n) := D6.out.c1
      clear d6 f6 qj
      have L1 := Lib.hid (dLen_any D6.out a ha S1.out)
      have gd : g ∉ [d] := by simpa using hgd
      have dg : d ∉ [g] := by simpa using hgd.symm
      have pg : pb ∉ [g] := by simpa using hpg
      have rd : w.heap.size ∉ [d] := by simpa using hdr.symm
      have rg : w.heap.size ∉ [g] := by simpa using hgr.symm
      go_upto_region 9 with fail
      go_region_held3 (fun W => W.cell? ⟨d, 1, none⟩ = some (.slice (some ⟨g, 0, none⟩) n n)) (first | (with_reducible exact q6) | (with_reducible exact q7) | (with_reducible exact q8) | go_keep)
        (first
          | (go_at_call 79; refine L1.out.mono ?_; rintro e w7 ⟨rfl, d7, f7⟩; have D7 := Lib.hid d7; have F7 := Lib.hid (F6.out.trans1 f7); have q7 : w7.cell? ⟨d, 1, none⟩ = some (.slice (some ⟨g, 0, none⟩) n n) := D7.out.c1; clear d7 f7)
          | (go_at_call 79; refine (dLen_any D7.out b hb S2.out).mono ?_; rintro e w8 ⟨rfl, d8, f8⟩; have D8 := Lib.hid d8; have F8 := Lib.hid (F7.out.trans1 f8); have q8 : w8.cell? ⟨d, 1, none⟩ = some (.slice (some ⟨g, 0, none⟩) n n) := D8.out.c1; have R8 := Lib.hid (RJ.out.fr F8.out gd); obtain ⟨⟨y0, e0⟩, ⟨y1, e1⟩, x0, x1⟩ := CE.out w8 R8.out; clear d8 f8))
      all_goals
        have KJ8 := Lib.hid (KJ.out.fr F8.out rd)
        have B8 := Lib.hid (below_fr BJ.out F8.out (fun q hq => by rw [List.mem_singleton.1 hq]; exact GE.out.1) BJ.out.size)
        have F9 := Lib.hid (((Fr.refl [g] w8).setCell (p := ⟨g, j * 2, none⟩) (.inl (List.mem_singleton.2 rfl)) (.int .i32 a)).setCell (p := ⟨g, j * 2 + 1, none⟩) (.inl (List.mem_singleton.2 rfl)) (.int .i32 b))
        clear q6 q7 q8 e0 e1 x0 x1
        go_wp2_with fail
        go_roundw
        case rel => exact ⟨j + 1, pos + (refB s ((a : Int), (b : Int))).length, by omega, by go_num, by rw [LB.out, ← Nat.add_assoc, ← Nat.add_assoc]; exact D8.out.far F9.out dg pg, S3.out, by rw [Nat.add_assoc]; exact EJ2.out, NX.out _ R8.out, KJ8.out.fr F9.out rg, below_fr B8.out F9.out (fun q hq => by rw [List.mem_singleton.1 hq]; exact GE.out.2) B8.out.size⟩
        case measure => simp [intOf]; omega
    · obtain rfl : j = n := by omega
      have hp9 : pos = (refsB s rs).length := by
        rw [← EJ.out, List.drop_eq_nil_of_le (by rw [← HN.out]; exact Nat.le_refl _)]
        simp
      obtain ⟨pr9, kd9⟩ := Rs.blk DJ.out.rs
      rw [hp9] at kd9
      have KD9 := Lib.hid kd9
      have SZ : (Tryz.prog.info? 87).map (·.size) = some 7 := by kernel_rfl
      have RR := Lib.hid (show SlR 2 wr (some ⟨g, 0, none⟩) (rs.map fun r => [.int .i32 r.1, .int .i32 r.2]) from by
        have h9 := RJ.out
        rw [HN.out] at h9
        exact h9.rows)
      clear dj sj ej rj kj bj kd9 hp9 qj
      go_wp2_with (first | (refine wpList_load_row rfl 87 (.tmp 7) (by rfl) d (by rfl) 87 _ (0, 0) _ KD9.out Tryz.underlying87 rfl SZ ?_) | (refine wpList_store_row rfl 87 (.tmp 6) (.tmp 40) (by rfl) w.heap.size (dArr pb (.slice (some ⟨g, 0, none⟩) j j) t ((refsB s rs).length : Nat) pr9 k i) (by rfl) (by rfl) 87 _ KJ.out SZ rfl (by simp [Value.oneCell']) ?_))
      refine bodyPost_ret (v := .agg (dArr pb (.slice (some ⟨g, 0, none⟩) j j) t ((refsB s rs).length : Nat) pr9 k i)) (results_cell_row rfl _ _ w.heap.size 87 _ (0, 0) _ rfl (setRow_heap _ _ _ _ _ _ KJ.out) Tryz.underlying87 rfl SZ) rfl ?_
      have F9 : Fr [w.heap.size] wr (wr.setRow w.heap.size (dArr pb (.slice (some ⟨g, 0, none⟩) j j) t ((refsB s rs).length : Nat) pr9 k i)) := fr_setRow (Fr.refl _ _) (.inl (by simp)) _
      refine ⟨g, pr9, by rw [← HN.out], ?_, below_fr BJ.out F9 (fun q hq => by rw [List.mem_singleton.1 hq]; exact Nat.le_refl _) BJ.out.size⟩
      intro hpos
      obtain ⟨g', o', h1, h2⟩ := RR.out hpos
      refine ⟨g', o', h1, fun q cs hq i' u hu => F9.cell (h2 q cs hq i' u hu) ?_⟩
      injection h1 with h1
      injection h1 with h3 h4
      subst h3
      simpa using hgr
set_option maxRecDepth 100000 in
theorem version_any {pb v : Nat} {s : Bool} {path : ByteArray} {p : Pk} {fp : List UInt8} {sc : Value} {w : World} (h : PkQ pb v s path p fp sc w) (d : Nat) (c0 : w.cell? ⟨d, 0, none⟩ = some (.pointer (some ⟨pb, 0, none⟩))) :
    Calls Tryz.prog 34 #[.pointer (some ⟨d, 0, none⟩)] w (RetQ (.int .u32 v) w) := by
  obtain ⟨g, c, hb, _, _, _⟩ := h.is
  have q1 : w.cell? ⟨pb, 0, none⟩ = some (.int .u32 v) := hb.cell 0
  clear h hb
  go_enter Tryz.func34, Tryz.ntmps34
  go_wp2
  go_ret
  exact ⟨rfl, 0, rfl⟩
set_option maxRecDepth 100000 in
set_option maxHeartbeats 2000000 in
theorem versionOf_any {t : ByteArray} {v : Nat} {s : Bool} {p : Pk} {fp : List UInt8} {w : World} (hT : PkT t v s p fp) (hG : Gv w) (k i : Nat) (hk : k < 10) (hi : i < (p k).length) (hi2 : i ≤ 1000000) (rs : List (Int × Int)) (ds : List UInt8) (ht : (p k)[i] = str (refsB s rs ++ ds)) (hr : ∀ r ∈ rs, (0 ≤ r.1 ∧ r.1 ≤ 2147483647) ∧ (0 ≤ r.2 ∧ r.2 ≤ 2147483647)) (hl : rs.length ≤ 1000000) :
    Calls Tryz.prog 13 #[.string t, .int .i64 k, .int .i64 i] w (RetV (.int .i64 v) w) := by
  have ND := Lib.hid (fun (W : World) (hb : Below w.heap.size w W) => newPkgDecoder_any ⟨#[]⟩ t v s p fp W hT.eq hT.fp8 hT.ver hT.syn hT.one hT.cnt hT.siz (hG.here hb).i (hG.here hb).r)
  have NR := Lib.hid (fun (W : World) (pb : Nat) (path : ByteArray) (sc : Value) (h : PkQ pb v s path p fp sc W) => newDecoderRaw_any h k i hk hi hT.cnt hT.siz rs ds ht hr hl)
  obtain ⟨tt, htt⟩ : ∃ tt, tt = (p k)[i] := ⟨_, rfl⟩
  rw [← htt] at NR
  have HT := Lib.hid hT
  have k0 : (0 : Int) ≤ k := by omega
  have k1 : (k : Int) < 10 := by omega
  have hk32 : IntKind.i32.wrap (k : Int) = k := by rw [IntKind.wrap_i32]; omega
  have hi32 : IntKind.i32.wrap (i : Int) = i := by rw [IntKind.wrap_i32]; omega
  have v0 : (0 : Int) ≤ v := by omega
  have v1 : (v : Int) ≤ 5 := by have := hT.ver; omega
  have wv : IntKind.i64.wrap (v : Int) = v := by rw [IntKind.wrap_i64]; omega
  clear hT hG ht hr hl htt
  go_enter Tryz.func13, Tryz.ntmps13
  go_wp2_with fail
  refine (ND.out w (Below.refl _ _)).mono ?_
  rintro e w1 ⟨g, c, rfl, hc, _, hcl, b1⟩
  obtain ⟨w2, hw2⟩ : ∃ w2, w2 = w1.alloc (.cells (rdArr v s ⟨#[]⟩ (str (p.data ++ fp)) (.slice (some ⟨g, 0, none⟩) (p.elems 10).length c) (fun k => (p.elems (k + 1)).length) (.slice none 0 0)) 81) := ⟨_, rfl⟩
  have P1 := PkQ.new (v := v) (s := s) (path := ⟨#[]⟩) (fp := fp) hc hcl HT.out.one
  rw [← hw2] at P1
  have PD := Lib.hid P1
  have B2 := Lib.hid (show Below w.heap.size w w2 from by rw [hw2]; exact b1.alloc b1.size _)
  have HW2 := Lib.hid hw2
  clear hc hcl b1 ND P1 hw2
  go_wp2_with fail
  rw [← HW2.out]
  refine (NR.out w2 _ _ _ PD.out).mono ?_
  rintro e w3 ⟨g3, pr3, rfl, _, b3⟩
  obtain ⟨w4, hw4⟩ : ∃ w4, w4 = w3.alloc (.cells (dArr w1.heap.size (.slice (some ⟨g3, 0, none⟩) rs.length rs.length) tt ((refsB s rs).length : Nat) pr3 k i) 87) := ⟨_, rfl⟩
  have B3 := below_from B2.out b3
  have PD4 := Lib.hid (show PkQ w1.heap.size v s ⟨#[]⟩ p fp (.slice none 0 0) w4 from by rw [hw4]; exact (PD.out.here b3).here (Below.alloc (Below.refl _ _) (Nat.le_refl _) _))
  have B4 := Lib.hid (show Below w.heap.size w w4 from by rw [hw4]; exact B3.alloc B3.size _)
  have KD := Lib.hid (show Blk w4 w3.heap.size 87 (dArr w1.heap.size (.slice (some ⟨g3, 0, none⟩) rs.length rs.length) tt ((refsB s rs).length : Nat) pr3 k i) from by rw [hw4]; exact Blk.new _ _ _)
  have HW4 := Lib.hid hw4
  clear b3 B3 hw4 NR
  go_wp2_with fail
  rw [← HW4.out]
  refine (version_any PD4.out w3.heap.size (KD.out.cell 0)).mono ?_
  rintro e w5 ⟨rfl, n5, rfl⟩
  go_wp2_with fail
  go_ret
  exact ⟨rfl, below_drewN B4.out n5⟩
end Go.Proofs.YtedjadicdodahaaGreatDoor
