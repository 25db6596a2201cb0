/- An element's decoder: its numbers. (printed by gen_pds.py) -/
import Derived.Lib.Zigzag
import Derived.Test.YtedjadicdodahaaGreatDoorQRd
import Derived.Test.YtedjadicdodahaaGreatDoorQDe
import Derived.Test.YtedjadicdodahaaGreatDoorPIn
import Derived.Test.YtedjadicdodahaaGreatDoorQPe
namespace Go.Proofs.YtedjadicdodahaaGreatDoor
open Go.RowKit

/-- A decoder of an element: block d, of the package's decoder pb; it reads t, at i. -/
structure Dst (pb : Nat) (s : Bool) (d : Nat) (R : Nat → Option Value) (t : ByteArray) (i : Nat) (w : World) : Prop where
  rs : Rs 87 R d 2 t i w
  pt : R 0 = some (.pointer (some ⟨pb, 0, none⟩))
  sy : w.cell? ⟨pb, 1, none⟩ = some (.bool s)
  ne : pb ≠ d
  sz : t.size ≤ 1000000000
/-- What a step of a decoder leaves. -/
def Dmet (pb : Nat) (s : Bool) (d : Nat) (R : Nat → Option Value) (t : ByteArray) (i : Nat) (v : Value) (w : World) (e : Ending) (w' : World) : Prop := e = .returned v ∧ Dst pb s d R t i w' ∧ Fr [d] w w'
section
variable {pb : Nat} {s : Bool} {d : Nat} {R : Nat → Option Value} {t : ByteArray} {i j : Nat} {w w' : World}
theorem Dst.fr (h : Dst pb s d R t i w) (r : Rs 87 R d 2 t j w') (f : Fr [d] w w') : Dst pb s d R t j w' := ⟨r, h.pt, f.cell h.sy (by simpa using h.ne), h.ne, h.sz⟩
theorem Dst.here (h : Dst pb s d R t i w) (f : Below w.heap.size w w') : Dst pb s d R t i w' := ⟨h.rs.here f, h.pt, keep_cell f h.sy, h.ne, h.sz⟩
theorem Dst.c0 (h : Dst pb s d R t i w) : w.cell? ⟨d, 0, none⟩ = some (.pointer (some ⟨pb, 0, none⟩)) := by
  obtain ⟨pr, h3⟩ := h.rs
  rw [h3.rest 0 (by omega)]
  exact h.pt
theorem Dst.lt (h : Dst pb s d R t i w) : d < w.heap.size := h.rs.lt
theorem Dst.drewN (h : Dst pb s d R t i w) (n : Nat) : Dst pb s d R t i (w.drewN n) := h.here (below_drewN (Below.refl _ _) n)
end
theorem dErr_nil (d : Nat) (w : World) : Calls Tryz.prog 114 #[.pointer (some ⟨d, 0, none⟩), .nilIface] w (RetQ (.tuple #[]) w) := by
  go_enter Tryz.func114, Tryz.ntmps114
  go_wp2
  go_end0
  exact ⟨rfl, 0, rfl⟩
set_option maxRecDepth 100000 in
set_option maxHeartbeats 1000000 in
theorem dRaw_any {pb : Nat} {s : Bool} {d : Nat} {R : Nat → Option Value} {t : ByteArray} {i : Nat} {w : World} (h : Dst pb s d R t i w) (x : Nat) (hx : x < 18446744073709551616) (hs : Sat t i (uv x)) :
    Calls Tryz.prog 101 #[.pointer (some ⟨d, 0, none⟩)] w (Dmet pb s d R t (i + (uv x).length) (.int .u64 x) w) := by
  have RU := Lib.hid (readUvarint_any h.rs x hx hs h.sz)
  have H := Lib.hid h
  clear h hs
  go_enter Tryz.func101, Tryz.ntmps101
  go_wp2_with fail
  refine RU.out.mono ?_
  rintro e w1 ⟨rfl, r1, f1⟩
  have R1 := Lib.hid r1
  have F1 := Lib.hid f1
  clear r1 f1
  go_wp2_with fail
  refine (dErr_nil d w1).mono ?_
  rintro e w2 ⟨rfl, n2, rfl⟩
  go_wp2_with fail
  go_returns
  exact ⟨rfl, (H.out.fr R1.out F1.out).drewN n2, F1.out.drewN n2⟩
set_option maxRecDepth 100000 in
set_option maxHeartbeats 1000000 in
theorem dVar_any {pb : Nat} {s : Bool} {d : Nat} {R : Nat → Option Value} {t : ByteArray} {i : Nat} {w : World} (h : Dst pb s d R t i w) (x : Int) (h0 : -9223372036854775808 ≤ x) (h1 : x < 9223372036854775808) (hs : Sat t i (uv (Lib.zigzag x))) :
    Calls Tryz.prog 127 #[.pointer (some ⟨d, 0, none⟩)] w (Dmet pb s d R t (i + (uv (Lib.zigzag x)).length) (.int .i64 x) w) := by
  have RU := Lib.hid (dRaw_any h (Lib.zigzag x) (zigzag_lt h0 h1) hs)
  have HZ := zigzag_lt h0 h1
  by_cases hneg : x < 0
  · have hz : ((Lib.zigzag x : Nat) : Int) = -2 * x - 1 := by
      unfold Lib.zigzag
      rw [if_neg (by omega)]
      omega
    obtain ⟨z, hzz⟩ : ∃ z, z = Lib.zigzag x := ⟨_, rfl⟩
    rw [← hzz] at RU hz HZ ⊢
    obtain rfl : x = -((z : Int) / 2) - 1 := by omega
    have ha : bits .and .u64 (z : Int) 1 = 1 := by rw [Lib.u64_and1 _ (by omega) (by omega)]; omega
    have hn : bits .xor .i64 (-1) ((z : Int) / 2) = -((z : Int) / 2) - 1 := by
      have h3 := Lib.i64_not (z / 2) (by omega)
      rw [show (((z / 2 : Nat) : Int)) = (z : Int) / 2 by omega] at h3
      exact h3
    have z0 : (0 : Int) ≤ z := by omega
    have z1 : (z : Int) < 18446744073709551616 := by omega
    have sg : IntKind.i64.signed = true := rfl
    clear h hs hzz hz hneg h0 h1 HZ
    go_enter Tryz.func127, Tryz.ntmps127
    go_wp2_with fail
    refine RU.out.mono ?_
    rintro e w1 ⟨rfl, d1, f1⟩
    have D1 := Lib.hid d1
    have F1 := Lib.hid f1
    clear d1 f1
    go_wp2_with fail
    go_returns
    exact ⟨by rfl, D1.out, F1.out⟩
  · obtain ⟨n, rfl⟩ : ∃ n : Nat, x = n := ⟨x.toNat, by omega⟩
    have hz : Lib.zigzag (n : Int) = 2 * n := by
      unfold Lib.zigzag
      rw [if_pos (by omega)]
      omega
    obtain ⟨z, hzz⟩ : ∃ z, z = Lib.zigzag (n : Int) := ⟨_, rfl⟩
    rw [← hzz] at RU hz HZ ⊢
    have ha : bits .and .u64 (z : Int) 1 = 0 := by rw [Lib.u64_and1 _ (by omega) (by omega)]; omega
    have hd : (z : Int) / 2 = n := by omega
    have hw : IntKind.i64.wrap (n : Int) = n := by rw [IntKind.wrap_i64]; omega
    have z0 : (0 : Int) ≤ z := by omega
    have z1 : (z : Int) < 18446744073709551616 := by omega
    clear h hs hzz hz
    go_enter Tryz.func127, Tryz.ntmps127
    go_wp2_with fail
    refine RU.out.mono ?_
    rintro e w1 ⟨rfl, d1, f1⟩
    have D1 := Lib.hid d1
    have F1 := Lib.hid f1
    clear d1 f1
    go_wp2_with fail
    go_returns
    exact ⟨by simp, D1.out, F1.out⟩
theorem Tryz.infoInt : (Tryz.prog.info? 3).map (fun i => (i.zero, i.size, i.bytes)) = some (some (.int .i64 0), 1, 8) := by kernel_rfl
set_option maxRecDepth 100000 in
set_option maxHeartbeats 1000000 in
theorem dSync_any {pb : Nat} {s : Bool} {d : Nat} {R : Nat → Option Value} {t : ByteArray} {i : Nat} {w : World} (h : Dst pb s d R t i w) (m : Nat) (hm : m < 128) (hs : Sat t i (sy s m)) :
    Calls Tryz.prog 78 #[.pointer (some ⟨d, 0, none⟩), .int .i64 m] w (Dmet pb s d R t (i + (sy s m).length) (.tuple #[]) w) := by
  have c0 := h.c0
  have c1 := h.sy
  cases s
  · have H := Lib.hid h
    clear h hs
    go_enter Tryz.func78, Tryz.ntmps78
    go_wp2_with fail
    go_end0
    exact ⟨rfl, H.out, Fr.refl _ _⟩
  · have sa : Sat t i (uv m ++ uv 0) := hs
    have RU := Lib.hid (dRaw_any h m (by omega) sa.left)
    have SB := Lib.hid sa.right
    have HL := Lib.hid (show i + (sy true m).length = i + (uv m).length + (uv 0).length from by
      show i + (uv m ++ uv 0).length = _
      rw [List.length_append, Nat.add_assoc])
    rw [HL.out]
    have m0 : (0 : Int) ≤ m := by omega
    have m1 : (m : Int) < 128 := by omega
    clear h hs sa
    go_enter Tryz.func78, Tryz.ntmps78
    go_wp2_with fail
    refine RU.out.mono ?_
    rintro e w1 ⟨rfl, d1, f1⟩
    have D1 := Lib.hid d1
    have F1 := Lib.hid f1
    have RV := Lib.hid (show Calls Tryz.prog 101 #[.pointer (some ⟨d, 0, none⟩)] w1 (Dmet pb true d R t (i + (uv m).length + (uv 0).length) (.int .u64 0) w1) from dRaw_any d1 0 (by decide) SB.out)
    clear d1 f1 c0 c1
    go_wp2_with fail
    refine RV.out.mono ?_
    rintro e w2 ⟨rfl, d2, f2⟩
    have D2 := Lib.hid d2
    have F2 := Lib.hid (F1.out.trans1 f2)
    clear d2 f2
    obtain ⟨i0, hi0, hz0, hz1, hz2⟩ := info_parts Tryz.infoInt
    obtain ⟨M, hM⟩ : ∃ M, M = madeCells (Value.int .i64 0).cells (0 * i0.size) := ⟨_, rfl⟩
    have hmk : ∀ W : World, (Instr.makeSlice 193 (.int .u64 0) (.int .u64 0)).run Tryz.prog W = .ok (.slice (some ⟨W.heap.size, 0, none⟩) 0 0) (W.alloc (.cells M 3)) := fun W => by
      have h := run_makeSlice (P := Tryz.prog) W 193 3 i0 (.int .i64 0) Tryz.underlying193 hi0 hz0 .u64 .u64 0 0 (by omega) (by omega) (by rw [hz1]; omega) (by rw [hz2]; omega) (by omega)
      rw [show ((0 : Int)).toNat = 0 from rfl, ← hM] at h
      exact h
    clear hM hz0 hz1 hz2 hi0
    go_wp2_with fail
    obtain ⟨w3, hw3⟩ : ∃ w3 : World, w3 = w2.alloc (.cells M 3) := ⟨_, rfl⟩
    have D3 := Lib.hid (show Dst pb true d R t (i + (uv m).length + (uv 0).length) w3 from by rw [hw3]; exact D2.out.here (Below.alloc (Below.refl _ _) (Nat.le_refl _) _))
    have F3 := Lib.hid (show Fr [d] w w3 from by rw [hw3]; exact F2.out.alloc _)
    clear D2 F2
    rw [← hw3]
    clear hw3 hmk
    go_loopw [6, 23] (fun _ x wr => x = .int .i64 0 ∧ wr = w3) (fun _ _ _ => 0)
    case atStart => exact ⟨rfl, rfl⟩
    case round =>
      obtain ⟨rfl, rfl⟩ := hrel
      go_wp2_with fail
      go_end0
      exact ⟨rfl, D3.out, F3.out⟩
set_option maxRecDepth 100000 in
set_option maxHeartbeats 1000000 in
theorem dUint64_any {pb : Nat} {s : Bool} {d : Nat} {R : Nat → Option Value} {t : ByteArray} {i : Nat} {w : World} (h : Dst pb s d R t i w) (x : Nat) (hx : x < 18446744073709551616) (hs : Sat t i (eU s x)) :
    Calls Tryz.prog 102 #[.pointer (some ⟨d, 0, none⟩)] w (Dmet pb s d R t (i + (eU s x).length) (.int .u64 x) w) := by
  have sa : Sat t i (sy s 4 ++ (uv x)) := hs
  have SA0 := Lib.hid (sa).left
  have SA1 := Lib.hid (sa.right)
  have HL := Lib.hid (show i + (eU s x).length = i + (sy s 4).length + (uv x).length from by
    show i + (sy s 4 ++ (uv x)).length = _
    simp only [List.length_append, Nat.add_assoc])
  rw [HL.out]
  have D0 := Lib.hid h
  clear h hs sa
  go_enter Tryz.func102, Tryz.ntmps102
  go_wp2_with fail
  refine (dSync_any D0.out 4 (by decide) SA0.out).mono ?_
  rintro e w1 ⟨rfl, d1, f1⟩
  have D1 := Lib.hid d1
  have F1 := Lib.hid f1
  clear d1 f1
  go_wp2_with fail
  refine (dRaw_any D1.out x hx SA1.out).mono ?_
  rintro e w2 ⟨rfl, d2, f2⟩
  have D2 := Lib.hid d2
  have F2 := Lib.hid (F1.out.trans1 f2)
  clear d2 f2
  go_wp2_with fail
  go_returns
  exact ⟨rfl, D2.out, F2.out⟩
set_option maxRecDepth 100000 in
set_option maxHeartbeats 1000000 in
theorem dInt64_any {pb : Nat} {s : Bool} {d : Nat} {R : Nat → Option Value} {t : ByteArray} {i : Nat} {w : World} (h : Dst pb s d R t i w) (x : Int) (h0 : -9223372036854775808 ≤ x) (h1 : x < 9223372036854775808) (hs : Sat t i (eI s x)) :
    Calls Tryz.prog 116 #[.pointer (some ⟨d, 0, none⟩)] w (Dmet pb s d R t (i + (eI s x).length) (.int .i64 x) w) := by
  have sa : Sat t i (sy s 3 ++ (uv (Lib.zigzag x))) := hs
  have SA0 := Lib.hid (sa).left
  have SA1 := Lib.hid (sa.right)
  have HL := Lib.hid (show i + (eI s x).length = i + (sy s 3).length + (uv (Lib.zigzag x)).length from by
    show i + (sy s 3 ++ (uv (Lib.zigzag x))).length = _
    simp only [List.length_append, Nat.add_assoc])
  rw [HL.out]
  have D0 := Lib.hid h
  clear h hs sa
  go_enter Tryz.func116, Tryz.ntmps116
  go_wp2_with fail
  refine (dSync_any D0.out 3 (by decide) SA0.out).mono ?_
  rintro e w1 ⟨rfl, d1, f1⟩
  have D1 := Lib.hid d1
  have F1 := Lib.hid f1
  clear d1 f1
  go_wp2_with fail
  refine (dVar_any D1.out x h0 h1 SA1.out).mono ?_
  rintro e w2 ⟨rfl, d2, f2⟩
  have D2 := Lib.hid d2
  have F2 := Lib.hid (F1.out.trans1 f2)
  clear d2 f2
  go_wp2_with fail
  go_returns
  exact ⟨rfl, D2.out, F2.out⟩
set_option maxRecDepth 100000 in
set_option maxHeartbeats 1000000 in
theorem dLen_any {pb : Nat} {s : Bool} {d : Nat} {R : Nat → Option Value} {t : ByteArray} {i : Nat} {w : World} (h : Dst pb s d R t i w) (x : Nat) (hx : x < 9223372036854775808) (hs : Sat t i (eU s x)) :
    Calls Tryz.prog 79 #[.pointer (some ⟨d, 0, none⟩)] w (Dmet pb s d R t (i + (eU s x).length) (.int .i64 x) w) := by
  have sa : Sat t i (eU s x) := hs
  have SA0 := Lib.hid sa
  have D0 := Lib.hid h
  have x0 : (0 : Int) ≤ x := by omega
  have x1 : (x : Int) < 9223372036854775808 := by omega
  have wi : IntKind.i64.wrap (x : Int) = x := by rw [IntKind.wrap_i64]; omega
  have wu : IntKind.u64.wrap (x : Int) = x := by rw [IntKind.wrap_u64]; omega
  clear h hs sa
  go_enter Tryz.func79, Tryz.ntmps79
  go_wp2_with fail
  refine (dUint64_any D0.out x (by omega) SA0.out).mono ?_
  rintro e w1 ⟨rfl, d1, f1⟩
  have D1 := Lib.hid d1
  have F1 := Lib.hid f1
  clear d1 f1
  go_wp2_with fail
  refine (assert_true _).mono ?_
  rintro e w9 ⟨rfl, n9, rfl⟩
  go_wp2_with fail
  go_returns
  exact ⟨rfl, D1.out.drewN n9, F1.out.drewN n9⟩
set_option maxRecDepth 100000 in
set_option maxHeartbeats 1000000 in
theorem dInt_any {pb : Nat} {s : Bool} {d : Nat} {R : Nat → Option Value} {t : ByteArray} {i : Nat} {w : World} (h : Dst pb s d R t i w) (x : Int) (h0 : -9223372036854775808 ≤ x) (h1 : x < 9223372036854775808) (hs : Sat t i (eI s x)) :
    Calls Tryz.prog 117 #[.pointer (some ⟨d, 0, none⟩)] w (Dmet pb s d R t (i + (eI s x).length) (.int .i64 x) w) := by
  have sa : Sat t i (eI s x) := hs
  have SA0 := Lib.hid sa
  have D0 := Lib.hid h
  clear h hs sa
  go_enter Tryz.func117, Tryz.ntmps117
  go_wp2_with fail
  refine (dInt64_any D0.out x h0 h1 SA0.out).mono ?_
  rintro e w1 ⟨rfl, d1, f1⟩
  have D1 := Lib.hid d1
  have F1 := Lib.hid f1
  clear d1 f1
  go_wp2_with fail
  refine (assert_true _).mono ?_
  rintro e w9 ⟨rfl, n9, rfl⟩
  go_wp2_with fail
  go_returns
  exact ⟨rfl, D1.out.drewN n9, F1.out.drewN n9⟩
set_option maxRecDepth 100000 in
set_option maxHeartbeats 1000000 in
theorem dUint_any {pb : Nat} {s : Bool} {d : Nat} {R : Nat → Option Value} {t : ByteArray} {i : Nat} {w : World} (h : Dst pb s d R t i w) (x : Nat) (hx : x < 18446744073709551616) (hs : Sat t i (eU s x)) :
    Calls Tryz.prog 118 #[.pointer (some ⟨d, 0, none⟩)] w (Dmet pb s d R t (i + (eU s x).length) (.int .u64 x) w) := by
  have sa : Sat t i (eU s x) := hs
  have SA0 := Lib.hid sa
  have D0 := Lib.hid h
  clear h hs sa
  go_enter Tryz.func118, Tryz.ntmps118
  go_wp2_with fail
  refine (dUint64_any D0.out x hx SA0.out).mono ?_
  rintro e w1 ⟨rfl, d1, f1⟩
  have D1 := Lib.hid d1
  have F1 := Lib.hid f1
  clear d1 f1
  go_wp2_with fail
  refine (assert_true _).mono ?_
  rintro e w9 ⟨rfl, n9, rfl⟩
  go_wp2_with fail
  go_returns
  exact ⟨rfl, D1.out.drewN n9, F1.out.drewN n9⟩
set_option maxRecDepth 100000 in
set_option maxHeartbeats 1000000 in
theorem dCode_any {pb : Nat} {s : Bool} {d : Nat} {R : Nat → Option Value} {t : ByteArray} {i : Nat} {w : World} (h : Dst pb s d R t i w) (m : Nat) (hm : m < 128) (x : Nat) (hx : x < 9223372036854775808) (hs : Sat t i (sy s m ++ eU s x)) :
    Calls Tryz.prog 122 #[.pointer (some ⟨d, 0, none⟩), .int .i64 m] w (Dmet pb s d R t (i + (sy s m ++ eU s x).length) (.int .i64 x) w) := by
  have sa : Sat t i (sy s m ++ (eU s x)) := hs
  have SA0 := Lib.hid (sa).left
  have SA1 := Lib.hid (sa.right)
  have HL := Lib.hid (show i + (sy s m ++ eU s x).length = i + (sy s m).length + (eU s x).length from by
    show i + (sy s m ++ (eU s x)).length = _
    simp only [List.length_append, Nat.add_assoc])
  rw [HL.out]
  have D0 := Lib.hid h
  clear h hs sa
  go_enter Tryz.func122, Tryz.ntmps122
  go_wp2_with fail
  refine (dSync_any D0.out m hm SA0.out).mono ?_
  rintro e w1 ⟨rfl, d1, f1⟩
  have D1 := Lib.hid d1
  have F1 := Lib.hid f1
  clear d1 f1
  go_wp2_with fail
  refine (dLen_any D1.out x hx SA1.out).mono ?_
  rintro e w2 ⟨rfl, d2, f2⟩
  have D2 := Lib.hid d2
  have F2 := Lib.hid (F1.out.trans1 f2)
  clear d2 f2
  go_wp2_with fail
  go_returns
  exact ⟨rfl, D2.out, F2.out⟩
set_option maxRecDepth 100000 in
set_option maxHeartbeats 1000000 in
theorem dBool_any {pb : Nat} {s : Bool} {d : Nat} {R : Nat → Option Value} {t : ByteArray} {i : Nat} {w : World} (h : Dst pb s d R t i w) (b : Bool) (hs : Sat t i (eB s b)) :
    Calls Tryz.prog 115 #[.pointer (some ⟨d, 0, none⟩)] w (Dmet pb s d R t (i + (eB s b).length) (.bool b) w) := by
  have sa : Sat t i (sy s 2 ++ [if b then 1 else 0]) := hs
  have SA0 := Lib.hid sa.left
  have SA1 := Lib.hid (show t.data.toList[i + (sy s 2).length]? = some (if b then 1 else 0) from by
    have h1 := sa.right.at 0 (by simp)
    simpa using h1)
  have HL := Lib.hid (show i + (eB s b).length = i + (sy s 2).length + 1 from by
    show i + (sy s 2 ++ [if b then 1 else 0]).length = _
    rw [List.length_append, List.length_singleton, Nat.add_assoc])
  rw [HL.out]
  have D0 := Lib.hid h
  clear h hs sa
  go_enter Tryz.func115, Tryz.ntmps115
  go_wp2_with fail
  refine (dSync_any D0.out 2 (by decide) SA0.out).mono ?_
  rintro e w1 ⟨rfl, d1, f1⟩
  have D1 := Lib.hid d1
  have F1 := Lib.hid f1
  clear d1 f1
  go_wp2_with fail
  refine (readByte_any D1.out.rs _ SA1.out D1.out.sz).mono ?_
  rintro e w2 ⟨rfl, r2, f2⟩
  have D2 := Lib.hid (D1.out.fr r2 f2)
  have F2 := Lib.hid (F1.out.trans1 f2)
  clear r2 f2
  cases b
  all_goals
    go_wp2_with fail
    refine (dErr_nil d w2).mono ?_
    rintro e w3 ⟨rfl, n3, rfl⟩
    go_wp2_with fail
    refine (assert_true _).mono ?_
    rintro e w9 ⟨rfl, n9, rfl⟩
    go_wp2_with fail
    go_returns
    exact ⟨rfl, D2.out.drewN _, F2.out.drewN _⟩
end Go.Proofs.YtedjadicdodahaaGreatDoor

namespace Go.Proofs.YtedjadicdodahaaGreatDoor
open Go.RowKit

theorem Dst.c1 {pb : Nat} {s : Bool} {d : Nat} {R : Nat → Option Value} {t : ByteArray} {i : Nat} {w : World} (h : Dst pb s d R t i w) : w.cell? ⟨d, 1, none⟩ = R 1 := by
  obtain ⟨pr, h3⟩ := h.rs
  exact h3.rest 1 (by omega)
set_option maxRecDepth 100000 in
set_option maxHeartbeats 1000000 in
theorem dRawReloc_any {w : World} (d : Nat) (n c g o j : Nat) (k x : Int) (c1 : w.cell? ⟨d, 1, none⟩ = some (.slice (some ⟨g, o, none⟩) n c)) (hj : j < n) (hn : n ≤ 1000000) (q0 : w.cell? ⟨g, o + j * 2, none⟩ = some (.int .i32 k)) (q1 : w.cell? ⟨g, o + j * 2 + 1, none⟩ = some (.int .i32 x)) :
    Calls Tryz.prog 129 #[.pointer (some ⟨d, 0, none⟩), .int .i32 k, .int .i64 j] w (RetV (.int .i32 x) w) := by
  have j0 : (0 : Int) ≤ j := by omega
  have j1 : (j : Int) < n := by omega
  have n1 : (n : Int) ≤ 1000000 := by omega
  go_enter Tryz.func129, Tryz.ntmps129
  go_wp2_with fail
  refine (assert_true _).mono ?_
  rintro e w9 ⟨rfl, n9, rfl⟩
  go_wp2_with fail
  go_returns
  exact ⟨rfl, by (repeat' (first | (with_reducible exact Below.refl _ _) | (with_reducible assumption) | (with_reducible refine below_drewN ?_ _) | (with_reducible refine Below.alloc ?_ ?_ _) | (with_reducible refine Below.drew ?_) | (with_reducible refine Below.setCell ?_ ?_ _) | go_size))⟩
set_option maxRecDepth 100000 in
set_option maxHeartbeats 1000000 in
theorem dReloc_any {pb : Nat} {s : Bool} {d : Nat} {R : Nat → Option Value} {t : ByteArray} {i : Nat} {w : World} (h : Dst pb s d R t i w) (n c g o j : Nat) (k x : Int) (hR : R 1 = some (.slice (some ⟨g, o, none⟩) n c)) (hg : g ≠ d) (hj : j < n) (hn : n ≤ 1000000) (q0 : w.cell? ⟨g, o + j * 2, none⟩ = some (.int .i32 k)) (q1 : w.cell? ⟨g, o + j * 2 + 1, none⟩ = some (.int .i32 x)) (hs : Sat t i (sy s 10 ++ eU s j)) :
    Calls Tryz.prog 121 #[.pointer (some ⟨d, 0, none⟩), .int .i32 k] w (Dmet pb s d R t (i + (sy s 10 ++ eU s j).length) (.int .i32 x) w) := by
  have SA0 := Lib.hid hs.left
  have SA1 := Lib.hid hs.right
  have HL := Lib.hid (show i + (sy s 10 ++ eU s j).length = i + (sy s 10).length + (eU s j).length from by
    simp only [List.length_append, Nat.add_assoc])
  rw [HL.out]
  have D0 := Lib.hid h
  have Q0 := Lib.hid q0
  have Q1 := Lib.hid q1
  have HR := Lib.hid hR
  clear h hs q0 q1 hR
  go_enter Tryz.func121, Tryz.ntmps121
  go_wp2_with fail
  refine (dSync_any D0.out 10 (by decide) SA0.out).mono ?_
  rintro e w1 ⟨rfl, d1, f1⟩
  have D1 := Lib.hid d1
  have F1 := Lib.hid f1
  clear d1 f1
  go_wp2_with fail
  refine (dLen_any D1.out j (by omega) SA1.out).mono ?_
  rintro e w2 ⟨rfl, d2, f2⟩
  have D2 := Lib.hid d2
  have F2 := Lib.hid (F1.out.trans1 f2)
  clear d2 f2
  go_wp2_with fail
  refine (dRawReloc_any d n c g o j k x (by rw [D2.out.c1]; exact HR.out) hj hn (F2.out.cell Q0.out (by simpa using hg)) (F2.out.cell Q1.out (by simpa using hg))).mono ?_
  rintro e w3 ⟨rfl, b3⟩
  have D3 := Lib.hid (D2.out.here b3)
  have F3 := Lib.hid (F2.out.trans0 b3)
  clear b3
  go_wp2_with fail
  go_returns
  exact ⟨rfl, D3.out, F3.out⟩
/-- What stands beside a decoder: the package's decoder, the references; w0 is the world ahead of the decoder's block. -/
structure Dbs (w0 : World) (pb v : Nat) (s : Bool) (path : ByteArray) (p : Pk) (fp : List UInt8) (sc : Value) (A : Option Addr) (rs : List (Int × Int)) : Prop where
  pk : PkQ pb v s path p fp sc w0
  cnt : (p.elems 10).length ≤ 1000000
  siz : (szs (p.elems 10)).sum ≤ 100000000
  rl : SlR 2 w0 A (rs.map fun r => [.int .i32 r.1, .int .i32 r.2])
  rn : rs.length ≤ 1000000
theorem Dbs.ref {w0 w : World} {pb v : Nat} {s : Bool} {path : ByteArray} {p : Pk} {fp : List UInt8} {sc : Value} {A : Option Addr} {rs : List (Int × Int)} (h : Dbs w0 pb v s path p fp sc A rs) (hb : Below w0.heap.size w0 w) {j : Nat} {k x : Int} (hj : rs[j]? = some (k, x)) :
    ∃ g o, A = some ⟨g, o, none⟩ ∧ g < w0.heap.size ∧ j < rs.length ∧ w.cell? ⟨g, o + j * 2, none⟩ = some (.int .i32 k) ∧ w.cell? ⟨g, o + j * 2 + 1, none⟩ = some (.int .i32 x) := by
  have hl := (List.getElem?_eq_some_iff.1 hj).1
  obtain ⟨g, o, rfl, hc⟩ := h.rl (by rw [List.length_map]; omega)
  have h0 := hc j [.int .i32 k, .int .i32 x] (by rw [List.getElem?_map, hj]; rfl)
  have c0 := h0 0 _ rfl
  have c1 := h0 1 _ rfl
  rw [Nat.add_zero] at c0
  exact ⟨g, o, rfl, World.block_lt_of_cell? w0 _ c0, hl, keep_cell hb c0, keep_cell hb c1⟩
set_option maxRecDepth 100000 in
set_option maxHeartbeats 1000000 in
theorem dString_any {w0 : World} {pb v : Nat} {s : Bool} {path : ByteArray} {p : Pk} {fp : List UInt8} {sc : Value} {A : Option Addr} {rs : List (Int × Int)} (B : Dbs w0 pb v s path p fp sc A rs) {d : Nat} {R : Nat → Option Value} {t : ByteArray} {i : Nat} {w : World} (h : Dst pb s d R t i w) (be : Below w0.heap.size w0 w) (dz : w0.heap.size ≤ d) (c : Nat) (hR : R 1 = some (.slice A rs.length c)) (j y : Nat) (T : ByteArray) (hj : rs[j]? = some (0, (y : Int))) (hy : (p 0)[y]? = some T) (hs : Sat t i (sy s 5 ++ (sy s 10 ++ eU s j))) :
    Calls Tryz.prog 119 #[.pointer (some ⟨d, 0, none⟩)] w (Dmet pb s d R t (i + (sy s 5 ++ (sy s 10 ++ eU s j)).length) (.string T) w) := by
  have SA0 := Lib.hid hs.left
  have SA1 := Lib.hid hs.right
  have HL := Lib.hid (show i + (sy s 5 ++ (sy s 10 ++ eU s j)).length = i + (sy s 5).length + (sy s 10 ++ eU s j).length from by
    simp only [List.length_append, Nat.add_assoc])
  rw [HL.out]
  obtain ⟨g, o, rfl, hg, hjl, q0, q1⟩ := B.ref be hj
  have hgd : g ≠ d := by omega
  have D0 := Lib.hid h
  have Q0 := Lib.hid q0
  have Q1 := Lib.hid q1
  have HR := Lib.hid hR
  have HB := Lib.hid B
  have BE := Lib.hid be
  have c0 := h.c0
  have hyl := (List.getElem?_eq_some_iff.1 hy).1
  have hyv := (List.getElem?_eq_some_iff.1 hy).2
  have BZ := Lib.hid be.size
  have PS := Lib.hid (fun (W : World) (hb : Below w0.heap.size w0 W) => show Calls Tryz.prog 128 #[.pointer (some ⟨pb, 0, none⟩), .int .i32 y] W (RetQ (.string T) W) from by
    have h1 := pkStringIdx_any (B.pk.here hb) y hyl B.cnt B.siz
    rw [hyv] at h1
    exact h1)
  clear h hs q0 q1 hR B be hyl hyv hy hj
  go_enter Tryz.func119, Tryz.ntmps119
  go_wp2_with fail
  refine (dSync_any D0.out 5 (by decide) SA0.out).mono ?_
  rintro e w1 ⟨rfl, d1, f1⟩
  have D1 := Lib.hid (d1.here (Below.drew (Below.refl _ _)))
  have F1 := Lib.hid f1.drew
  have c1 := D1.out.c0
  clear d1 f1 c0
  have RL := Lib.hid (dReloc_any D1.out rs.length c g o j 0 y HR.out hgd hjl HB.out.rn (F1.out.cell Q0.out (by simpa using hgd)) (F1.out.cell Q1.out (by simpa using hgd)) SA1.out)
  go_upto_region 2 with fail
  go_region_held3 (fun W => W.cell? ⟨d, 0, none⟩ = some (.pointer (some ⟨pb, 0, none⟩))) (first | exact c1 | exact c2 | exact c3 | go_keep)
    (first | (go_at_call 121; refine RL.out.mono ?_; rintro e w2 ⟨rfl, d2, f2⟩; have c2 := d2.c0; have D2 := Lib.hid d2; have F2 := Lib.hid (F1.out.trans1 f2); have B2 := Lib.hid (below_fr BE.out (F1.out.trans1 f2) (fun q hq => (List.mem_singleton.1 hq).symm ▸ dz) BZ.out); clear d2 f2) | (go_at_call 128; refine (PS.out w2 B2.out).mono ?_; rintro e w3 ⟨rfl, n3, rfl⟩; have c3 := (D2.out.drewN n3).c0))
  all_goals
    go_wp2_with fail
    go_returns
    exact ⟨rfl, D2.out.drewN n3, F2.out.drewN n3⟩
end Go.Proofs.YtedjadicdodahaaGreatDoor
