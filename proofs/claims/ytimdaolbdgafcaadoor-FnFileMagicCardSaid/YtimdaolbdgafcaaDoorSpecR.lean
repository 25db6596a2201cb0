/- The references on bytes: the records. -/
import Derived.Test.YtimdaolbdgafcaaDoorSpecB
namespace Go.Proofs.YtimdaolbdgafcaaDoor
open Go.RowKit

theorem refBytes_any (p y : Int) (w : World) : Calls Tryd.prog 75 #[.agg #[.int .u32 p, .int .u32 y]] w (RetB (leN 4 p ++ leN 4 y) w) := by
  have hb0 : Blk (w.alloc (.cells #[.int .u32 p, .int .u32 y] 65)).drew w.heap.size _ _ := Blk.new _ _ _
  have hw0 : Later w (w.alloc (.cells #[.int .u32 p, .int .u32 y] 65)).drew := by unfold Later; (repeat' (first | (with_reducible exact Below.refl _ _) | (with_reducible assumption) | (with_reducible refine below_drewN ?_ _) | (with_reducible refine Below.alloc ?_ ?_ _) | (with_reducible refine Below.drew ?_) | (with_reducible refine Below.setCell ?_ ?_ _) | go_size))
  go_enter Tryd.func75, Tryd.ntmps75
  go_wp2_with fail
  generalize (w.alloc (.cells #[.int .u32 p, .int .u32 y] 65)) = w0 at *
  refine region_pd (by kernel_rfl) [.is (.pointer (some ⟨w.heap.size, 0, none⟩)), .is (.int .u32 p), .is (.int .u64 (p % 18446744073709551616)), .bytes (leN 4 p), .is (.pointer (some ⟨w.heap.size, 1, none⟩)), .is (.int .u32 y), .is (.int .u64 (y % 18446744073709551616)), .bytes (leN 4 y), .lists [leN 4 p, leN 4 y], .bytes [leN 4 p, leN 4 y].flatten, .bytes [leN 4 p, leN 4 y].flatten] [3, 4, 5, 6, 7, 8, 9, 10, 11, 12, 2] (by kernel_rfl) ?_ ?_
  · refine Steps.cons ?_ (Steps.cons ?_ (Steps.cons ?_ (Steps.cons ?_ (Steps.cons ?_ (Steps.cons ?_ (Steps.cons ?_ (Steps.cons ?_ (Steps.cons ?_ (Steps.cons ?_ (Steps.cons ?_ (Steps.nil)))))))))))
    all_goals (intro f_ W hW hd K hK; rw [if_pos (by rfl)]; simp only [over, List.foldl_cons, List.foldl_nil, List.setIfInBounds_toArray, List.set_cons_zero, List.set_cons_succ, Act.put] at hK ⊢; simp only [Deps, List.filter, Region.binds, pds, List.getD_cons_zero, List.getD_cons_succ, List.getElem?_cons_zero, List.getElem?_cons_succ, Option.getD_some, Pd.holds] at hd)
    · clear hd
      go_simp
      exact hK _ _ rfl (later_refl _)
    · have h0 := hd.1
      clear hd
      have hc := (hb0.here hW).cell
      rw [h0] at hK ⊢
      go_simp
      exact hK _ _ rfl (later_refl _)
    · have h0 := hd.1
      clear hd
      rw [h0] at hK ⊢
      go_simp
      try rw [IntKind.wrap_u64]
      exact hK _ _ rfl (later_refl _)
    · have h0 := hd.1
      clear hd
      rw [h0] at hK ⊢
      go_simp
      go_at_call 74
      refine (little_mod p 4 W (by omega)).mono ?_
      rintro e_ w1 ⟨A, c_, rfl, h1, h2, h3⟩
      exact hK _ _ ⟨A, c_, _, rfl, rfl, h1, h2⟩ h3
    · clear hd
      go_simp
      exact hK _ _ rfl (later_refl _)
    · have h0 := hd.1
      clear hd
      have hc := (hb0.here hW).cell
      rw [h0] at hK ⊢
      go_simp
      exact hK _ _ rfl (later_refl _)
    · have h0 := hd.1
      clear hd
      rw [h0] at hK ⊢
      go_simp
      try rw [IntKind.wrap_u64]
      exact hK _ _ rfl (later_refl _)
    · have h0 := hd.1
      clear hd
      rw [h0] at hK ⊢
      go_simp
      go_at_call 74
      refine (little_mod y 4 W (by omega)).mono ?_
      rintro e_ w1 ⟨A, c_, rfl, h1, h2, h3⟩
      exact hK _ _ ⟨A, c_, _, rfl, rfl, h1, h2⟩ h3
    · have ⟨A0, c0, n0, h0, e0, i0, j0⟩ := hd.1
      have ⟨A1, c1, n1, h1, e1, i1, j1⟩ := hd.2.1
      clear hd
      subst e0
      rw [h0] at hK ⊢
      subst e1
      rw [h1] at hK ⊢
      go_simp
      exact hK _ _ ⟨_, 2, rfl, slS_new W _ [(A0, c0, leN 4 p), (A1, c1, leN 4 y)] (by simp only [List.forall_mem_cons]; exact ⟨⟨i0, j0⟩, ⟨⟨i1, j1⟩, by simp⟩⟩)⟩ (later_alloc _ _)
    · have hd0 := hd.1
      clear hd
      have ⟨A0, c0, h0, i0⟩ := hd0
      clear hd0
      rw [h0] at hK ⊢
      go_simp
      go_at_call 73
      refine (joined_B A0 c0 [leN 4 p, leN 4 y] W i0 (by simp) (by simp [leN_length])).mono ?_
      rintro e_ w1 ⟨A, c_, rfl, h1, h2, h3⟩
      exact hK _ _ ⟨A, c_, _, rfl, rfl, h1, h2⟩ h3
    · have hd0 := hd.1
      clear hd
      have ⟨A0, c0, n0, h0, e0, i0, j0⟩ := hd0
      clear hd0
      have E0 := Lib.hid e0
      clear e0
      rw [h0] at hK ⊢
      go_simp
      exact hK _ _ ⟨_, _, _, rfl, E0.out, i0, j0⟩ (later_refl _)
  · intro f_ W hW hd
    have ⟨A, c_, n, h1, hn, h2, h3⟩ := hd 10 (by decide)
    clear hd
    replace h1 : f_ 2 = .slice A n c_ := h1
    replace hn : n = [leN 4 p, leN 4 y].flatten.length := hn
    simp only [over, List.foldl_cons, List.foldl_nil, List.setIfInBounds_toArray, List.set_cons_zero, List.set_cons_succ, h1]
    go_wp2
    go_ret
    exact ⟨A, c_, by rw [hn]; simp, by simpa using h2, by simpa using h3, below_from hw0 hW⟩
theorem relocationBytes_any (a s k d p y : Int) (w : World) : Calls Tryd.prog 29 #[.agg #[.int .i32 a, .int .u8 s, .int .u16 k, .int .i64 d, .int .u32 p, .int .u32 y]] w (RetB (leN 4 a ++ ([s] ++ (leN 2 k ++ (leN 8 d ++ (leN 4 p ++ leN 4 y))))) w) := by
  have hb0 : Blk (w.alloc (.cells #[.int .i32 a, .int .u8 s, .int .u16 k, .int .i64 d, .int .u32 p, .int .u32 y] 67)).drew w.heap.size _ _ := Blk.new _ _ _
  have hw0 : Later w (w.alloc (.cells #[.int .i32 a, .int .u8 s, .int .u16 k, .int .i64 d, .int .u32 p, .int .u32 y] 67)).drew := by unfold Later; (repeat' (first | (with_reducible exact Below.refl _ _) | (with_reducible assumption) | (with_reducible refine below_drewN ?_ _) | (with_reducible refine Below.alloc ?_ ?_ _) | (with_reducible refine Below.drew ?_) | (with_reducible refine Below.setCell ?_ ?_ _) | go_size))
  go_enter Tryd.func29, Tryd.ntmps29
  go_wp2_with fail
  generalize (w.alloc (.cells #[.int .i32 a, .int .u8 s, .int .u16 k, .int .i64 d, .int .u32 p, .int .u32 y] 67)) = w0 at *
  refine region_pd (by kernel_rfl) [.is (.pointer (some ⟨w.heap.size, 0, none⟩)), .is (.int .i32 a), .is (.int .u64 (a % 18446744073709551616)), .bytes (leN 4 a), .is (.pointer (some ⟨w.heap.size, 1, none⟩)), .is (.int .u8 s), .bytes [s], .is (.pointer (some ⟨w.heap.size, 2, none⟩)), .is (.int .u16 k), .is (.int .u64 (k % 18446744073709551616)), .bytes (leN 2 k), .is (.pointer (some ⟨w.heap.size, 3, none⟩)), .is (.int .i64 d), .is (.int .u64 (d % 18446744073709551616)), .bytes (leN 8 d), .is (.pointer (some ⟨w.heap.size, 4, none⟩)), .is (.agg #[.int .u32 p, .int .u32 y]), .bytes (leN 4 p ++ leN 4 y), .lists [leN 4 a, [s], leN 2 k, leN 8 d, leN 4 p ++ leN 4 y], .bytes [leN 4 a, [s], leN 2 k, leN 8 d, leN 4 p ++ leN 4 y].flatten, .bytes [leN 4 a, [s], leN 2 k, leN 8 d, leN 4 p ++ leN 4 y].flatten] [3, 4, 5, 6, 7, 8, 9, 10, 11, 12, 13, 14, 15, 16, 17, 18, 19, 20, 21, 22, 2] (by kernel_rfl) ?_ ?_
  · refine Steps.cons ?_ (Steps.cons ?_ (Steps.cons ?_ (Steps.cons ?_ (Steps.cons ?_ (Steps.cons ?_ (Steps.cons ?_ (Steps.cons ?_ (Steps.cons ?_ (Steps.cons ?_ (Steps.cons ?_ (Steps.cons ?_ (Steps.cons ?_ (Steps.cons ?_ (Steps.cons ?_ (Steps.cons ?_ (Steps.cons ?_ (Steps.cons ?_ (Steps.cons ?_ (Steps.cons ?_ (Steps.cons ?_ (Steps.nil)))))))))))))))))))))
    all_goals (intro f_ W hW hd K hK; rw [if_pos (by rfl)]; simp only [over, List.foldl_cons, List.foldl_nil, List.setIfInBounds_toArray, List.set_cons_zero, List.set_cons_succ, Act.put] at hK ⊢; simp only [Deps, List.filter, Region.binds, pds, List.getD_cons_zero, List.getD_cons_succ, List.getElem?_cons_zero, List.getElem?_cons_succ, Option.getD_some, Pd.holds] at hd)
    · clear hd
      go_simp
      exact hK _ _ rfl (later_refl _)
    · have h0 := hd.1
      clear hd
      have hc := (hb0.here hW).cell
      rw [h0] at hK ⊢
      go_simp
      exact hK _ _ rfl (later_refl _)
    · have h0 := hd.1
      clear hd
      rw [h0] at hK ⊢
      go_simp
      try rw [IntKind.wrap_u64]
      exact hK _ _ rfl (later_refl _)
    · have h0 := hd.1
      clear hd
      rw [h0] at hK ⊢
      go_simp
      go_at_call 74
      refine (little_mod a 4 W (by omega)).mono ?_
      rintro e_ w1 ⟨A, c_, rfl, h1, h2, h3⟩
      exact hK _ _ ⟨A, c_, _, rfl, rfl, h1, h2⟩ h3
    · clear hd
      go_simp
      exact hK _ _ rfl (later_refl _)
    · have h0 := hd.1
      clear hd
      have hc := (hb0.here hW).cell
      rw [h0] at hK ⊢
      go_simp
      exact hK _ _ rfl (later_refl _)
    · have h0 := hd.1
      clear hd
      rw [h0] at hK ⊢
      go_simp
      exact hK _ _ ⟨_, 1, 1, rfl, rfl, sli_new W _ [s], by simp⟩ (later_alloc _ _)
    · clear hd
      go_simp
      exact hK _ _ rfl (later_refl _)
    · have h0 := hd.1
      clear hd
      have hc := (hb0.here hW).cell
      rw [h0] at hK ⊢
      go_simp
      exact hK _ _ rfl (later_refl _)
    · have h0 := hd.1
      clear hd
      rw [h0] at hK ⊢
      go_simp
      try rw [IntKind.wrap_u64]
      exact hK _ _ rfl (later_refl _)
    · have h0 := hd.1
      clear hd
      rw [h0] at hK ⊢
      go_simp
      go_at_call 74
      refine (little_mod k 2 W (by omega)).mono ?_
      rintro e_ w1 ⟨A, c_, rfl, h1, h2, h3⟩
      exact hK _ _ ⟨A, c_, _, rfl, rfl, h1, h2⟩ h3
    · clear hd
      go_simp
      exact hK _ _ rfl (later_refl _)
    · have h0 := hd.1
      clear hd
      have hc := (hb0.here hW).cell
      rw [h0] at hK ⊢
      go_simp
      exact hK _ _ rfl (later_refl _)
    · have h0 := hd.1
      clear hd
      rw [h0] at hK ⊢
      go_simp
      try rw [IntKind.wrap_u64]
      exact hK _ _ rfl (later_refl _)
    · have h0 := hd.1
      clear hd
      rw [h0] at hK ⊢
      go_simp
      go_at_call 74
      refine (little_mod d 8 W (by omega)).mono ?_
      rintro e_ w1 ⟨A, c_, rfl, h1, h2, h3⟩
      exact hK _ _ ⟨A, c_, _, rfl, rfl, h1, h2⟩ h3
    · clear hd
      go_simp
      exact hK _ _ rfl (later_refl _)
    · have h0 := hd.1
      clear hd
      have hc := (hb0.here hW).cell
      rw [h0] at hK ⊢
      go_simp
      exact hK _ _ rfl (later_refl _)
    · have h0 := hd.1
      clear hd
      rw [h0] at hK ⊢
      go_simp
      go_at_call 75
      refine (refBytes_any p y W).mono ?_
      rintro e_ w1 ⟨A, c_, rfl, h1, h2, h3⟩
      exact hK _ _ ⟨A, c_, _, rfl, rfl, h1, h2⟩ h3
    · have ⟨A0, c0, n0, h0, e0, i0, j0⟩ := hd.1
      have ⟨A1, c1, n1, h1, e1, i1, j1⟩ := hd.2.1
      have ⟨A2, c2, n2, h2, e2, i2, j2⟩ := hd.2.2.1
      have ⟨A3, c3, n3, h3, e3, i3, j3⟩ := hd.2.2.2.1
      have ⟨A4, c4, n4, h4, e4, i4, j4⟩ := hd.2.2.2.2.1
      clear hd
      subst e0
      rw [h0] at hK ⊢
      subst e1
      rw [h1] at hK ⊢
      subst e2
      rw [h2] at hK ⊢
      subst e3
      rw [h3] at hK ⊢
      subst e4
      rw [h4] at hK ⊢
      go_simp
      exact hK _ _ ⟨_, 5, rfl, slS_new W _ [(A0, c0, leN 4 a), (A1, c1, [s]), (A2, c2, leN 2 k), (A3, c3, leN 8 d), (A4, c4, leN 4 p ++ leN 4 y)] (by simp only [List.forall_mem_cons]; exact ⟨⟨i0, j0⟩, ⟨⟨i1, j1⟩, ⟨⟨i2, j2⟩, ⟨⟨i3, j3⟩, ⟨⟨i4, j4⟩, by simp⟩⟩⟩⟩⟩)⟩ (later_alloc _ _)
    · have hd0 := hd.1
      clear hd
      have ⟨A0, c0, h0, i0⟩ := hd0
      clear hd0
      rw [h0] at hK ⊢
      go_simp
      go_at_call 73
      refine (joined_B A0 c0 [leN 4 a, [s], leN 2 k, leN 8 d, leN 4 p ++ leN 4 y] W i0 (by simp) (by simp [leN_length])).mono ?_
      rintro e_ w1 ⟨A, c_, rfl, h1, h2, h3⟩
      exact hK _ _ ⟨A, c_, _, rfl, rfl, h1, h2⟩ h3
    · have hd0 := hd.1
      clear hd
      have ⟨A0, c0, n0, h0, e0, i0, j0⟩ := hd0
      clear hd0
      have E0 := Lib.hid e0
      clear e0
      rw [h0] at hK ⊢
      go_simp
      exact hK _ _ ⟨_, _, _, rfl, E0.out, i0, j0⟩ (later_refl _)
  · intro f_ W hW hd
    have ⟨A, c_, n, h1, hn, h2, h3⟩ := hd 20 (by decide)
    clear hd
    replace h1 : f_ 2 = .slice A n c_ := h1
    replace hn : n = [leN 4 a, [s], leN 2 k, leN 8 d, leN 4 p ++ leN 4 y].flatten.length := hn
    simp only [over, List.foldl_cons, List.foldl_nil, List.setIfInBounds_toArray, List.set_cons_zero, List.set_cons_succ, h1]
    go_wp2
    go_ret
    exact ⟨A, c_, by rw [hn]; simp, by simpa using h2, by simpa using h3, below_from hw0 hW⟩
theorem auxiliaryBytes_any (s p y : Int) (w : World) : Calls Tryd.prog 31 #[.agg #[.int .u8 s, .int .u32 p, .int .u32 y]] w (RetB ([s] ++ (leN 4 p ++ leN 4 y)) w) := by
  have hb0 : Blk (w.alloc (.cells #[.int .u8 s, .int .u32 p, .int .u32 y] 71)).drew w.heap.size _ _ := Blk.new _ _ _
  have hw0 : Later w (w.alloc (.cells #[.int .u8 s, .int .u32 p, .int .u32 y] 71)).drew := by unfold Later; (repeat' (first | (with_reducible exact Below.refl _ _) | (with_reducible assumption) | (with_reducible refine below_drewN ?_ _) | (with_reducible refine Below.alloc ?_ ?_ _) | (with_reducible refine Below.drew ?_) | (with_reducible refine Below.setCell ?_ ?_ _) | go_size))
  go_enter Tryd.func31, Tryd.ntmps31
  go_wp2_with fail
  generalize (w.alloc (.cells #[.int .u8 s, .int .u32 p, .int .u32 y] 71)) = w0 at *
  refine region_pd (by kernel_rfl) [.is (.pointer (some ⟨w.heap.size, 0, none⟩)), .is (.int .u8 s), .bytes [s], .is (.pointer (some ⟨w.heap.size, 1, none⟩)), .is (.agg #[.int .u32 p, .int .u32 y]), .bytes (leN 4 p ++ leN 4 y), .lists [[s], leN 4 p ++ leN 4 y], .bytes [[s], leN 4 p ++ leN 4 y].flatten, .bytes [[s], leN 4 p ++ leN 4 y].flatten] [3, 4, 5, 6, 7, 8, 9, 10, 2] (by kernel_rfl) ?_ ?_
  · refine Steps.cons ?_ (Steps.cons ?_ (Steps.cons ?_ (Steps.cons ?_ (Steps.cons ?_ (Steps.cons ?_ (Steps.cons ?_ (Steps.cons ?_ (Steps.cons ?_ (Steps.nil)))))))))
    all_goals (intro f_ W hW hd K hK; rw [if_pos (by rfl)]; simp only [over, List.foldl_cons, List.foldl_nil, List.setIfInBounds_toArray, List.set_cons_zero, List.set_cons_succ, Act.put] at hK ⊢; simp only [Deps, List.filter, Region.binds, pds, List.getD_cons_zero, List.getD_cons_succ, List.getElem?_cons_zero, List.getElem?_cons_succ, Option.getD_some, Pd.holds] at hd)
    · clear hd
      go_simp
      exact hK _ _ rfl (later_refl _)
    · have h0 := hd.1
      clear hd
      have hc := (hb0.here hW).cell
      rw [h0] at hK ⊢
      go_simp
      exact hK _ _ rfl (later_refl _)
    · have h0 := hd.1
      clear hd
      rw [h0] at hK ⊢
      go_simp
      exact hK _ _ ⟨_, 1, 1, rfl, rfl, sli_new W _ [s], by simp⟩ (later_alloc _ _)
    · clear hd
      go_simp
      exact hK _ _ rfl (later_refl _)
    · have h0 := hd.1
      clear hd
      have hc := (hb0.here hW).cell
      rw [h0] at hK ⊢
      go_simp
      exact hK _ _ rfl (later_refl _)
    · have h0 := hd.1
      clear hd
      rw [h0] at hK ⊢
      go_simp
      go_at_call 75
      refine (refBytes_any p y W).mono ?_
      rintro e_ w1 ⟨A, c_, rfl, h1, h2, h3⟩
      exact hK _ _ ⟨A, c_, _, rfl, rfl, h1, h2⟩ h3
    · have ⟨A0, c0, n0, h0, e0, i0, j0⟩ := hd.1
      have ⟨A1, c1, n1, h1, e1, i1, j1⟩ := hd.2.1
      clear hd
      subst e0
      rw [h0] at hK ⊢
      subst e1
      rw [h1] at hK ⊢
      go_simp
      exact hK _ _ ⟨_, 2, rfl, slS_new W _ [(A0, c0, [s]), (A1, c1, leN 4 p ++ leN 4 y)] (by simp only [List.forall_mem_cons]; exact ⟨⟨i0, j0⟩, ⟨⟨i1, j1⟩, by simp⟩⟩)⟩ (later_alloc _ _)
    · have hd0 := hd.1
      clear hd
      have ⟨A0, c0, h0, i0⟩ := hd0
      clear hd0
      rw [h0] at hK ⊢
      go_simp
      go_at_call 73
      refine (joined_B A0 c0 [[s], leN 4 p ++ leN 4 y] W i0 (by simp) (by simp [leN_length])).mono ?_
      rintro e_ w1 ⟨A, c_, rfl, h1, h2, h3⟩
      exact hK _ _ ⟨A, c_, _, rfl, rfl, h1, h2⟩ h3
    · have hd0 := hd.1
      clear hd
      have ⟨A0, c0, n0, h0, e0, i0, j0⟩ := hd0
      clear hd0
      have E0 := Lib.hid e0
      clear e0
      rw [h0] at hK ⊢
      go_simp
      exact hK _ _ ⟨_, _, _, rfl, E0.out, i0, j0⟩ (later_refl _)
  · intro f_ W hW hd
    have ⟨A, c_, n, h1, hn, h2, h3⟩ := hd 8 (by decide)
    clear hd
    replace h1 : f_ 2 = .slice A n c_ := h1
    replace hn : n = [[s], leN 4 p ++ leN 4 y].flatten.length := hn
    simp only [over, List.foldl_cons, List.foldl_nil, List.setIfInBounds_toArray, List.set_cons_zero, List.set_cons_succ, h1]
    go_wp2
    go_ret
    exact ⟨A, c_, by rw [hn]; simp, by simpa using h2, by simpa using h3, below_from hw0 hW⟩
end Go.Proofs.YtimdaolbdgafcaaDoor
