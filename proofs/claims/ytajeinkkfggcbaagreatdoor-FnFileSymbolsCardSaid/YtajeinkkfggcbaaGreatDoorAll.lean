/- All symbols of a file, as one list. -/
import Derived.Test.YtajeinkkfggcbaaGreatDoorFileS
import Derived.Test.YtajeinkkfggcbaaGreatDoorSlB
namespace Go.Proofs.YtajeinkkfggcbaaGreatDoor
open Go.RowKit

theorem Tryz.infoDf : (Tryz.prog.info? 44).map (fun i => (i.zero, i.size, i.bytes)) = some (some (.agg #[.string ⟨#[]⟩, .int .u16 0, .int .u8 0, .int .u8 0, .int .u8 0, .int .u32 0, .int .u32 0, .slice none 0 0, .slice none 0 0, .string ⟨#[]⟩]), 10, 96) := by kernel_rfl
/-- What All leaves: a list that reads as all symbols; nothing that was there has turned. -/
def AllIs (f : FM) (w : World) (e : Ending) (w' : World) : Prop := ∃ A c, e = .returned (.slice A f.all.length c) ∧ SlR 10 w' A (f.all.map Df.cells) ∧ f.all.length ≤ c ∧ Below w.heap.size w w'
/-- .. and lies in a row of the call's own. -/
def AllOwn (f : FM) (w : World) (e : Ending) (w' : World) : Prop := ∃ A c base, e = .returned (.slice A f.all.length c) ∧ w'.ownsRow base 44 10 (.slice A f.all.length c) f.all.length (f.all.flatMap Df.cells) ∧ f.all.length ≤ c ∧ Below w.heap.size w w'

theorem df_cells_len (d : Df) : (Df.cells d).length = 10 := rfl
theorem df_cells_one (d : Df) : ∀ v ∈ Df.cells d, v.oneCell' = true := by
  intro v hv
  simp only [Df.cells, List.mem_cons, List.not_mem_nil, or_false] at hv
  rcases hv with rfl | rfl | rfl | rfl | rfl | rfl | rfl | rfl | rfl | rfl <;> rfl
theorem lists_sum_le (f : FM) (hb : ∀ L ∈ f.lists, L.l.length ≤ 2147483647) (p : Nat) : ((f.lists.take p).map Sl.l).flatten.length ≤ 2147483647 * p := by
  have h : ∀ (l : List (Sl Df)) (_ : ∀ L ∈ l, L.l.length ≤ 2147483647), (l.map Sl.l).flatten.length ≤ 2147483647 * l.length := by
    intro l
    induction l with
    | nil => intro _; simp
    | cons x l ih =>
      intro h
      have h1 := h x (by simp)
      have h2 := ih (fun L hL => h L (by simp [hL]))
      rw [List.map_cons, List.flatten_cons, List.length_append, List.length_cons, Nat.mul_succ]
      omega
  refine Nat.le_trans (h _ (fun L hL => hb L (List.mem_of_mem_take hL))) ?_
  rw [List.length_take]
  exact Nat.mul_le_mul_left _ (Nat.min_le_left _ _)

set_option maxRecDepth 100000 in
set_option maxHeartbeats 1000000 in
theorem all_own (f : FM) (W0 w : World) (hI : f.In W0) (h0 : Below W0.heap.size W0 w) (hb : ∀ L ∈ f.lists, L.l.length ≤ 2147483647) : Calls Tryz.prog 8 #[f.val] w (AllOwn f w) := by
  obtain ⟨i0, hi, hz0, hz1, hz2⟩ := info_parts Tryz.infoDf
  obtain ⟨p0, p1, p2, p3, p4, p5, p6, p7, a0, a1, a2, a3, a4, a5, a6, a7, a8, a9, a10, a11, _, hA, e⟩ := FM.val_eq hI.fp.1
  rw [e]
  clear e
  have HL4 := Lib.hid (show f.own.A = a3 ∧ f.short.A = a4 ∧ f.hashed.A = a5 ∧ f.other.A = a6 from ⟨hA.own, hA.short, hA.hashed, hA.other⟩)
  have HI := Lib.hid hI
  have HB := Lib.hid hb
  have H0 := Lib.hid h0
  obtain ⟨w0, hw0⟩ : ∃ w0, w0 = w.alloc (.cells (fileArr p0 p1 p2 p3 p4 p5 p6 p7 a0 a1 a2 a3 a4 a5 a6 a7 a8 a9 a10 a11 f) 33) := ⟨_, rfl⟩
  have BX0 := Lib.hid (show Blk w0 w.heap.size 33 (fileArr p0 p1 p2 p3 p4 p5 p6 p7 a0 a1 a2 a3 a4 a5 a6 a7 a8 a9 a10 a11 f) from by rw [hw0]; exact Blk.new _ _ _)
  have B0 := Lib.hid (show Below w.heap.size w w0 from by rw [hw0]; exact later_alloc _ _)
  have HW := Lib.hid hw0
  clear hI hA hw0 hb h0
  go_enter Tryz.func8, Tryz.ntmps8
  go_upto_region 1 with fail
  rw [← HW.out]
  have z0 := BX0.out.lt
  have hB0 := B0.out.size
  have OW := Lib.hid (World.ownsRow_made (base := w0.heap.size) (e := 44) (size := 10) w0 #[] 0 (Nat.le_refl _) (by simp) (by simp))
  have BX1 := Lib.hid (BX0.out.alloc (.cells #[] 44))
  have B1 := Lib.hid (B0.out.alloc hB0 (.cells #[] 44))
  have k3 := BX1.out.cell 12
  have k4 := BX1.out.cell 13
  have k5 := BX1.out.cell 14
  have k6 := BX1.out.cell 15
  go_wp2_with fail
  go_loopw [3, 5, 16] (fun v _ i wr => ∃ p : Nat, p ≤ 4 ∧ i = .int .i64 p ∧ w0.heap.size ≤ wr.heap.size ∧ wr.ownsRow w0.heap.size 44 10 v ((f.lists.take p).map Sl.l).flatten.length (((f.lists.take p).map Sl.l).flatten.flatMap Df.cells) ∧ Below w.heap.size w wr) (fun _ _ i _ => 4 - (intOf i).toNat)
  case atStart => exact ⟨0, by omega, rfl, by simp, OW.out, B1.out⟩
  case round =>
    obtain ⟨p, hp4, rfl, HZ, ho, hbw⟩ := hrel
    have HO := Lib.hid ho
    have HBW := Lib.hid hbw
    have zb := hbw.size
    clear ho hbw OW B1 BX1 k3 k4 k5 k6
    by_cases hlt4 : p < 4
    · obtain ⟨L, LA, hL, hLA, hix⟩ := listsArr_at f HL4.out p hlt4
      have hkb4 : decide ((p : Int) < 4) = true := by simp; omega
      have hle := lists_sum_le f HB.out p
      have hle1 := HB.out L (List.mem_of_getElem? hL)
      have HS := Lib.hid ((HI.out.dfs L (List.mem_of_getElem? hL)).l.here (H0.out.trans (HBW.out.mono H0.out.size)))
      have HT := Lib.hid (show (((f.lists.take p).map Sl.l).flatten ++ L.l) = ((f.lists.take (p + 1)).map Sl.l).flatten from take_lists f p L hL)
      have HLA := Lib.hid hLA
      obtain ⟨Q, hQ⟩ : ∃ Q, Q = ((f.lists.take p).map Sl.l).flatten := ⟨_, rfl⟩
      rw [← hQ] at hle HO HT
      have hz0' : w0.heap.size ≤ wr.heap.size := HZ
      clear hL hLA hQ
      go_wp2_with (at_builtin; refine wpList_append_sl rfl _ _ 26 rfl w0.heap.size 44 i0 _ 10 96 Tryz.underlying26 hi hz0 hz1 hz2 rfl (by decide) _ _ _ rfl HO.out LA L.l.length L.c (L.l.flatMap Df.cells) rfl (flat_len L.l (fun x _ => df_cells_len x)) (fun h => by rw [HLA.out]; exact HS.out.src (fun x _ => df_cells_len x) h) (flat_one L.l (fun x _ => df_cells_one x)) (by unfold maxLen; omega) (by omega) hz0' ?_; intro A1 C1 w1 hown' hgrow)
      have hb1 : Below w.heap.size w w1 := HBW.out.grown hgrow zb (fun k hk => by have := (HO.out.lt k hk).1; have := B0.out.size; omega)
      go_roundw
      case rel => exact ⟨p + 1, by omega, by go_num, Nat.le_trans HZ hgrow.size, by rw [← HT.out, List.length_append, List.flatMap_append]; exact hown', hb1⟩
      case measure => simp [intOf]; omega
    · obtain rfl : p = 4 := by omega
      go_wp2_with fail
      go_ret
      have ho := HO.out
      rw [show f.lists.take 4 = f.lists from rfl, ← FM.all_flat] at ho
      obtain ⟨A, c, rfl, hc⟩ := own_slice ho
      exact ⟨A, c, _, rfl, ho, hc, HBW.out⟩
theorem all_any (f : FM) (W0 w : World) (hI : f.In W0) (h0 : Below W0.heap.size W0 w) (hb : ∀ L ∈ f.lists, L.l.length ≤ 2147483647) : Calls Tryz.prog 8 #[f.val] w (AllIs f w) :=
  (all_own f W0 w hI h0 hb).mono fun _ _ ⟨A, c, _, he, ho, hc, hb⟩ => ⟨A, c, he, SlR.of_own ho (fun x _ => df_cells_len x) rfl, hc, hb⟩
end Go.Proofs.YtajeinkkfggcbaaGreatDoor
