/- Steps of a writer, written. -/
import Derived.Test.YtnbojmciolecgaaDoorStep
import Derived.Test.YtnbojmciolecgaaDoorFun
import Derived.Deep.CutRange
import Derived.Deep.CutBlock
namespace Go.Proofs.YtnbojmciolecgaaDoor
open Go.RowKit

theorem fr_of_grown {w w' : World} {row : Option Nat} (h : w.grownBy w' row) : Fr row.toList w w' :=
  ⟨h.os, h.tape, h.output, h.size, fun k hk hn => h.block k hk (by rintro rfl; simp at hn)⟩
theorem IsWriter.fr {B wb b mb : Nat} {xs : List Int} {gs : List Nat} {w w' : World} (h : IsWriter B wb b mb xs w) (hf : Fr gs w w') (h1 : wb ∉ gs) (h2 : b ∉ gs) (hg : ∀ g, (∃ c fz, w.heap[g]? = some (.cells c 5 fz)) → g ∉ gs) : IsWriter B wb b mb xs w' := by
  obtain ⟨low, ⟨s0, s1, s2, s3, s4, s5, s6, s7, hb⟩, buf⟩ := h
  exact ⟨low, ⟨s0, s1, s2, s3, s4, s5, s6, s7, hb.fr hf h1⟩, isBuffer_fr buf hf h2 hg⟩
theorem IsWriter.here {B wb b mb : Nat} {xs : List Int} {w w' : World} (h : IsWriter B wb b mb xs w) (hb : Below w.heap.size w w') : IsWriter B wb b mb xs w' :=
  h.fr (gs := []) (Fr.of_below hb) (by simp) (by simp) (by simp)
theorem IsWriter.grown {B wb b mb base n : Nat} {e : TypeId} {v : Value} {ys : List Value} {xs : List Int} {w w' : World} (h : IsWriter B wb b mb xs w) (ho : w.ownsRow base e 1 v n ys) (he : e ≠ 5) (h1 : wb < base) (h2 : b < base) (hg : w.grownBy w' v.ownBlock) : IsWriter B wb b mb xs w' := by
  refine h.fr (fr_of_grown hg) ?_ ?_ ?_
  · intro hm
    rw [Option.mem_toList] at hm
    have := (ho.lt _ hm).1
    omega
  · intro hm
    rw [Option.mem_toList] at hm
    have := (ho.lt _ hm).1
    omega
  · rintro g ⟨c, fz, hc⟩ hm
    rw [Option.mem_toList] at hm
    rcases ho.2 with ⟨rfl, _⟩ | ⟨g', cap, cur, rfl, _, hh, _⟩
    · simp [Value.ownBlock] at hm
    · simp only [Value.ownBlock, Option.some.injEq] at hm
      subst hm
      rw [hh] at hc
      injection hc with hc
      injection hc with _ h2 _
      exact he h2
theorem IsWriter.wlt {B wb b mb : Nat} {xs : List Int} {w : World} (h : IsWriter B wb b mb xs w) : wb < w.heap.size := by
  obtain ⟨s0, s1, s2, s3, s4, s5, s6, s7, hb⟩ := h.blk
  exact hb.lt

theorem writer_Offset {B wb b mb : Nat} {xs : List Int} {w : World} (h : IsWriter B wb b mb xs w) : Calls Tryd.prog 67 #[.pointer (some ⟨wb, 0, none⟩)] w (RetQ (.int .u32 xs.length) w) := by
  obtain ⟨s0, s1, s2, s3, s4, s5, s6, s7, hb⟩ := h.blk
  have c2 := hb.cell 2
  clear hb h
  go_enter Tryd.func67, Tryd.ntmps67
  go_wp2_with fail
  go_ret
  exact ⟨rfl, 0, rfl⟩

theorem sli_own {w : World} {base n : Nat} {e : TypeId} {k : IntKind} {A : Option Addr} {c : Nat} {xs : List Int} (h : w.ownsRow base e 1 (.slice A n c) n (xs.map (Value.int k))) : SlI k w A xs := by
  obtain ⟨A', c', e', _, _, s⟩ := SlI.of_own h
  injection e' with h1 _ _
  rw [h1]
  exact s
theorem bytes_src (W : World) (e : TypeId) (t : ByteArray) : ∀ j u, (bcs (sbs t))[j]? = some u → (Lib.bytesWorld W e t).cell? ((⟨W.heap.size, 0, none⟩ : Addr).add j) = some u := fun j u hu => by
  simp only [bcs, List.getElem?_map, Option.map_eq_some_iff] at hu
  obtain ⟨z, hz, rfl⟩ := hu
  obtain ⟨b, o, hb, hc⟩ := sli_bytes W e t (by have := (List.getElem?_eq_some_iff.1 hz).1; omega)
  injection hb with hb
  have h1 := hc j z hz
  rw [← add_at, ← hb] at h1
  exact h1
/-- A slice of steps. -/
def SlSt (w : World) (A : Option Addr) (xs : List St) : Prop := SlR 3 w A (xs.map St.cells)
/-- How many bytes have been written behind each of the first k steps. -/
def offsK (xs : List St) (k : Nat) : List Int := (List.range k).map fun i => (((xs.take (i + 1)).flatMap St.bytes).length : Int)
theorem offsK_succ (xs : List St) (k : Nat) : offsK xs (k + 1) = offsK xs k ++ [(((xs.take (k + 1)).flatMap St.bytes).length : Int)] := by simp [offsK, List.range_succ]
theorem offsK_length (xs : List St) (k : Nat) : (offsK xs k).length = k := by simp [offsK]
theorem St.bytes_length (s : St) (h : s.text.size ≤ 200) : s.bytes.length ≤ 200 := by
  unfold St.bytes
  split
  · rw [leN_length]; omega
  split
  · rw [leN_length]; omega
  split
  · rw [leN_length]; omega
  split
  · rw [leN_length]; omega
  split
  · rw [sbs_length]; omega
  · simp
theorem stsBytes_length : ∀ (xs : List St) (_ : ∀ s ∈ xs, s.text.size ≤ 200), (xs.flatMap St.bytes).length ≤ 200 * xs.length
  | [], _ => by simp
  | s :: l, h => by
    rw [List.flatMap_cons, List.length_append, List.length_cons]
    have h1 := s.bytes_length (h s (by simp))
    have h2 := stsBytes_length l (fun t ht => h t (by simp [ht]))
    omega
theorem Tryd.infoU32w : (Tryd.prog.info? 22).map (fun i => (i.zero, i.size, i.bytes)) = some (some (.int .u32 0), 1, 4) := by kernel_rfl

/-- What WriteSteps returns. -/
def RetSteps (xs : List St) (w : World) (e : Ending) (w' : World) : Prop :=
  ∃ A1 c1 A2 c2, e = .returned (.tuple #[.slice A1 (xs.flatMap St.bytes).length c1, .slice A2 xs.length c2]) ∧ SlI .u8 w' A1 (xs.flatMap St.bytes) ∧ (xs.flatMap St.bytes).length ≤ c1 ∧ SlI .u32 w' A2 (offsK xs xs.length) ∧ Below w.heap.size w w'
/-- What one step leaves, behind its bytes. -/
structure Stepped (w w1 : World) (wb mb : Nat) (zs : List Int) (A0 : Option Addr) (k c0 : Nat) (os : List Int) (wx : World) : Prop where
  wr : IsWriter w.heap.size wb w.heap.size mb zs wx
  own : wx.ownsRow w1.heap.size 22 1 (.slice A0 k c0) k (os.map (Value.int .u32))
  low : Below w.heap.size w wx
  size : w1.heap.size ≤ wx.heap.size
set_option maxRecDepth 100000 in
set_option maxHeartbeats 4000000 in
theorem writeSteps_any (A : Option Addr) (c : Nat) (xs : List St) (w : World) (hs : SlSt w A xs) (ok : ∀ s ∈ xs, s.Ok) (ht : ∀ s ∈ xs, s.text.size ≤ 200) (hn : xs.length ≤ 200) : Calls Tryd.prog 33 #[.slice A xs.length c] w (RetSteps xs w) := by
  obtain ⟨i0, hi, hz0, hz1, hz2⟩ := info_parts Tryd.infoU32w
  have bx := Blk.new w 78 #[.slice none 0 0, .int .i64 0, .int .i8 0]
  have bb := isBuf_new (B := w.heap.size) (Nat.le_refl _) bx
  have hbw : Below w.heap.size w (w.alloc (.cells #[.slice none 0 0, .int .i64 0, .int .i8 0] 78)) := by (repeat' (first | (with_reducible exact Below.refl _ _) | (with_reducible assumption) | (with_reducible refine below_drewN ?_ _) | (with_reducible refine Below.alloc ?_ ?_ _) | (with_reducible refine Below.drew ?_) | (with_reducible refine Below.setCell ?_ ?_ _) | go_size))
  have BB := Lib.hid bb
  have HB := Lib.hid hbw
  have HS := Lib.hid hs
  have n0 : (0 : Int) ≤ xs.length := by omega
  clear bx bb hbw hs
  go_enter Tryd.func33, Tryd.ntmps33
  go_wp2_with fail
  refine (newWriter_any w.heap.size w.heap.size [] _ BB.out rfl).mono ?_
  rintro e w1 ⟨wb, mb, rfl, hw1, hlt, hb1⟩
  have W1 := Lib.hid hw1
  have B1 := Lib.hid (below_from HB.out hb1)
  have zw := hw1.wlt
  have zb := hw1.buf.lt
  have oe := World.ownsRow_made (base := w1.heap.size) (e := 22) (size := 1) w1 #[] 0 (Nat.le_refl _) (by simp) (by simp)
  have OE := Lib.hid oe
  have WE := Lib.hid (hw1.here (Below.alloc (Below.refl _ _) (Nat.le_refl _) (.cells #[] 22)))
  have BE := Lib.hid (B1.out.alloc B1.out.size (.cells #[] 22))
  clear hw1 hb1 oe
  go_wp2_with fail
  go_loopw [6, 8, 16] (fun o _ i wr => ∃ (k : Nat) (A0 : Option Addr) (c0 : Nat), k ≤ xs.length ∧ i = .int .i64 k ∧ o = .slice A0 k c0 ∧ IsWriter w.heap.size wb w.heap.size mb ((xs.take k).flatMap St.bytes) wr ∧ wr.ownsRow w1.heap.size 22 1 (.slice A0 k c0) k ((offsK xs k).map (Value.int .u32)) ∧ Below w.heap.size w wr ∧ w1.heap.size ≤ wr.heap.size)
    (fun _ _ i _ => xs.length - (intOf i).toNat)
  case atStart => exact ⟨0, _, _, by omega, rfl, rfl, by simpa using WE.out, OE.out, BE.out, by simp⟩
  case round =>
    obtain ⟨k, A0, c0, hk, rfl, rfl, hw, ho, hb, hz⟩ := hrel
    have HW := Lib.hid hw
    have HO := Lib.hid ho
    have HBk := Lib.hid hb
    clear W1 B1 OE WE BE BB HB
    by_cases hlt : k < xs.length
    · have hk' : xs[k]? = some xs[k] := by simp [hlt]
      obtain ⟨sb, so, rfl, hc⟩ := HS.out (by simp; omega)
      have q0 := keep_cell hb (hc k _ (by rw [List.getElem?_map, hk']; rfl) 0 _ rfl)
      have q1 := keep_cell hb (hc k _ (by rw [List.getElem?_map, hk']; rfl) 1 _ rfl)
      have q2 := keep_cell hb (hc k _ (by rw [List.getElem?_map, hk']; rfl) 2 _ rfl)
      rw [Nat.add_zero] at q0
      have ht' : (xs.take (k + 1)).flatMap St.bytes = (xs.take k).flatMap St.bytes ++ St.bytes xs[k] := by rw [List.take_succ_eq_append_getElem hlt, List.flatMap_append]; simp
      have sok := ok xs[k] (List.getElem_mem hlt)
      have stx := ht xs[k] (List.getElem_mem hlt)
      have hln := stsBytes_length (xs.take k) (fun s hs => ht s (List.mem_of_mem_take hs))
      have hlk : (xs.take k).length ≤ 200 := by simp; omega
      generalize xs[k] = s at *
      obtain ⟨kd, nm, tx⟩ := s
      have hn1 := sok.n.1
      have hn2 := sok.n.2
      simp only at q0 q1 q2 stx hn1 hn2
      obtain ⟨zs, hzs⟩ : ∃ zs, zs = (xs.take (k + 1)).flatMap St.bytes := ⟨_, rfl⟩
      rw [← hzs] at ht'
      have HZ := Lib.hid hzs
      have HT := Lib.hid ht'
      have W3 := Lib.hid (hw.here (later_alloc wr (.cells (stCells kd nm tx) 64)))
      have O3 := Lib.hid (ho.alloc (.cells (stCells kd nm tx) 64))
      have B3 := Lib.hid (hb.alloc hb.size (.cells (stCells kd nm tx) 64))
      have z3 : w.heap.size ≤ (wr.alloc (.cells (stCells kd nm tx) 64)).heap.size := by simp; have := hb.size; omega
      have y3 : w1.heap.size ≤ (wr.alloc (.cells (stCells kd nm tx) 64)).heap.size := by simp; omega
      have hn3 : ∀ j, (Value.slice A0 k c0).ownBlock = some j → j ∉ [wb, w.heap.size] := fun j hj => by have := (ho.lt j hj).1; simp; omega
      have HN3 := Lib.hid hn3
      have KM := Lib.hid (show k + 1 ≤ maxLen from by unfold maxLen; omega)
      clear hk' hc hw ho hb ht' hzs hn3 sok
      go_upto_block 2 with fail
      go_cut [16] from 16 to 67 (fun i wx => i = .int .i64 k ∧ Stepped w w1 wb mb zs A0 k c0 (offsK xs k) wx)
      case first =>
        by_cases h0 : kd = 0
        · have e0 : (kd == 0) = true := by simpa using h0
          have hbn : St.bytes ⟨kd, nm, tx⟩ = [nm % 256] := by simp [St.bytes, h0, leN]
          clear h0
          go_wp2_with fail
          refine (writer_Uint8 w.heap.size wb w.heap.size mb _ _ W3.out z3 (nm % 256) (by omega)).mono ?_
          rintro e w4 ⟨rfl, hw4, wf4⟩
          have W4 := Lib.hid (by rw [HT.out, hbn]; exact hw4 : IsWriter w.heap.size wb w.heap.size mb zs w4)
          have O4 := Lib.hid (wf4.ownsRow O3.out (by decide) HN3.out)
          have B4 := Lib.hid (B3.out.trans ⟨wf4.os, wf4.tape, wf4.output, wf4.size, wf4.low⟩ : Below w.heap.size w w4)
          have z4 : w1.heap.size ≤ w4.heap.size := Nat.le_trans y3 wf4.size
          clear hw4 wf4 W3 O3 B3 q0 q1 q2 hbn
          go_wp2_with fail
          go_meet
          case rel => exact ⟨rfl, W4.out, O4.out, B4.out, z4⟩
        by_cases h1 : kd = 1
        · have e0 : (kd == 0) = false := by simpa using h0
          have e1 : (kd == 1) = true := by simpa using h1
          have hbn : St.bytes ⟨kd, nm, tx⟩ = le2 (nm % 65536) := by rw [St.bytes, if_neg h0, if_pos h1]; show leN 2 nm = _; rw [leN2, le2, show nm % 65536 % 256 = nm % 256 from by omega, show nm % 65536 / 256 % 256 = nm / 256 % 256 from by omega]
          clear h1
          go_wp2_with fail
          refine (writer_Uint16 w.heap.size wb w.heap.size mb _ _ W3.out z3 (nm % 65536) (by omega) (by omega) (by omega)).mono ?_
          rintro e w4 ⟨rfl, hw4, wf4⟩
          have W4 := Lib.hid (by rw [HT.out, hbn]; exact hw4 : IsWriter w.heap.size wb w.heap.size mb zs w4)
          have O4 := Lib.hid (wf4.ownsRow O3.out (by decide) HN3.out)
          have B4 := Lib.hid (B3.out.trans ⟨wf4.os, wf4.tape, wf4.output, wf4.size, wf4.low⟩ : Below w.heap.size w w4)
          have z4 : w1.heap.size ≤ w4.heap.size := Nat.le_trans y3 wf4.size
          clear hw4 wf4 W3 O3 B3 q0 q1 q2 hbn
          go_wp2_with fail
          go_meet
          case rel => exact ⟨rfl, W4.out, O4.out, B4.out, z4⟩
        by_cases h2 : kd = 2
        · have e0 : (kd == 0) = false := by simpa using h0
          have e1 : (kd == 1) = false := by simpa using h1
          have e2 : (kd == 2) = true := by simpa using h2
          have hbn : St.bytes ⟨kd, nm, tx⟩ = le4 (nm % 4294967296) := by rw [St.bytes, if_neg h0, if_neg h1, if_pos h2]; show leN 4 nm = _; rw [leN4, le4_mod, le4]
          clear h2
          go_wp2_with fail
          refine (writer_Uint32 w.heap.size wb w.heap.size mb _ _ W3.out z3 (nm % 4294967296) (by omega) (by omega) (by omega)).mono ?_
          rintro e w4 ⟨rfl, hw4, wf4⟩
          have W4 := Lib.hid (by rw [HT.out, hbn]; exact hw4 : IsWriter w.heap.size wb w.heap.size mb zs w4)
          have O4 := Lib.hid (wf4.ownsRow O3.out (by decide) HN3.out)
          have B4 := Lib.hid (B3.out.trans ⟨wf4.os, wf4.tape, wf4.output, wf4.size, wf4.low⟩ : Below w.heap.size w w4)
          have z4 : w1.heap.size ≤ w4.heap.size := Nat.le_trans y3 wf4.size
          clear hw4 wf4 W3 O3 B3 q0 q1 q2 hbn
          go_wp2_with fail
          go_meet
          case rel => exact ⟨rfl, W4.out, O4.out, B4.out, z4⟩
        by_cases h3 : kd = 3
        · have e0 : (kd == 0) = false := by simpa using h0
          have e1 : (kd == 1) = false := by simpa using h1
          have e2 : (kd == 2) = false := by simpa using h2
          have e3 : (kd == 3) = true := by simpa using h3
          have hbn : St.bytes ⟨kd, nm, tx⟩ = le8 nm := by rw [St.bytes, if_neg h0, if_neg h1, if_neg h2, if_pos h3]; show leN 8 nm = _; rw [leN8, leN4, leN4, le8, le4, le4]
          clear h3
          go_wp2_with fail
          refine (writer_Uint64 w.heap.size wb w.heap.size mb _ _ W3.out z3 nm hn1 hn2 (by omega)).mono ?_
          rintro e w4 ⟨rfl, hw4, wf4⟩
          have W4 := Lib.hid (by rw [HT.out, hbn]; exact hw4 : IsWriter w.heap.size wb w.heap.size mb zs w4)
          have O4 := Lib.hid (wf4.ownsRow O3.out (by decide) HN3.out)
          have B4 := Lib.hid (B3.out.trans ⟨wf4.os, wf4.tape, wf4.output, wf4.size, wf4.low⟩ : Below w.heap.size w w4)
          have z4 : w1.heap.size ≤ w4.heap.size := Nat.le_trans y3 wf4.size
          clear hw4 wf4 W3 O3 B3 q0 q1 q2 hbn
          go_wp2_with fail
          go_meet
          case rel => exact ⟨rfl, W4.out, O4.out, B4.out, z4⟩
        by_cases h4 : kd = 4
        · have e0 : (kd == 0) = false := by simpa using h0
          have e1 : (kd == 1) = false := by simpa using h1
          have e2 : (kd == 2) = false := by simpa using h2
          have e3 : (kd == 3) = false := by simpa using h3
          have e4 : (kd == 4) = true := by simpa using h4
          have W3b := Lib.hid (W3.out.here (below_bytes _ 5 tx))
          have O3b := Lib.hid (own_here O3.out (below_bytes _ 5 tx))
          have B3b := Lib.hid (below_from B3.out (below_bytes _ 5 tx))
          have z3b : w.heap.size ≤ (Lib.bytesWorld (wr.alloc (.cells (stCells kd nm tx) 64)) 5 tx).heap.size := Nat.le_trans z3 (below_bytes _ 5 tx).size
          have y3b : w1.heap.size ≤ (Lib.bytesWorld (wr.alloc (.cells (stCells kd nm tx) 64)) 5 tx).heap.size := Nat.le_trans y3 (below_bytes _ 5 tx).size
          have SB := Lib.hid (bytes_src (wr.alloc (.cells (stCells kd nm tx) 64)) 5 tx)
          have nb := Lib.hid (show (⟨(wr.alloc (.cells (stCells kd nm tx) 64)).heap.size, 0, none⟩ : Addr).block ≠ w.heap.size from by simp; omega)
          have cv : ∃ wn, wn = (Lib.bytesWorld (wr.alloc (.cells (stCells kd nm tx) 64)) 5 tx) ∧ Sem.run Tryd.prog (Go.convert 9 29 (Value.string tx)) (wr.alloc (.cells (stCells kd nm tx) 64)) = Result.ok (.slice (some ⟨(wr.alloc (.cells (stCells kd nm tx) 64)).heap.size, 0, none⟩) tx.size (grownCap (wr.alloc (.cells (stCells kd nm tx) 64)) tx.size 0 5)) wn := ⟨_, rfl, Lib.run_convert_string_bytes (P := Tryd.prog) (wr.alloc (.cells (stCells kd nm tx) 64)) 9 29 5 tx Tryd.underlying9 Tryd.underlying29 Tryd.underlying5⟩
          obtain ⟨wn, hwn, cv⟩ := cv
          rw [← hwn] at W3b O3b B3b z3b y3b SB
          rw [World.size_alloc] at SB nb
          clear hwn
          have hbn : St.bytes ⟨kd, nm, tx⟩ = sbs tx := by rw [St.bytes, if_neg h0, if_neg h1, if_neg h2, if_neg h3, if_pos (.inl h4)]
          clear h4
          go_wp2_with fail
          refine (writer_Bytes w.heap.size wb w.heap.size mb _ _ W3b.out z3b _ tx.size _ (sbs tx) (sbs_length tx) nb.out SB.out (by omega)).mono ?_
          rintro e w4 ⟨rfl, hw4, wf4⟩
          have W4 := Lib.hid (by rw [HT.out, hbn]; exact hw4 : IsWriter w.heap.size wb w.heap.size mb zs w4)
          have O4 := Lib.hid (wf4.ownsRow O3b.out (by decide) HN3.out)
          have B4 := Lib.hid (B3b.out.trans ⟨wf4.os, wf4.tape, wf4.output, wf4.size, wf4.low⟩ : Below w.heap.size w w4)
          have z4 : w1.heap.size ≤ w4.heap.size := Nat.le_trans y3b wf4.size
          clear hw4 wf4 W3 O3 B3 W3b O3b B3b cv SB nb q0 q1 q2 hbn
          go_wp2_with fail
          go_meet
          case rel => exact ⟨rfl, W4.out, O4.out, B4.out, z4⟩
        by_cases h5 : kd = 5
        · have e0 : (kd == 0) = false := by simpa using h0
          have e1 : (kd == 1) = false := by simpa using h1
          have e2 : (kd == 2) = false := by simpa using h2
          have e3 : (kd == 3) = false := by simpa using h3
          have e4 : (kd == 4) = false := by simpa using h4
          have e5 : (kd == 5) = true := by simpa using h5
          have hbn : St.bytes ⟨kd, nm, tx⟩ = sbs tx := by rw [St.bytes, if_neg h0, if_neg h1, if_neg h2, if_neg h3, if_pos (.inr h5)]
          clear h5
          go_wp2_with fail
          refine (writer_RawString w.heap.size wb w.heap.size mb _ _ W3.out z3 tx (by omega)).mono ?_
          rintro e w4 ⟨rfl, hw4, wf4⟩
          have W4 := Lib.hid (by rw [HT.out, hbn]; exact hw4 : IsWriter w.heap.size wb w.heap.size mb zs w4)
          have O4 := Lib.hid (wf4.ownsRow O3.out (by decide) HN3.out)
          have B4 := Lib.hid (B3.out.trans ⟨wf4.os, wf4.tape, wf4.output, wf4.size, wf4.low⟩ : Below w.heap.size w w4)
          have z4 : w1.heap.size ≤ w4.heap.size := Nat.le_trans y3 wf4.size
          clear hw4 wf4 W3 O3 B3 q0 q1 q2 hbn
          go_wp2_with fail
          go_meet
          case rel => exact ⟨rfl, W4.out, O4.out, B4.out, z4⟩
        have e0 : (kd == 0) = false := by simpa using h0
        have e1 : (kd == 1) = false := by simpa using h1
        have e2 : (kd == 2) = false := by simpa using h2
        have e3 : (kd == 3) = false := by simpa using h3
        have e4 : (kd == 4) = false := by simpa using h4
        have e5 : (kd == 5) = false := by simpa using h5
        have hbn : St.bytes ⟨kd, nm, tx⟩ = [] := by simp [St.bytes, h0, h1, h2, h3, h4, h5]
        have W4 := Lib.hid (by rw [HT.out, hbn, List.append_nil]; exact W3.out : IsWriter w.heap.size wb w.heap.size mb zs (wr.alloc (.cells (stCells kd nm tx) 64)))
        clear hbn
        go_wp2_with fail
        go_meet
        case rel => exact ⟨rfl, W4.out, O3.out, B3.out, y3⟩
      case rest =>
        obtain ⟨rfl, hst⟩ := hcut
        have ST := Lib.hid hst
        clear hst q0 q1 q2 W3 O3 B3 z3 y3 HN3 HT
        go_wp2_with fail
        refine (writer_Offset ST.out.wr).mono ?_
        rintro e w5 ⟨rfl, m5, rfl⟩
        go_wp2_with (at_builtin; refine wpList_append_sl rfl (.tmp 62) (.tmp 65) 49 rfl w1.heap.size 22 i0 _ 1 4 Tryd.underlying49 hi hz0 hz1 hz2 rfl (by decide) (.slice A0 k c0) k _ rfl ((own_drewN ST.out.own m5).alloc _) (some ⟨(wc.drewN m5).heap.size, 0, none⟩) 1 1 [.int .u32 (zs.length : Int)] rfl rfl (fun _ => ⟨_, rfl, cell_one_new _ _ _⟩) (by simp [Value.oneCell']) KM.out (by omega) (by have := ST.out.size; simp; omega) ?_; intro A6 c6 w6 hown6 hgrow6)
        go_roundw
        case rel => exact ⟨k + 1, A6, c6, by omega, by go_num, rfl, by rw [← HZ.out]; exact (((ST.out.wr.here (below_drewN (Below.refl _ _) m5)).here (later_alloc _ _)).grown ((own_drewN ST.out.own m5).alloc _) (by decide) zw zb hgrow6), by rw [offsK_succ, ← HZ.out, List.map_append]; exact hown6, ((below_drewN ST.out.low m5).alloc (by have := ST.out.low.size; exact this) _).grown hgrow6 (by have := ST.out.low.size; simp; omega) (fun j hj => by have := ((own_drewN ST.out.own m5).lt j hj).1; omega), by have z6 := hgrow6.size; have z7 := ST.out.size; simp at z6; omega⟩
        case measure => simp [intOf]; omega
    · obtain rfl : k = xs.length := by omega
      rw [List.take_length] at hw
      obtain ⟨ys, hys⟩ : ∃ ys, ys = xs.flatMap St.bytes := ⟨_, rfl⟩
      rw [← hys] at hw
      have HY := Lib.hid hys
      clear hb hys
      go_wp2_with fail
      refine (buffer_Bytes w.heap.size w.heap.size _ _ hw.buf).mono ?_
      rintro e w2 ⟨A2, c2, rfl, h1, h2, n2, rfl⟩
      have h3 := sli_own (k := .u32) ho
      clear hw ho
      go_wp2_with fail
      go_ret2
      exact ⟨A2, c2, A0, c0, by rw [← HY.out]; rfl, by rw [← HY.out]; exact h1, by rw [← HY.out]; exact h2, h3.heap rfl, below_drewN HBk.out n2⟩
end Go.Proofs.YtnbojmciolecgaaDoor
