/- The blocks of a file: what is known while they are written. -/
import Derived.Laws.Tables
import Derived.Test.YtajeinkkfggcbaaGreatDoorWrM
namespace Go.Proofs.YtajeinkkfggcbaaGreatDoor
open Go.RowKit

/-- The offsets, the first i of them told. -/
def atK (f : FM) (i : Nat) : Array Value := ((List.range 19).map fun j => Value.int .u32 (if j < i then (f.at_ j : Int) else 0)).toArray
theorem atK_size (f : FM) (i : Nat) : (atK f i).size = 19 := by simp [atK]
theorem atK_set (f : FM) (i : Nat) (v : Int) (hv : v = (f.at_ i : Int)) : (atK f i).setIfInBounds i (.int .u32 v) = atK f (i + 1) := by
  subst hv
  unfold atK
  apply Array.ext_getElem?
  intro j
  rw [Array.getElem?_setIfInBounds]
  simp only [List.size_toArray, List.length_map, List.length_range, List.getElem?_toArray, List.getElem?_map]
  by_cases hj : j < 19
  · rw [List.getElem?_range hj]
    simp only [Option.map_some]
    split
    · rename_i h
      subst h
      simp [hj]
    · congr 2
      split <;> split <;> first | rfl | omega
  · rw [List.getElem?_eq_none (by simp; omega)]
    split
    · rename_i h
      subst h
      rw [if_neg hj]
      rfl
    · rfl
theorem atK_zero (f : FM) : atK f 0 = #[.int .u32 0, .int .u32 0, .int .u32 0, .int .u32 0, .int .u32 0, .int .u32 0, .int .u32 0, .int .u32 0, .int .u32 0, .int .u32 0, .int .u32 0, .int .u32 0, .int .u32 0, .int .u32 0, .int .u32 0, .int .u32 0, .int .u32 0, .int .u32 0, .int .u32 0] := rfl
/-- The bytes ahead of block i. -/
def FM.pre (f : FM) (pre : List Int) (i : Nat) : List Int := pre ++ (f.blks.take i).flatten
theorem FM.pre_succ (f : FM) (pre : List Int) (i : Nat) (h : i < 18) (b : List Int) (hb : f.blks[i]'h = b) : f.pre pre i ++ b = f.pre pre (i + 1) := by
  subst hb
  unfold FM.pre
  rw [List.take_succ_eq_append_getElem (show i < f.blks.length from h), List.flatten_append, List.append_assoc, List.flatten_cons, List.flatten_nil, List.append_nil]
  rfl
theorem FM.pre_len (f : FM) (pre : List Int) (i : Nat) (hp : pre.length = f.base) : (f.pre pre i).length = f.at_ i := by
  unfold FM.pre FM.at_
  rw [List.length_append, hp]

/-- What is known in a writer of blocks: B the base, g the file's box, a the offsets' block (os its cells), ys what has been written. -/
structure BlkSt (f : FM) (B : Nat) (w : World) (g a wb b mb : Nat) (cs os : Array Value) (ys : List Int) (wr : World) : Prop where
  iw : IsW B wb b mb f.names.length ys f.tab.2 wr
  box : Blk wr g 33 cs
  at_ : Blk wr a 65 os
  wf : WF 5 [a, wb, b, mb] B w wr
structure Apart (g a wb b mb B : Nat) : Prop where
  pg : g ∉ [a, wb, b, mb]
  pa : a ∉ [wb, b, mb]
  pB : B ≤ a
section
variable {f : FM} {B : Nat} {w wr w' : World} {g a wb b mb : Nat} {cs os : Array Value} {ys : List Int}
theorem BlkSt.low (h : BlkSt f B w g a wb b mb cs os ys wr) {W0 : World} (h0 : Below B W0 w) : Below B W0 wr := h0.trans ⟨h.wf.os, h.wf.tape, h.wf.output, h.wf.size, h.wf.low⟩
theorem BlkSt.here (h : BlkSt f B w g a wb b mb cs os ys wr) (hb : Below wr.heap.size wr w') : BlkSt f B w g a wb b mb cs os ys w' := ⟨h.iw.here hb, h.box.here hb, h.at_.here hb, h.wf.trans (WF.of_below hb h.iw.zs)⟩
theorem BlkSt.alloc (h : BlkSt f B w g a wb b mb cs os ys wr) (o : Obj) : BlkSt f B w g a wb b mb cs os ys (wr.alloc o) := h.here (later_alloc _ _)
theorem BlkSt.drewN (h : BlkSt f B w g a wb b mb cs os ys wr) (n : Nat) : BlkSt f B w g a wb b mb cs os ys (wr.drewN n) := h.here (below_drewN (Below.refl _ _) n)
theorem BlkSt.cast (h : BlkSt f B w g a wb b mb cs os ys wr) {os' : Array Value} {ys' : List Int} (e1 : os = os') (e2 : ys = ys') : BlkSt f B w g a wb b mb cs os' ys' wr := e1 ▸ e2 ▸ h
theorem BlkSt.step (h : BlkSt f B w g a wb b mb cs os ys wr) (ap : Apart g a wb b mb B) {e : Ending} {ys' : List Int} (k : WroteM B wb b mb f.names.length ys' f.tab.2 wr e w') : BlkSt f B w g a wb b mb cs os ys' w' :=
  ⟨k.2.1, k.2.2.blk h.box (by have := ap.pg; simp at this ⊢; omega) (by decide), k.2.2.blk h.at_ ap.pa (by decide), h.wf.trans (k.2.2.more (by simp))⟩
theorem BlkSt.store (h : BlkSt f B w g a wb b mb cs os ys wr) (ap : Apart g a wb b mb B) (i : Nat) (v : Value) : BlkSt f B w g a wb b mb cs (os.setIfInBounds i v) ys (wr.setCell ⟨a, i, none⟩ v) := by
  have hf : Fr [a] wr (wr.setCell ⟨a, i, none⟩ v) := (Fr.refl _ _).setCell (.inl (by simp)) v
  have ha := ap.pa
  have hg := ap.pg
  simp at ha hg
  exact ⟨h.iw.fr h.at_ (by decide) (by omega) (by omega) hf, h.box.fr hf (by simp; omega), h.at_.set_ i v, h.wf.setCell (by simp) ap.pB v⟩
/-- A new block between. -/
theorem BlkSt.own (h : BlkSt f B w g a wb b mb cs os ys wr) : g < wr.heap.size ∧ a < wr.heap.size ∧ wb < wr.heap.size ∧ b < wr.heap.size ∧ mb < wr.heap.size := ⟨h.box.lt, h.at_.lt, h.iw.wr.wlt, h.iw.wr.buf.lt, h.iw.map.lt⟩
end

/-- The indices over the symbols q. -/
def idxQ (g : Df → Nat) (q : List Df) : List Int := idxB g q (q.length + 1)
theorem cntK_pre (g : Df → Nat) (q r : List Df) (i : Nat) (h : i ≤ q.length) : cntK g (q ++ r) i = cntK g q i := by
  unfold cntK
  rw [List.take_append_of_le_length h]
theorem cntK_all (g : Df → Nat) (q : List Df) : cntK g q q.length = (q.map g).sum := by simp [cntK]
theorem idxB_pre (g : Df → Nat) (q r : List Df) : ∀ k, k ≤ q.length + 1 → idxB g (q ++ r) k = idxB g q k
  | 0, _ => rfl
  | k + 1, h => by rw [idxB_succ, idxB_succ, idxB_pre g q r k (by omega), cntK_pre g q r k (by omega)]
theorem idxQ_nil (g : Df → Nat) : idxQ g [] = le4 0 := rfl
theorem idxQ_snoc (g : Df → Nat) (q : List Df) (x : Df) : idxQ g (q ++ [x]) = idxQ g q ++ le4 (((q.map g).sum + g x : Nat) : Int) := by
  have h1 : idxB g (q ++ [x]) (q.length + 1) = idxQ g q := idxB_pre g q [x] _ (by omega)
  unfold idxQ at *
  rw [List.length_append, List.length_singleton, idxB_succ, h1]
  congr 3
  rw [show q.length + 1 = (q ++ [x]).length from by simp, cntK_all]
  simp
theorem idxQ_len (g : Df → Nat) (q : List Df) : (idxQ g q).length = 4 * (q.length + 1) := idxB_length g q _
def gI (i : Nat) (d : Df) : Nat := if i = 0 then d.nr else if i = 1 then d.nx else d.nd
theorem FM.Small.gI_le {f : FM} (S : f.Small) (i : Nat) (d : Df) (h : d ∈ f.all) : gI i d ≤ 200 := by
  have := S.data d h
  unfold gI Df.nr Df.nx Df.nd
  split
  · omega
  · split <;> omega
theorem sum_le (g : Df → Nat) (m : Nat) : ∀ (q : List Df) (_ : ∀ d ∈ q, g d ≤ m), (q.map g).sum ≤ m * q.length
  | [], _ => by simp
  | x :: q, h => by
    have h1 := h x (by simp)
    have h2 := sum_le g m q (fun d hd => h d (by simp [hd]))
    rw [List.map_cons, List.sum_cons, List.length_cons, Nat.mul_succ]
    omega
theorem blks_idx (f : FM) (i : Nat) (h : i < 3) : f.blks[11 + i]'(show 11 + i < 18 by omega) = idxQ (gI i) f.all := by
  match i, h with
  | 0, _ => rfl
  | 1, _ => rfl
  | 2, _ => rfl
end Go.Proofs.YtajeinkkfggcbaaGreatDoor
