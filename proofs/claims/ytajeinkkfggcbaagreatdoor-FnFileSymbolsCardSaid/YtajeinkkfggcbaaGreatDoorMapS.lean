/- A writer's map of strings. -/
import Derived.Maps.OwnSet
import Derived.Maps.OwnOps
import Derived.Maps.Views
import Derived.StillTailTactics
import Derived.Test.YtajeinkkfggcbaaGreatDoorFm
import Derived.Test.YtajeinkkfggcbaaGreatDoorWrK
namespace Go.Proofs.YtajeinkkfggcbaaGreatDoor
open Go.RowKit Go.Maps

theorem Tryz.keyS : Keyed Tryz.prog 9 := string_keyed Tryz.underlying9
theorem Tryz.zeroU32 (w : World) : (zeroValue 23).run Tryz.prog w = .ok (.int .u32 0) w := by kernel_rfl
abbrev sk (s : ByteArray) : Lit := .string s.data.toList
theorem sk_inj {s u : ByteArray} (h : sk s = sk u) : s = u := by
  injection h with h
  cases s
  cases u
  congr 1
  exact Array.toList_inj.1 h
theorem sk_key (s : ByteArray) : WideAt.IsKeyLit (sk s) := trivial

/-- The map reads as t, at most n entries. -/
structure MapIs (mb n : Nat) (t : ByteArray → Option Nat) (w : World) : Prop where
  is : ∃ D : DataW Unit, w.ownsMap Tryz.prog 9 (plainElem Tryz.prog 23) mb n D ∧ IsMap D ∧ ∀ s : ByteArray, Maps.has D (sk s) = (t s).isSome ∧ ∀ v, t s = some v → D.atKey (sk s) (.lit (.int .u32 0)) = .lit (.int .u32 (v : Int))

section
variable {mb n : Nat} {t : ByteArray → Option Nat} {w w' : World}
theorem MapIs.mono (h : MapIs mb n t w) {m : Nat} (hm : n ≤ m) : MapIs mb m t w := by
  obtain ⟨D, h1, h2⟩ := h.is
  exact ⟨D, h1.mono hm, h2⟩
theorem MapIs.made (w : World) : MapIs w.heap.size 0 (fun _ => none) (w.alloc (.map #[] 0)) :=
  ⟨.map [], World.ownsMap_made w _ _ _, isMap_empty, fun s => ⟨rfl, fun v h => by cases h⟩⟩
theorem MapIs.block (h : MapIs mb n t w) (hb : w'.heap[mb]? = w.heap[mb]?) : MapIs mb n t w' := by
  obtain ⟨D, ⟨es, c, h1, h3⟩, h2⟩ := h.is
  exact ⟨D, ⟨es, c, hb.trans h1, h3⟩, h2⟩
theorem MapIs.lt (h : MapIs mb n t w) : mb < w.heap.size := by
  obtain ⟨D, h1, _⟩ := h.is
  exact h1.lt
theorem MapIs.here (h : MapIs mb n t w) (hb : Below w.heap.size w w') : MapIs mb n t w' := h.block (hb.block mb h.lt)
theorem MapIs.obj (h : MapIs mb n t w) : ∃ o, w.heap[mb]? = some o ∧ ∀ cs e fz, o ≠ .cells cs e fz := by
  obtain ⟨D, ⟨es, c, h1, _⟩, _⟩ := h.is
  exact ⟨_, h1, fun _ _ _ h => by cases h⟩
theorem MapIs.ne (h : MapIs mb n t w) {g : Nat} {e : TypeId} {cs : Array Value} (hb : Blk w g e cs) : mb ≠ g := by
  rintro rfl
  obtain ⟨o, h1, h2⟩ := h.obj
  exact h2 _ _ _ (Option.some.inj (h1.symm.trans hb))
theorem MapIs.wf {e : TypeId} {own : List Nat} {B : Nat} (h : MapIs mb n t w) (f : WF e own B w w') (hm : mb ∉ own) : MapIs mb n t w' := by
  obtain ⟨o, h1, h2⟩ := h.obj
  exact h.block ((f.keep mb o h1 hm (fun c fz => h2 c e fz)).trans h1.symm)
/-- What is stored at a key. -/
theorem MapIs.put {D : DataW Unit} {s : ByteArray} {v : Nat} (h2 : IsMap D) (h3 : ∀ s : ByteArray, Maps.has D (sk s) = (t s).isSome ∧ ∀ v, t s = some v → D.atKey (sk s) (.lit (.int .u32 0)) = .lit (.int .u32 (v : Int)))
    (h : w.ownsMap Tryz.prog 9 (plainElem Tryz.prog 23) mb n (D.put (sk s) (.lit (.int .u32 (v : Int))))) : MapIs mb n (fun u => if u = s then some v else t u) w := by
  refine ⟨_, h, h2.put _ _, fun u => ?_⟩
  by_cases hu : u = s
  · subst hu
    simp only [if_true, Option.isSome_some, Option.some.injEq, forall_eq']
    exact ⟨has_put_same h2 (sk_key u) _, atKey_put_same h2 (sk_key u) _ _⟩
  · have hk : sk u ≠ sk s := fun h => hu (sk_inj h)
    simp only [hu, if_false]
    exact ⟨(has_put_other hk _).trans (h3 u).1, fun w hw => (atKey_put_other hk _ _).trans ((h3 u).2 w hw)⟩
end

/-- A writer with its map: the bytes xs, the table t. -/
structure IsW (B wb b mb n : Nat) (xs : List Int) (t : ByteArray → Option Nat) (w : World) : Prop where
  wr : IsWriter B wb b mb xs w
  map : MapIs mb n t w
  low : B ≤ mb
section
variable {B wb b mb n : Nat} {xs xs' : List Int} {t : ByteArray → Option Nat} {w w' : World}
theorem IsW.mne (h : IsW B wb b mb n xs t w) : mb ≠ wb ∧ mb ≠ b := by
  obtain ⟨s0, s1, s2, s3, s4, s5, s6, s7, hb⟩ := h.wr.blk
  refine ⟨h.map.ne hb, ?_⟩
  obtain ⟨_, v, lr, ht, _⟩ := h.wr.buf
  rintro rfl
  obtain ⟨o, h1, h2⟩ := h.map.obj
  obtain ⟨cs, h3, _⟩ := ht
  exact h2 _ _ _ (Option.some.inj (h1.symm.trans h3))
theorem IsW.wf {own : List Nat} (h : IsW B wb b mb n xs t w) (hw : IsWriter B wb b mb xs' w') (f : WF 5 own B w w') (hm : mb ∉ own) : IsW B wb b mb n xs' t w' := ⟨hw, h.map.wf f hm, h.low⟩
theorem IsW.here (h : IsW B wb b mb n xs t w) (hb : Below w.heap.size w w') : IsW B wb b mb n xs t w' := ⟨h.wr.here hb, h.map.here hb, h.low⟩
theorem IsW.mono (h : IsW B wb b mb n xs t w) {m : Nat} (hm : n ≤ m) : IsW B wb b mb m xs t w := ⟨h.wr, h.map.mono hm, h.low⟩
theorem IsW.zs (h : IsW B wb b mb n xs t w) : B ≤ w.heap.size := by
  have := h.map.lt
  have := h.low
  omega
/-- A store into the map leaves the writer. -/
theorem IsWriter.mapped (h : IsWriter B wb b mb xs w) (hg : w.grownBy w' (some mb)) (hm : ∃ o, w.heap[mb]? = some o ∧ ∀ cs e fz, o ≠ .cells cs e fz) : IsWriter B wb b mb xs w' := by
  obtain ⟨o, h1, h2⟩ := hm
  have hne : ∀ g, (∃ c e fz, w.heap[g]? = some (.cells c e fz)) → g ≠ mb := by
    rintro g ⟨c, e, fz, hc⟩ rfl
    exact h2 _ _ _ (Option.some.inj (h1.symm.trans hc))
  obtain ⟨s0, s1, s2, s3, s4, s5, s6, s7, hb⟩ := h.blk
  obtain ⟨_, v, lr, ⟨cs, ht, _⟩, _⟩ := h.buf
  refine h.fr (gs := [mb]) (fr_of_grown hg) ?_ ?_ ?_
  · simpa using hne wb ⟨_, _, _, hb⟩
  · simpa using hne b ⟨_, _, _, ht⟩
  · rintro g ⟨c, fz, hc⟩
    simpa using hne g ⟨_, _, _, hc⟩
end

/-- What a method that writes leaves of a writer with its map. -/
def WroteM (B wb b mb n : Nat) (xs : List Int) (t : ByteArray → Option Nat) (w : World) (e : Ending) (w' : World) : Prop := e = .returned (.tuple #[]) ∧ IsW B wb b mb n xs t w' ∧ WF 5 [wb, b, mb] B w w'

theorem WroteM.of_wrote {B wb b mb n : Nat} {xs xs' : List Int} {t : ByteArray → Option Nat} {w w' : World} {e : Ending} (h : IsW B wb b mb n xs t w) (k : Wrote B wb b mb xs' w e w') : WroteM B wb b mb n xs' t w e w' :=
  ⟨k.1, h.wf k.2.1 k.2.2 (by have := h.mne; simp; omega), k.2.2.more (by simp)⟩

set_option maxRecDepth 100000 in
set_option maxHeartbeats 1000000 in
theorem addString_any (B wb b mb n : Nat) (hd : List Int) (T : Tab) (s : ByteArray) (w : World) (h : IsW B wb b mb n (hd ++ T.1) T.2 w) (hh : hd.length = 96) (hx : T.1.length + s.size < 100000) (hn : n < 100000) :
    Calls Tryz.prog 38 #[.pointer (some ⟨wb, 0, none⟩), .string s] w (WroteM B wb b mb (n + 1) (hd ++ (addS 96 T s).1) (addS 96 T s).2 w) := by
  have hz := h.zs
  obtain ⟨s0, s1, s2, s3, s4, s5, s6, s7, hb⟩ := h.wr.blk
  obtain ⟨D, hown, hM, hD⟩ := h.map.is
  have c1 := hb.cell 1
  have c2 := hb.cell 2
  have H := Lib.hid h
  have HO := Lib.hid hown
  have HM := Lib.hid hM
  have HD := Lib.hid hD
  have hkey := Lib.hid (WideMaps.keyOf_string_mk (P := Tryz.prog) Tryz.underlying9 (show s.size ≤ maxLen by unfold maxLen; omega))
  have hl := Lib.hid (show (hd ++ T.1).length = 96 + T.1.length by rw [List.length_append, hh])
  clear hb h hown hM hD
  by_cases hs : (T.2 s).isSome = true
  · have he : addS 96 T s = T := by unfold addS; rw [if_pos hs]
    rw [he]
    have hb' : Maps.has D (sk s) = true := (HD.out s).1.trans hs
    have HE := Lib.hid hb'
    clear he hs hb'
    have hb1 := HE.out
    clear HE
    go_enter Tryz.func38, Tryz.ntmps38
    go_wp2_with (at_lookup; refine wpList_lookup_own_ok_int _ rfl _ _ 98 rfl 9 23 .u32 Tryz.keyS Tryz.underlying98 Tryz.underlying23 (Tryz.zeroU32 _) mb n D rfl HO.out _ (sk s) rfl hkey.out ?_; intro c hat hwc; clear hat hwc)
    go_end0
    exact ⟨rfl, H.out.mono (by omega), WF.refl _ _ _ _⟩
  · have hs' : (T.2 s).isSome = false := by simpa using hs
    have he : addS 96 T s = (T.1 ++ sbs s, fun u => if u = s then some (96 + T.1.length) else T.2 u) := by unfold addS; rw [if_neg hs]
    rw [he]
    have hb1 : Maps.has D (sk s) = false := (HD.out s).1.trans hs'
    clear he hs hs'
    go_enter Tryz.func38, Tryz.ntmps38
    go_wp2_with (at_lookup; refine wpList_lookup_own_ok_int _ rfl _ _ 98 rfl 9 23 .u32 Tryz.keyS Tryz.underlying98 Tryz.underlying23 (Tryz.zeroU32 _) mb n D rfl HO.out _ (sk s) rfl hkey.out ?_; intro c hat hwc; clear hat hwc)
    go_still_tail 9, (by kernel_rfl)
    change wpList _ _ _ _ _ w.drew
    refine wpList_mapUpdate_own w.drew rfl _ _ _ 98 rfl 9 23 Tryz.keyS Tryz.underlying98 (plainElem Tryz.prog 23) mb n D rfl HO.out.drew (by unfold maxLen; omega) _ _ (sk s) rfl rfl hkey.out (.lit (.int .u32 (96 + (T.1.length : Int)))) [] (plainElem_int Tryz.underlying23 (by simp [Lit.wf, IntKind.bits, IntKind.signed, IntKind.min, IntKind.max]; omega)) ?_
    intro w1 hown1 hgrow1
    have W1 := Lib.hid ((H.out.wr.here (below_drewN (Below.refl _ _) 1)).mapped hgrow1 H.out.map.obj)
    have M1 := Lib.hid (MapIs.put HM.out HD.out (v := 96 + T.1.length) (by rw [Int.natCast_add]; exact hown1))
    have F1 := Lib.hid (⟨hgrow1.os, hgrow1.tape, hgrow1.output, hgrow1.size, fun k hk => hgrow1.block k (by have := H.out.zs; show k < w.heap.size; omega) (by have := H.out.low; simp; omega), fun k o hk hn _ => (hgrow1.block k (Array.getElem?_eq_some_iff.1 hk).1 (by rintro h; injection h with h; subst h; simp at hn)).trans hk⟩ : WF 5 [wb, b, mb] B w w1)
    have z1 : B ≤ w1.heap.size := Nat.le_trans hz hgrow1.size
    clear hown1 hgrow1 hb1 c1 c2
    go_wp2_with fail
    refine (writer_RawString B wb b mb _ _ W1.out z1 s (by rw [hl.out]; omega)).mono ?_
    rintro e w2 ⟨rfl, hw2, wf2⟩
    go_wp2_with fail
    go_end0
    refine ⟨rfl, ⟨?_, ?_, H.out.low⟩, F1.out.trans (wf2.more (by simp))⟩
    · rw [List.append_assoc] at hw2
      exact hw2
    · exact M1.out.wf wf2 (by have := H.out.mne; simp; omega)
end Go.Proofs.YtajeinkkfggcbaaGreatDoor
