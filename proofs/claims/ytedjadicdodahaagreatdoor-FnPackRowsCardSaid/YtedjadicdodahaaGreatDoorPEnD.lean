/- An element's encoder: its references, each once. (printed by gen_penD.py) -/
import Derived.StillTailTactics
import Derived.BigRegion
import Derived.Test.YtedjadicdodahaaGreatDoorPEnC
namespace Go.Proofs.YtedjadicdodahaaGreatDoor
open Go.RowKit Go.Maps

/-- A new reference has gone into the map, then behind. -/
theorem En.refNew {own : Nat → Prop} {pb eb mb m n : Nat} {ver : Int} {s : Bool} {p : Pk} {e : Es} {k ix : Int} {hd : Bool} {w : World} (h : En own pb eb mb ver s p e k ix hd w) {F : List Nat} {A0 : Option Addr} {C0 : Nat}
    (hb : Bf 122 (encR pb (.slice A0 n C0) (.map (some m)) k ix hd) eb 3 F e.ds w) (hF : ∀ g ∈ F, own g ∧ tag w g = some 5) (h3 : Row own 131 2 (.slice A0 n C0) n (refCells e.rs) w) (hm1 : own m) (hm2 : m ≠ mb)
    {D : DataW Unit} (hM : IsMap D) (hD : ∀ (s : Int × Int) (kl : Lit), keyOf Tryz.prog 131 (refV s) = some kl → Maps.has D kl = (placeT e.rs s).isSome ∧ ∀ v, placeT e.rs s = some v → D.atKey kl (.lit (.int .u32 0)) = .lit (.int .u32 v))
    (hm : MapK 131 53 .u32 refV m n (placeT e.rs) w) (x : Int × Int) (hx : x ∉ e.rs) (hn : n = e.rs.length) {kl : Lit} (hkl : keyOf Tryz.prog 131 (refV x) = some kl)
    {w2 : World} (hw2 : w2.ownsMap Tryz.prog 131 (plainElem Tryz.prog 53) m (n + 1) (D.put kl (.lit (.int .u32 (n : Int))))) (g2 : w.grownBy w2 (some m)) {wa : World} (hwa : Below w2.heap.size w2 wa) (A2 : Option Addr) (C2 : Nat) (w3 : World)
    (hrow : Row (grow own wa) 131 2 (.slice A2 (n + 1) C2) (n + 1) (refCells e.rs ++ [.int .i32 x.1, .int .i32 x.2]) w3) (hg : wa.grownBy w3 (Value.slice A0 n C0).ownBlock) (hvn : ∀ g, (Value.slice A2 (n + 1) C2).ownBlock = some g → (Value.slice A0 n C0).ownBlock = some g ∨ wa.heap.size ≤ g) :
    En (grow own w) pb eb mb ver s p ⟨e.ss, e.rs ++ [x], e.ds⟩ k ix hd (w3.setCell ⟨eb, 1, none⟩ (.slice A2 (n + 1) C2)) ∧ Kp own w (w3.setCell ⟨eb, 1, none⟩ (.slice A2 (n + 1) C2)) := by
  have htm := hm.tag
  have hml := hm.lt
  have hel := hb.lt
  have hre : ∀ g, (Value.slice A0 n C0).ownBlock = some g → g ≠ eb ∧ g ≠ m ∧ own g ∧ tag w g = some 131 := fun g hg => by
    have h1 := h3.tag hg
    refine ⟨fun e => ?_, fun e => ?_, h3.own g hg, h1⟩
    · rw [e, hb.tag] at h1
      exact absurd h1 (by decide)
    · rw [e, htm] at h1
      cases h1
  have heb : eb ≠ m := fun e => by
    have h1 := hb.tag
    rw [e, htm] at h1
    cases h1
  obtain ⟨ob, hob⟩ : ∃ ob, ob = (Value.slice A0 n C0).ownBlock.toList := ⟨_, rfl⟩
  have hobm : ∀ g, g ∈ ob → g ≠ eb ∧ g ≠ m ∧ own g ∧ tag w g = some 131 := fun g hg => hre g (by rw [hob] at hg; simpa using hg)
  have fr2 : Fr (m :: ob) w wa := ((fr_of_grown (G := [m]) g2 (by simp)).trans0 hwa).mono (by simp)
  have fr3 : Fr (m :: ob) w w3 := fr2.trans1 (fr_of_grown hg (fun k hk => by rw [hob, hk]; simp))
  have fr4 : Fr (eb :: m :: ob) w (w3.setCell ⟨eb, 1, none⟩ (.slice A2 (n + 1) C2)) := (fr3.mono (F := eb :: m :: ob) (fun k hk => List.mem_cons_of_mem _ hk)).setCell (p := ⟨eb, 1, none⟩) (.inl (by simp)) _
  have hF2 : ∀ g ∈ F, g ∉ m :: ob := fun g hg hm => by
    have h1 := (hF g hg).2
    rcases List.mem_cons.1 hm with rfl | hm
    · rw [htm] at h1
      cases h1
    · rw [(hobm g hm).2.2.2] at h1
      exact absurd h1 (by decide)
  have hFe : ∀ g ∈ F, g ≠ eb := fun g hg e => by
    have h1 := (hF g hg).2
    rw [e, hb.tag] at h1
    exact absurd h1 (by decide)
  have hown4 : ∀ g ∈ eb :: m :: ob, own g := fun g hg => by
    rcases List.mem_cons.1 hg with rfl | hg
    · exact h.en.low
    · rcases List.mem_cons.1 hg with rfl | hg
      · exact hm1
      · exact (hobm g hg).2.2.1
  refine ⟨⟨(h.pk.fr fr4 fun g hg => ?_).mono (grow_of own w), .inl h.en.low, F, .slice A2 (n + 1) C2, .map (some m), ?_, fun g hg => ⟨.inl (hF g hg).1, ?_⟩, ?_, .inr ⟨m, rfl, .inl hm1, hm2, ?_⟩⟩, Kp.of_fr fr4 fun g hg => .inl (hown4 g hg)⟩
  · rcases List.mem_cons.1 hg with rfl | hg
    · exact .inl ⟨_, hb.tag, by decide, by decide⟩
    · rcases List.mem_cons.1 hg with rfl | hg
      · exact .inr ⟨htm, hm2⟩
      · exact .inl ⟨_, (hobm g hg).2.2.2, by decide, by decide⟩
  · exact (hb.fr fr3 (fun hm => by
      rcases List.mem_cons.1 hm with h1 | h1
      · exact heb h1
      · exact (hobm eb h1).1 rfl) hF2).setR 1 (.inl (by omega)) (by simp [encR]) _ (encR_1 _ _ _ _ _ _ _)
  · rw [tag_fr fr4 (by
      have h1 := (hF g hg).2
      unfold tag at h1
      rcases Nat.lt_or_ge g w.heap.size with h | h
      · exact h
      · rw [Array.getElem?_eq_none h] at h1
        cases h1) (fun hm => by
      rcases List.mem_cons.1 hm with h1 | h1
      · exact hFe g hg h1
      · exact hF2 g hg h1)]
    exact (hF g hg).2
  · have hr4 := hrow.fr (G := [eb]) ((Fr.refl _ _).setCell (p := ⟨eb, 1, none⟩) (.inl (by simp)) (.slice A2 (n + 1) C2)) (fun g hg => by
      have h1 : g ≠ eb := by
        rcases hvn g hg with h2 | h2
        · exact (hre g h2).1
        · have := fr2.size
          omega
      simpa using h1)
    show Row _ _ _ _ (e.rs ++ [x]).length (refCells (e.rs ++ [x])) _
    rw [List.length_append, List.length_singleton, ← hn, refCells_snoc]
    exact hr4.mono (grow_le fr2.size)
  · have hm4 : (w3.setCell ⟨eb, 1, none⟩ (.slice A2 (n + 1) C2)).heap[m]? = w2.heap[m]? := by
      have hm2l := hw2.lt
      refine (Below.heap_setCell _ _ _ _ (fun e => heb e.symm)).trans ((hg.block m (Nat.lt_of_lt_of_le hm2l hwa.size) (fun e => ?_)).trans (hwa.block m hm2l))
      exact (hre m e.symm).2.1 rfl
    have hm5 := MapK.put (kv := refV) (t := placeT e.rs) Tryz.keyR refV_inj hkl hM hD (ownsMap_block hw2 hm4)
    have hpt : placeT (e.rs ++ [x]) = fun u => if u = x then some (n : Int) else placeT e.rs u := funext fun u => by
      rw [← placeT_put _ _ hx u, hn]
    show MapK _ _ _ _ _ (e.rs ++ [x]).length (placeT (e.rs ++ [x])) _
    rw [List.length_append, List.length_singleton, ← hn, hpt]
    exact hm5
/-- What is known between: behind the map's step, behind the row's. -/
theorem En.refMid {own : Nat → Prop} {pb eb m n tb : Nat} {e : Es} {k ix K I : Int} {hd : Bool} {w : World} {F : List Nat} {A0 : Option Addr} {C0 : Nat}
    (hb : Bf 122 (encR pb (.slice A0 n C0) (.map (some m)) k ix hd) eb 3 F e.ds w) (h3 : Row own 131 2 (.slice A0 n C0) n (refCells e.rs) w) (htm : tag w m = none) (ht : Blk w tb 131 #[.int .i32 K, .int .i32 I])
    (w2 : World) (g2 : w.grownBy w2 (some m)) :
    (w2.cell? ⟨eb, 1, none⟩ = some (.slice A0 n C0) ∧ w2.frozen? ⟨eb, 1, none⟩ = false ∧ w2.cell? ⟨tb, 0, none⟩ = some (.int .i32 K) ∧ w2.cell? ⟨tb, 1, none⟩ = some (.int .i32 I) ∧ eb < w2.heap.size ∧ tb < w2.heap.size) ∧
    Below w2.heap.size w2 (w2.drew.alloc (.cells #[.int .i32 K, .int .i32 I] 131)) ∧ Row own 131 2 (.slice A0 n C0) n (refCells e.rs) (w2.drew.alloc (.cells #[.int .i32 K, .int .i32 I] 131)) ∧
    (0 < 1 → ∃ ad, some (⟨w2.heap.size, 0, none⟩ : Addr) = some ad ∧ ∀ j u, ([.int .i32 K, .int .i32 I] : List Value)[j]? = some u → (w2.drew.alloc (.cells #[.int .i32 K, .int .i32 I] 131)).cell? (ad.add j) = some u) ∧
    ∀ w3, (w2.drew.alloc (.cells #[.int .i32 K, .int .i32 I] 131)).grownBy w3 (Value.slice A0 n C0).ownBlock → w3.cell? ⟨eb, 1, none⟩ = some (.slice A0 n C0) ∧ w3.frozen? ⟨eb, 1, none⟩ = false := by
  have heb : eb ≠ m := fun e => by
    have h1 := hb.tag
    rw [e, htm] at h1
    cases h1
  have htb : tb ≠ m := fun e => by
    have h1 := ht.tag
    rw [e, htm] at h1
    cases h1
  have fr1 : Fr [m] w w2 := fr_of_grown g2 (by simp)
  have hs := g2.size
  have ht2 := ht.fr fr1 (by simpa using htb)
  have hel := hb.lt
  have c1 : w.cell? ⟨eb, 1, none⟩ = some (.slice A0 n C0) := hb.rest 1 (.inl (by omega))
  have c2 := fr1.cell c1 (by simpa using heb)
  have f2 : w2.frozen? ⟨eb, 1, none⟩ = false := (World.frozen?_of_block (w := w) (a := ⟨eb, 1, none⟩) (fr1.block eb hel (by simpa using heb))).trans (hb.f 1)
  have hwa : Below w2.heap.size w2 (w2.drew.alloc (.cells #[.int .i32 K, .int .i32 I] 131)) := Below.alloc (Below.drew (Below.refl _ _)) (Nat.le_refl _) _
  have hr2 := h3.fr fr1 (fun j hj hm => by
    have h1 := h3.tag hj
    simp only [List.mem_singleton] at hm
    rw [hm, htm] at h1
    cases h1)
  refine ⟨⟨c2, f2, ht2.cell 0, ht2.cell 1, by omega, ht2.lt⟩, hwa, hr2.here hwa, src_new w2.drew 131 #[.int .i32 K, .int .i32 I] [.int .i32 K, .int .i32 I] rfl 1 _ (Below.refl _ _), fun w3 g3 => ?_⟩
  have hre : (Value.slice A0 n C0).ownBlock ≠ some eb := fun h' => by
    have h1 := h3.tag h'
    rw [hb.tag] at h1
    exact absurd h1 (by decide)
  have hb3 : w3.heap[eb]? = w2.heap[eb]? := (g3.block eb (by have := hwa.size; omega) (fun e => hre e.symm)).trans (hwa.block eb (by omega))
  exact ⟨(World.cell?_of_block (a := ⟨eb, 1, none⟩) hb3).trans c2, (World.frozen?_of_block (a := ⟨eb, 1, none⟩) hb3).trans f2⟩
/-- A map has been made. -/
theorem En.mkMap {own : Nat → Prop} {pb eb mb : Nat} {ver : Int} {s : Bool} {p : Pk} {e : Es} {k ix : Int} {hd : Bool} {w : World} (h : En own pb eb mb ver s p e k ix hd w) {F : List Nat} {rs : Value}
    (hb : Bf 122 (encR pb rs (.map none) k ix hd) eb 3 F e.ds w) (hF : ∀ g ∈ F, own g ∧ tag w g = some 5) (h3 : Row own 131 2 rs e.rs.length (refCells e.rs) w) (hrs : e.rs = []) :
    En (grow own w) pb eb mb ver s p e k ix hd ((w.setCell ⟨eb, 2, none⟩ (.map (some w.heap.size))).alloc (.map #[] 0)) ∧ Kp own w ((w.setCell ⟨eb, 2, none⟩ (.map (some w.heap.size))).alloc (.map #[] 0)) ∧
    Bf 122 (encR pb rs (.map (some w.heap.size)) k ix hd) eb 3 F e.ds ((w.setCell ⟨eb, 2, none⟩ (.map (some w.heap.size))).alloc (.map #[] 0)) ∧ (∀ g ∈ F, grow own w g ∧ tag ((w.setCell ⟨eb, 2, none⟩ (.map (some w.heap.size))).alloc (.map #[] 0)) g = some 5) ∧
    Row (grow own w) 131 2 rs e.rs.length (refCells e.rs) ((w.setCell ⟨eb, 2, none⟩ (.map (some w.heap.size))).alloc (.map #[] 0)) ∧ grow own w w.heap.size ∧ w.heap.size ≠ mb ∧
    MapK 131 53 .u32 refV w.heap.size e.rs.length (placeT e.rs) ((w.setCell ⟨eb, 2, none⟩ (.map (some w.heap.size))).alloc (.map #[] 0)) := by
  rw [← World.setCell_alloc_past (w := w) (.map #[] 0) eb 2 (.map (some w.heap.size)) hb.lt]
  obtain ⟨w1, hw1⟩ : ∃ w1, w1 = w.alloc (.map #[] 0) := ⟨_, rfl⟩
  have b1 : Below w.heap.size w w1 := by rw [hw1]; exact Below.alloc (Below.refl _ _) (Nat.le_refl _) _
  have hel := hb.lt
  have hml := h.pk.map.lt
  have fr4 : Fr [eb] w (w1.setCell ⟨eb, 2, none⟩ (.map (some w.heap.size))) := (Fr.of_below b1).setCell (.inl (by simp)) _
  have hF2 : ∀ g ∈ F, g < w.heap.size ∧ g ≠ eb := fun g hg => by
    have h1 := (hF g hg).2
    refine ⟨?_, fun e => ?_⟩
    · unfold tag at h1
      rcases Nat.lt_or_ge g w.heap.size with h | h
      · exact h
      · rw [Array.getElem?_eq_none h] at h1
        cases h1
    · rw [e, hb.tag] at h1
      exact absurd h1 (by decide)
  have hb4 : Bf 122 (encR pb rs (.map (some w.heap.size)) k ix hd) eb 3 F e.ds (w1.setCell ⟨eb, 2, none⟩ (.map (some w.heap.size))) := (hb.here b1).setR 2 (.inl (by omega)) (by simp [encR]) _ (encR_2 _ _ _ _ _ _ _)
  have hF4 : ∀ g ∈ F, grow own w g ∧ tag (w1.setCell ⟨eb, 2, none⟩ (.map (some w.heap.size))) g = some 5 := fun g hg => ⟨.inl (hF g hg).1, by rw [tag_fr fr4 (hF2 g hg).1 (by simpa using (hF2 g hg).2)]; exact (hF g hg).2⟩
  have hr4 : Row (grow own w) 131 2 rs e.rs.length (refCells e.rs) (w1.setCell ⟨eb, 2, none⟩ (.map (some w.heap.size))) := (h3.frt fr4 (fun g hg => by
    simp only [List.mem_singleton] at hg
    rw [hg, hb.tag]
    decide)).mono (grow_of own w)
  have hm1 : MapK 131 53 .u32 refV w.heap.size e.rs.length (placeT e.rs) (w1.setCell ⟨eb, 2, none⟩ (.map (some w.heap.size))) := by
    have h1 := MapK.made 131 53 .u32 refV w
    rw [← hw1] at h1
    have h2 := h1.fr (G := [eb]) ((Fr.refl _ _).setCell (p := ⟨eb, 2, none⟩) (.inl (by simp)) (.map (some w.heap.size))) (by simp; omega)
    rw [hrs]
    exact h2.ext fun _ => rfl
  rw [← hw1]
  refine ⟨⟨(h.pk.fr fr4 fun g hg => ?_).mono (grow_of own w), .inl h.en.low, F, rs, _, hb4, hF4, hr4, .inr ⟨_, rfl, .inr (Nat.le_refl _), by omega, hm1⟩⟩, Kp.of_fr fr4 (by simpa using .inl h.en.low), hb4, hF4, hr4, .inr (Nat.le_refl _), by omega, hm1⟩
  simp only [List.mem_singleton] at hg
  rw [hg]
  exact .inl ⟨_, hb.tag, by decide, by decide⟩
set_option maxRecDepth 100000 in
set_option maxHeartbeats 4000000 in
theorem rawReloc_new {own : Nat → Prop} {pb eb mb : Nat} {ver : Int} {s : Bool} {p : Pk} {e : Es} {k ix : Int} {hd : Bool} {w : World} (h : En own pb eb mb ver s p e k ix hd w) (K I : Int) (hK : 0 ≤ K ∧ K < 2147483648) (hI : 0 ≤ I ∧ I < 2147483648) (hnr : e.rs.length ≤ 1000000) (hx : (K, I) ∉ e.rs) :
    Calls Tryz.prog 90 #[.pointer (some ⟨eb, 0, none⟩), .int .i32 K, .int .i32 I] w (Met own w (.int .i64 (e.rs.length : Nat)) fun o w' => En o pb eb mb ver s p ⟨e.ss, e.rs ++ [(K, I)], e.ds⟩ k ix hd w') := by
  obtain ⟨w1, hw1⟩ : ∃ w1, w1 = w.alloc (.cells #[.int .i32 K, .int .i32 I] 131) := ⟨_, rfl⟩
  have b1 : Below w.heap.size w w1 := by rw [hw1]; exact Below.alloc (Below.refl _ _) (Nat.le_refl _) _
  have ht : Blk w1 w.heap.size 131 #[.int .i32 K, .int .i32 I] := by rw [hw1]; exact Blk.new _ _ _
  obtain ⟨F0, rs0, rm0, hb0, _, _, hR0⟩ := h.en.is
  have c2 : w.cell? ⟨eb, 2, none⟩ = some rm0 := hb0.rest 2 (.inl (by omega))
  have f2 : w.frozen? ⟨eb, 2, none⟩ = false := hb0.f 2
  have c2' : w1.cell? ⟨eb, 2, none⟩ = some rm0 := keep_cell b1 c2
  have f2' : w1.frozen? ⟨eb, 2, none⟩ = false := (World.frozen?_of_block (a := ⟨eb, 2, none⟩) (b1.block eb hb0.lt)).trans f2
  have ez := hb0.lt
  have h1 := h.here b1
  have B1 := Lib.hid b1
  have HNR := Lib.hid hnr
  have HX := Lib.hid hx
  have HW1 := Lib.hid hw1
  obtain ⟨F, rs, rm, hb, hF, h3, h4⟩ := h1.en.is
  obtain rfl : rm0 = rm := by
    have h9 := (hb.rest 2 (.inl (by omega))).symm.trans c2'
    simp only [encR, Option.some.injEq] at h9
    exact h9.symm
  obtain ⟨A0, C0, hrs, _⟩ := own_slice h3.row
  subst hrs
  rcases h4 with ⟨rfl, hrs⟩ | ⟨m, rfl, hm1, hm2, hm⟩
  · have hq : ∀ W, (binOp .neq 120 (.map none) (.map none)).run Tryz.prog W = .ok (.bool false) W := fun W => by kernel_rfl
    have hmk : ∀ W, (Instr.makeMap 120 none).run Tryz.prog W = .ok (.map (some W.heap.size)) (W.alloc (.map #[] 0)) := fun W => by kernel_rfl
    have c1 : w1.cell? ⟨eb, 1, none⟩ = some (.slice A0 e.rs.length C0) := hb.rest 1 (.inl (by omega))
    obtain ⟨W, hW⟩ : ∃ W, W = ((w1.setCell ⟨eb, 2, none⟩ (.map (some w1.heap.size))).alloc (.map #[] 0)) := ⟨_, rfl⟩
    have MKM := Lib.hid (h1.mkMap hb hF h3 hrs)
    rw [← hW] at MKM
    have HW := Lib.hid hW
    have HT := Lib.hid (show Blk W w.heap.size 131 #[.int .i32 K, .int .i32 I] from by
      rw [hW]
      exact (ht.far (p := ⟨eb, 2, none⟩) (by show w.heap.size ≠ eb; omega) _).alloc _)
    have n1 : (e.rs.length : Int) < 2147483648 := by omega
    clear hW hrs
    have ez1 : eb < w1.heap.size := hb.lt
    clear h h1 hb hF h3 hnr hx b1 hw1 hb0 hR0 ht
    go_enter Tryz.func90, Tryz.ntmps90
    go_wp2_with (rw [← HW1.out])
    rw [← HW.out]
    clear c1 c2 c2' f2 f2' ez ez1 HW HW1 n1
    obtain ⟨h1, kp1, hb, hF, h3, hm1, hm2, hm⟩ := MKM.out
    have ht := HT.out
    obtain ⟨m, hmm⟩ : ∃ m, m = w1.heap.size := ⟨_, rfl⟩
    rw [← hmm] at hb hm1 hm2 hm ⊢
    have KP1 := Lib.hid kp1
    clear hmm kp1 MKM HT
    obtain ⟨D, hown, hM, hD⟩ := hm.is
    obtain ⟨n, hn⟩ : ∃ n, n = e.rs.length := ⟨_, rfl⟩
    obtain ⟨i0, hj, jz0, jz1, jz2⟩ := info_parts Tryz.infoRef
    obtain ⟨kl, hkl⟩ := keyRef (K, I) (by simp [Lit.wf, IntKind.bits, IntKind.signed, IntKind.min, IntKind.max]; omega) (by simp [Lit.wf, IntKind.bits, IntKind.signed, IntKind.min, IntKind.max]; omega)
    rw [← hn] at hb h3 hown hm ⊢
    have hn1 : n ≤ 1000000 := by rw [hn]; exact HNR.out
    have m0 : (0 : Int) ≤ n := by omega
    have m1 : (n : Int) < 2147483648 := by omega
    have WFN := Lib.hid (show (Lit.int .u32 (n : Int)).wf = true from by simp [Lit.wf, IntKind.bits, IntKind.signed, IntKind.min, IntKind.max]; omega)
    have O1 := Lib.hid (show ∀ u ∈ ([.int .i32 K, .int .i32 I] : List Value), u.oneCell' = true from by simp [Value.oneCell'])
    have O2 := Lib.hid (show n + 1 ≤ maxLen from by unfold maxLen; omega)
    have O3 := Lib.hid (show (n + 1) * 8 ≤ 140737488355328 from by omega)
    have HN := Lib.hid hn
    have hwr : IntKind.u32.wrap (n : Int) = n := by rw [IntKind.wrap_u32]; omega
    have HO := Lib.hid hown
    have HKL := Lib.hid hkl
    have t0 := ht.cell 0
    have t1 := ht.cell 1
    have c1 : W.cell? ⟨eb, 1, none⟩ = some (.slice A0 n C0) := hb.rest 1 (.inl (by omega))
    have d2 : W.cell? ⟨eb, 2, none⟩ = some (.map (some m)) := hb.rest 2 (.inl (by omega))
    have RM := Lib.hid (fun (w2 : World) (g2 : W.drew.grownBy w2 (some m)) => En.refMid (w := W.drew) (e := e) (n := n) (A0 := A0) (C0 := C0) (hb.here (Below.drew (Below.refl _ _))) (h3.here (Below.drew (Below.refl _ _))) (hm.here (Below.drew (Below.refl _ _))).tag (ht.here (Below.drew (Below.refl _ _))) w2 g2)
    have FIN := Lib.hid (fun (w2 : World) (hw2 : w2.ownsMap Tryz.prog 131 (plainElem Tryz.prog 53) m (n + 1) (D.put kl (.lit (.int .u32 (n : Int))))) (g2 : W.drew.grownBy w2 (some m)) (A2 : Option Addr) (C2 : Nat) (w3 : World) (hwa : Below w2.heap.size w2 (w2.drew.alloc (.cells #[.int .i32 K, .int .i32 I] 131))) =>
      En.refNew (w := W.drew) (h1.here (Below.drew (Below.refl _ _))) (n := n) (A0 := A0) (C0 := C0) (hb.here (Below.drew (Below.refl _ _))) hF (h3.here (Below.drew (Below.refl _ _))) hm1 hm2 hM hD (hm.here (Below.drew (Below.refl _ _))) (K, I) HX.out hn hkl hw2 g2 hwa A2 C2 w3)
    clear hb hF h3 hm hM hD hown hkl h1 ht hn
    go_still_tail 7, (by kernel_rfl)
    change wpList _ _ _ _ _ W.drew
    refine wpList_mapUpdate_own W.drew rfl _ _ _ 120 rfl 131 53 Tryz.keyR Tryz.underlying120 (plainElem Tryz.prog 53) m n D rfl HO.out.drew (by unfold maxLen; omega) _ _ kl rfl rfl HKL.out (.lit (.int .u32 (n : Int))) [] (plainElem_int Tryz.underlying53 WFN.out) ?_
    intro w2 hown2 g2
    obtain ⟨⟨r1, r2, r3, r4, r5, r6⟩, r7, r8, r9, r10⟩ := RM.out w2 g2
    have R7 := Lib.hid r7
    have R8 := Lib.hid r8
    have R9 := Lib.hid r9
    have R10 := Lib.hid r10
    have FI2 := Lib.hid (FIN.out w2 hown2 g2)
    clear r7 r8 r9 r10 hown2 g2 RM FIN t0 t1 c1 d2
    go_wp2_with fail
    go_region_law (first
        | (refine step_append_row (by rfl) _ _ 79 (by rfl) (grow own w1) 131 i0 _ 2 8 Tryz.underlying79 hj jz0 jz1 jz2 (by rfl) (by decide) (.slice A0 n C0) n _ (by rfl) R8.out _ 1 1 [.int .i32 K, .int .i32 I] (by rfl) rfl R9.out O1.out O2.out O3.out ?_; intro A2 C2 w3 hown2 hgrow2 hnew2; obtain ⟨x3c, x3f⟩ := R10.out w3 hgrow2)
        | (go_simp; fail))
    all_goals
      obtain ⟨e4, k4⟩ := FI2.out A2 C2 w3 R7.out hown2 hgrow2 hnew2
      have E4 := Lib.hid e4
      have K4 := Lib.hid (((Kp.refl _ W).drewN 1).trans' k4)
      obtain ⟨w4, hw4⟩ : ∃ w4, w4 = w3.setCell ⟨eb, 1, none⟩ (.slice A2 (n + 1) C2) := ⟨_, rfl⟩
      rw [← hw4] at E4 K4 ⊢
      clear hw4 e4 k4 x3c x3f hown2 hgrow2 hnew2
      go_wp2_with fail
      go_ret
      refine ⟨?_, E4.out.mono (fun k hk => grow_le B1.out.size k (grow_grow KP1.out.size k hk)), (Kp.of_below B1.out).trans' (KP1.out.trans K4.out)⟩
      show Ending.returned (.int .i64 (n : Int)) = _
      rw [HN.out]
  · have hq : ∀ W, (binOp .neq 120 (.map (some m)) (.map none)).run Tryz.prog W = .ok (.bool true) W := fun W => by kernel_rfl
    obtain ⟨wd, hwd⟩ : ∃ wd, wd = w1.drew := ⟨_, rfl⟩
    have bd : Below w1.heap.size w1 wd := by rw [hwd]; exact Below.drew (Below.refl _ _)
    have ts0 := ht.cell 0
    have ts1 := ht.cell 1
    replace h1 := h1.here bd
    replace hb := hb.here bd
    have hF2 : ∀ g ∈ F, own g ∧ tag wd g = some 5 := fun g hg => ⟨(hF g hg).1, by rw [hwd]; exact (hF g hg).2⟩
    clear hF
    have hF := hF2
    clear hF2
    replace h3 := h3.here bd
    replace hm := hm.here bd
    replace ht := ht.here bd
    have HWD := Lib.hid hwd
    have BD := Lib.hid (show Below w.heap.size w wd from b1.trans (bd.mono b1.size))
    clear bd
    obtain ⟨D, hown, hM, hD⟩ := hm.is
    obtain ⟨n, hn⟩ : ∃ n, n = e.rs.length := ⟨_, rfl⟩
    obtain ⟨i0, hj, jz0, jz1, jz2⟩ := info_parts Tryz.infoRef
    obtain ⟨kl, hkl⟩ := keyRef (K, I) (by simp [Lit.wf, IntKind.bits, IntKind.signed, IntKind.min, IntKind.max]; omega) (by simp [Lit.wf, IntKind.bits, IntKind.signed, IntKind.min, IntKind.max]; omega)
    have hb1 : Maps.has D kl = false := by rw [(hD _ _ hkl).1, placeT, if_neg hx]; rfl
    rw [← hn] at hb h3 hown hm ⊢
    have hlk : ∀ W : World, W.ownsMap Tryz.prog 131 (plainElem Tryz.prog 53) m n D → ∃ c : Int, (Instr.lookup 120 (.map (some m)) (.agg #[.int .i32 K, .int .i32 I]) true).run Tryz.prog W = .ok (.tuple #[.int .u32 c, .bool false]) W := fun W hW => by
      obtain ⟨v, ps, hrun, hv⟩ := hW.look_ok Tryz.keyR Tryz.underlying120 (Tryz.zeroU32 W) (plainElem_int (q := .u32) Tryz.underlying53 (by decide)) hkl
      obtain ⟨c, rfl, _, _⟩ := plainElem_int_inv Tryz.underlying53 hv
      rw [hb1] at hrun
      exact ⟨c, hrun⟩
    have hown1 : w1.ownsMap Tryz.prog 131 (plainElem Tryz.prog 53) m n D := ownsMap_block hown (by rw [hwd]; rfl)
    obtain ⟨cc1, hlk1⟩ := hlk w1 hown1
    obtain ⟨cc2, hlk2⟩ := hlk w1.drew hown1.drew
    clear hlk
    have HO1 := Lib.hid hown1
    have HKL1 := Lib.hid hkl
    have HB1 := Lib.hid hb
    have HF1 := Lib.hid hF
    have H31 := Lib.hid h3
    have HM1 := Lib.hid hm
    have HIM := Lib.hid hM
    have HD1 := Lib.hid hD
    have HOW := Lib.hid hown
    have HH1 := Lib.hid h1
    have HT1 := Lib.hid ht
    have HN1 := Lib.hid hn
    clear h hnr hx b1 hw1 hwd hb0 hR0 hb hF h3 hm hM hD hown hown1 h1 ht hn hkl
    go_enter Tryz.func90, Tryz.ntmps90
    go_wp2_with fail
    rw [← HW1.out]
    go_region
    clear hlk1 hlk2
    rw [← HWD.out]
    clear ts0 ts1 c2 f2 ez
    have hb := HB1.out
    have hF := HF1.out
    have h3 := H31.out
    have hm := HM1.out
    have hM := HIM.out
    have hD := HD1.out
    have hown := HOW.out
    have h1 := HH1.out
    have ht := HT1.out
    have hn := HN1.out
    have hkl := HKL1.out
    clear HB1 HF1 H31 HM1 HIM HD1 HOW HH1 HT1 HN1 HKL1 HO1 HWD HW1
    have hn1 : n ≤ 1000000 := by rw [hn]; exact HNR.out
    have m0 : (0 : Int) ≤ n := by omega
    have m1 : (n : Int) < 2147483648 := by omega
    have WFN := Lib.hid (show (Lit.int .u32 (n : Int)).wf = true from by simp [Lit.wf, IntKind.bits, IntKind.signed, IntKind.min, IntKind.max]; omega)
    have O1 := Lib.hid (show ∀ u ∈ ([.int .i32 K, .int .i32 I] : List Value), u.oneCell' = true from by simp [Value.oneCell'])
    have O2 := Lib.hid (show n + 1 ≤ maxLen from by unfold maxLen; omega)
    have O3 := Lib.hid (show (n + 1) * 8 ≤ 140737488355328 from by omega)
    have HN := Lib.hid hn
    have hwr : IntKind.u32.wrap (n : Int) = n := by rw [IntKind.wrap_u32]; omega
    have HO := Lib.hid hown
    have HKL := Lib.hid hkl
    have t0 := ht.cell 0
    have t1 := ht.cell 1
    have c1 : wd.cell? ⟨eb, 1, none⟩ = some (.slice A0 n C0) := hb.rest 1 (.inl (by omega))
    have d2 : wd.cell? ⟨eb, 2, none⟩ = some (.map (some m)) := hb.rest 2 (.inl (by omega))
    have RM := Lib.hid (fun (w2 : World) (g2 : wd.drew.grownBy w2 (some m)) => En.refMid (w := wd.drew) (e := e) (n := n) (A0 := A0) (C0 := C0) (hb.here (Below.drew (Below.refl _ _))) (h3.here (Below.drew (Below.refl _ _))) (hm.here (Below.drew (Below.refl _ _))).tag (ht.here (Below.drew (Below.refl _ _))) w2 g2)
    have FIN := Lib.hid (fun (w2 : World) (hw2 : w2.ownsMap Tryz.prog 131 (plainElem Tryz.prog 53) m (n + 1) (D.put kl (.lit (.int .u32 (n : Int))))) (g2 : wd.drew.grownBy w2 (some m)) (A2 : Option Addr) (C2 : Nat) (w3 : World) (hwa : Below w2.heap.size w2 (w2.drew.alloc (.cells #[.int .i32 K, .int .i32 I] 131))) =>
      En.refNew (w := wd.drew) (h1.here (Below.drew (Below.refl _ _))) (n := n) (A0 := A0) (C0 := C0) (hb.here (Below.drew (Below.refl _ _))) hF (h3.here (Below.drew (Below.refl _ _))) hm1 hm2 hM hD (hm.here (Below.drew (Below.refl _ _))) (K, I) HX.out hn hkl hw2 g2 hwa A2 C2 w3)
    clear hb hF h3 hm hM hD hown hkl h1 ht hn
    go_wp2_with fail
    go_still_tail 7, (by kernel_rfl)
    change wpList _ _ _ _ _ wd.drew
    refine wpList_mapUpdate_own wd.drew rfl _ _ _ 120 rfl 131 53 Tryz.keyR Tryz.underlying120 (plainElem Tryz.prog 53) m n D rfl HO.out.drew (by unfold maxLen; omega) _ _ kl rfl rfl HKL.out (.lit (.int .u32 (n : Int))) [] (plainElem_int Tryz.underlying53 WFN.out) ?_
    intro w2 hown2 g2
    obtain ⟨⟨r1, r2, r3, r4, r5, r6⟩, r7, r8, r9, r10⟩ := RM.out w2 g2
    have R7 := Lib.hid r7
    have R8 := Lib.hid r8
    have R9 := Lib.hid r9
    have R10 := Lib.hid r10
    have FI2 := Lib.hid (FIN.out w2 hown2 g2)
    clear r7 r8 r9 r10 hown2 g2 RM FIN t0 t1 c1 d2
    go_wp2_with fail
    go_region_law (first
        | (refine step_append_row (by rfl) _ _ 79 (by rfl) own 131 i0 _ 2 8 Tryz.underlying79 hj jz0 jz1 jz2 (by rfl) (by decide) (.slice A0 n C0) n _ (by rfl) R8.out _ 1 1 [.int .i32 K, .int .i32 I] (by rfl) rfl R9.out O1.out O2.out O3.out ?_; intro A2 C2 w3 hown2 hgrow2 hnew2; obtain ⟨x3c, x3f⟩ := R10.out w3 hgrow2)
        | (go_simp; fail))
    all_goals
      obtain ⟨e4, k4⟩ := FI2.out A2 C2 w3 R7.out hown2 hgrow2 hnew2
      have E4 := Lib.hid e4
      have K4 := Lib.hid (((Kp.refl _ wd).drewN 1).trans' k4)
      obtain ⟨w4, hw4⟩ : ∃ w4, w4 = w3.setCell ⟨eb, 1, none⟩ (.slice A2 (n + 1) C2) := ⟨_, rfl⟩
      rw [← hw4] at E4 K4 ⊢
      clear hw4 e4 k4 x3c x3f hown2 hgrow2 hnew2
      go_wp2_with fail
      go_ret
      refine ⟨?_, E4.out.mono (grow_le BD.out.size), (Kp.of_below BD.out).trans' K4.out⟩
      show Ending.returned (.int .i64 (n : Int)) = _
      rw [HN.out]
end Go.Proofs.YtedjadicdodahaaGreatDoor
