/- The law on the length of what is known of a function. -/
import Derived.Test.YtnbojmciolecgaaDoorFunL
namespace Go.Proofs.YtnbojmciolecgaaDoor
open Go.RowKit

theorem Tryd.infoU32 : (Tryd.prog.info? 22).map (fun i => (i.zero, i.size, i.bytes)) = some (some (.int .u32 0), 1, 4) := by kernel_rfl
theorem Tryd.infoInl : (Tryd.prog.info? 43).map (fun i => (i.zero, i.size, i.bytes)) = some (some (nodeVal 0 0 0 0 0 0), 6, 24) := by kernel_rfl
theorem slN_src {w : World} {A : Option Addr} {xs : List Nd} (h : SlN w A xs) : 0 < xs.length → ∃ ad, A = some ad ∧ ∀ j u, (xs.flatMap Nd.cells)[j]? = some u → w.cell? (ad.add j) = some u := fun hn => by
  obtain ⟨b, o, rfl, hc⟩ := h hn
  refine ⟨_, rfl, fun j u hu => ?_⟩
  have hlen : (xs.flatMap Nd.cells).length = 6 * xs.length := by
    clear h hn hc hu
    induction xs with
    | nil => rfl
    | cons y l ih => rw [List.flatMap_cons, List.length_append, ih, List.length_cons]; show 6 + _ = _; omega
  have hj := (List.getElem?_eq_some_iff.1 hu).1
  have hk : j / 6 < xs.length := by omega
  have e : j = j / 6 * 6 + j % 6 := by omega
  rw [e, tree_cell xs (j / 6) (j % 6) hk (by omega)] at hu
  rw [add_at, e, ← Nat.add_assoc]
  exact hc _ _ (by simp [hk]) _ u hu
theorem src_blk {w : World} {g : Nat} {t : TypeId} {cs : Array Value} (h : Blk w g t cs) (news : List Value) (hn : cs.toList = news) (m : Nat) : 0 < m → ∃ ad, some (⟨g, 0, none⟩ : Addr) = some ad ∧ ∀ j u, news[j]? = some u → w.cell? (ad.add j) = some u := fun _ => by
  refine ⟨_, rfl, fun j u hu => ?_⟩
  subst hn
  rw [add_at, Nat.zero_add, h.cell]
  simpa using hu
theorem nodes_length (xs : List Nd) : (xs.flatMap Nd.cells).length = xs.length * 6 := by
  induction xs with
  | nil => rfl
  | cons y l ih => rw [List.flatMap_cons, List.length_append, ih, List.length_cons]; show 6 + _ = _; omega
theorem nodes_one (xs : List Nd) : ∀ u ∈ xs.flatMap Nd.cells, u.oneCell' = true := by
  intro u hu
  obtain ⟨y, _, hy⟩ := List.mem_flatMap.1 hu
  simp [Nd.cells] at hy
  rcases hy with rfl | rfl | rfl | rfl | rfl | rfl <;> rfl
theorem slN_of_own {w : World} {base n : Nat} {e : TypeId} {A : Option Addr} {c : Nat} {xs : List Nd} (h : w.ownsRow base e 6 (.slice A n c) n (xs.flatMap Nd.cells)) : SlN w A xs := fun hn => by
  have hl := h.1
  rw [nodes_length] at hl
  have hn' : n = xs.length := by omega
  subst hn'
  rcases h.2 with ⟨h0, h1⟩ | ⟨g, cap, cur, h0, _⟩
  · omega
  · injection h0 with h0 _ _
    subst h0
    refine ⟨g, 0, rfl, fun j y hj i u hu => ?_⟩
    obtain ⟨hlt, rfl⟩ := List.getElem?_eq_some_iff.1 hj
    have hi : i < 6 := (List.getElem?_eq_some_iff.1 hu).1
    have := h.cells (g := g) rfl (j * 6 + i) u (by rw [tree_cell xs j i hlt hi]; exact hu)
    rwa [add_at, Nat.zero_add, ← Nat.zero_add (j * 6 + i), ← Nat.add_assoc] at this
theorem sli_own {w : World} {base n : Nat} {e : TypeId} {k : IntKind} {A : Option Addr} {c : Nat} {xs : List Int} (h : w.ownsRow base e 1 (.slice A n c) n (xs.map (Value.int k))) : SlI k w A xs := by
  obtain ⟨A', c', e', _, _, s⟩ := SlI.of_own h
  injection e' with h1 _ _
  rw [h1]
  exact s
/-- A call that returns a slice of n, and turns nothing that was there. -/
def RetLen (n : Nat) (w : World) (e : Ending) (w' : World) : Prop := ∃ A c, e = .returned (.slice A n c) ∧ Below w.heap.size w w'
theorem functionLen_any (args locals id flag line : Int) (files : List Int) (tree : List Nd) (FA TA : Option Addr) (nf nt fc tc n : Nat) (w : World) (sf : SlI .u32 w FA files) (st : SlN w TA tree) (hf : nf = files.length) (ht : nt = tree.length) (hnf : nf ≤ 100) (hnt : nt ≤ 100)
    (bnd : ∀ z ∈ files, 0 ≤ z ∧ z < 4294967296) (bt : ∀ z ∈ tree, z.Ok) (a0 : 0 ≤ args) (a1 : args < 4294967296) (l0 : 0 ≤ locals) (l1 : locals < 4294967296) (hn : n = 24 + 4 * nf + 24 * nt) :
    Calls Tryd.prog 29 #[funVal args locals id flag line (.slice FA nf fc) (.slice TA nt tc)] w (RetLen n w) := by
  subst hf ht
  refine (functionBytes_any args locals id flag line files tree FA TA fc tc w sf st hnf hnt bnd bt a0 a1 l0 l1).mono ?_
  rintro e w' ⟨A, c, rfl, _, _, hb⟩
  exact ⟨A, c, by rw [funBytes_length, hn], hb⟩
theorem inlinedLen_any (x : Nd) (hx : x.Ok) (w : World) : Calls Tryd.prog 23 #[nodeVal x.a x.f x.l x.p x.y x.c] w (RetLen 24 w) := by
  refine (inlinedImpl_any x.a x.f x.l x.p x.y x.c w hx.f.1 hx.f.2 hx.p.1 hx.p.2 hx.y.1 hx.y.2).mono ?_
  rintro e w' ⟨A, c, rfl, _, _, hb⟩
  exact ⟨A, c, by rw [nodeBytes_length], hb⟩
set_option maxRecDepth 100000 in
set_option maxHeartbeats 6000000 in
theorem fnFunctionLength_walk (args locals id flag line : Int) (files : List Int) (tree : List Nd) (FA TA : Option Addr) (fc tc : Nat) (w : World) (sf : SlI .u32 w FA files) (st : SlN w TA tree)
    (bnd : ∀ z ∈ files, 0 ≤ z ∧ z < 4294967296) (bt : ∀ z ∈ tree, z.Ok) (a0 : 0 ≤ args ∧ args < 4294967296) (l0 : 0 ≤ locals ∧ locals < 4294967296) (hfm : files.length ≤ maxLen) (htm : tree.length ≤ maxLen)
    (file : Int) (bf : 0 ≤ file ∧ file < 4294967296) (x : Nd) (bn : x.Ok) :
    Calls Tryd.prog 7 #[funVal args locals id flag line (.slice FA files.length fc) (.slice TA tree.length tc), .int .u32 file, nodeVal x.a x.f x.l x.p x.y x.c] w (LawEnd w) := by
  have P0 := (Blk.new w 52 (funCells args locals id flag line (.slice FA files.length fc) (.slice TA tree.length tc))).alloc (.cells (nodeCells x.a x.f x.l x.p x.y x.c) 43)
  have N0 := Blk.new1 w (funBox args locals id flag line (.slice FA files.length fc) (.slice TA tree.length tc)) 43 (nodeCells x.a x.f x.l x.p x.y x.c)
  have hbw : Below w.heap.size w ((w.alloc (funBox args locals id flag line (.slice FA files.length fc) (.slice TA tree.length tc))).alloc (.cells (nodeCells x.a x.f x.l x.p x.y x.c) 43)) := by (repeat' (first | (with_reducible exact Below.refl _ _) | (with_reducible assumption) | (with_reducible refine below_drewN ?_ _) | (with_reducible refine Below.alloc ?_ ?_ _) | (with_reducible refine Below.drew ?_) | (with_reducible refine Below.setCell ?_ ?_ _) | go_size))
  unfold maxLen at hfm htm
  by_cases hn : files.length ≤ 50 ∧ tree.length ≤ 50
  · obtain ⟨h1, h2⟩ := hn
    have i1 : (files.length : Int) ≤ 50 := by omega
    have i2 : (tree.length : Int) ≤ 50 := by omega
    have SF := Lib.hid (sf.here hbw)
    have ST := Lib.hid (st.here hbw)
    have HP := Lib.hid P0
    have HN := Lib.hid N0
    have HB := Lib.hid hbw
    clear sf st P0 N0 hbw
    unfold funVal nodeVal
    go_enter Tryd.func7, Tryd.ntmps7
    go_wp2_with fail
    refine (zz15_yes args locals id flag line FA TA _ _ fc tc _ h1 h2).mono ?_
    rintro e w1 ⟨rfl, hb1⟩
    have p1 := HP.out.here hb1
    have P1 := Lib.hid p1
    have N1 := Lib.hid (HN.out.here hb1)
    have B1 := Lib.hid (below_from HB.out hb1)
    have SF1 := Lib.hid (SF.out.here hb1)
    have ST1 := Lib.hid (ST.out.here hb1)
    have pc := p1.cell
    clear p1 hb1 HP HN HB SF ST
    go_wp2_with fail
    refine (functionOk_yes args locals id flag line FA TA _ _ fc tc _ h1 h2).mono ?_
    rintro e w2 ⟨rfl, hb2⟩
    have p2 := P1.out.here hb2
    have P2 := Lib.hid p2
    have N2 := Lib.hid (N1.out.here hb2)
    have zp := p2.lt
    have zn := N2.out.lt
    have B2 := Lib.hid (below_from B1.out hb2)
    have SF2 := Lib.hid (SF1.out.here hb2)
    have ST2 := Lib.hid (ST1.out.here hb2)
    clear pc
    have pc := p2.cell
    clear p2 hb2 P1 N1 B1 SF1 ST1
    go_wp2_with fail
    have SK := Lib.hid (fun (w' : World) (h : Below w2.heap.size w2 w') => show w'.cell? ⟨w.heap.size, 0, none⟩ = some (.int .u32 args) ∧ w'.cell? ⟨w.heap.size, 1, none⟩ = some (.int .u32 locals) ∧ w'.cell? ⟨w.heap.size, 2, none⟩ = some (.int .u8 id) ∧ w'.cell? ⟨w.heap.size, 3, none⟩ = some (.int .u8 flag) ∧ w'.cell? ⟨w.heap.size, 4, none⟩ = some (.int .i32 line) ∧ w'.cell? ⟨w.heap.size, 5, none⟩ = some (.slice FA files.length fc) ∧ w'.cell? ⟨w.heap.size, 6, none⟩ = some (.slice TA tree.length tc) from (fun (p : Blk w' w.heap.size 52 (funCells args locals id flag line (.slice FA files.length fc) (.slice TA tree.length tc))) => ⟨p.cell 0, p.cell 1, p.cell 2, p.cell 3, p.cell 4, p.cell 5, p.cell 6⟩) (P2.out.here h))
    have SL := Lib.hid (fun (w' : World) (h : Below w2.heap.size w2 w') => show w'.cell? ⟨w.heap.size, 6, none⟩ = some (.slice TA tree.length tc) ∧ w'.cell? ⟨w.heap.size + 1, 0, none⟩ = some (.int .i32 x.a) ∧ w'.cell? ⟨w.heap.size + 1, 1, none⟩ = some (.int .u32 x.f) ∧ w'.cell? ⟨w.heap.size + 1, 2, none⟩ = some (.int .i32 x.l) ∧ w'.cell? ⟨w.heap.size + 1, 3, none⟩ = some (.int .u32 x.p) ∧ w'.cell? ⟨w.heap.size + 1, 4, none⟩ = some (.int .u32 x.y) ∧ w'.cell? ⟨w.heap.size + 1, 5, none⟩ = some (.int .i32 x.c) from (fun (p : Blk w' w.heap.size 52 (funCells args locals id flag line (.slice FA files.length fc) (.slice TA tree.length tc))) (q : Blk w' (w.heap.size + 1) 43 (nodeCells x.a x.f x.l x.p x.y x.c)) => ⟨p.cell 6, q.cell 0, q.cell 1, q.cell 2, q.cell 3, q.cell 4, q.cell 5⟩) (P2.out.here h) (N2.out.here h))
    obtain ⟨i0, hi, hz0, hz1, hz2⟩ := info_parts Tryd.infoU32
    obtain ⟨j0, hj, jz0, jz1, jz2⟩ := info_parts Tryd.infoInl
    obtain ⟨n0, hn0⟩ : ∃ n0, n0 = 24 + 4 * files.length + 24 * tree.length := ⟨_, rfl⟩
    obtain ⟨n1, hn1⟩ : ∃ n1, n1 = 24 + 4 * (files.length + 1) + 24 * tree.length := ⟨_, rfl⟩
    obtain ⟨n2, hn2⟩ : ∃ n2, n2 = 24 + 4 * files.length + 24 * (tree.length + 1) := ⟨_, rfl⟩
    have q0 : (0 : Int) < n0 := by omega
    have q0n : 0 < n0 := by omega
    have d0 : decide ((0 : Int) < (n0 : Int)) = true := by simp; omega
    have q0' : (n0 : Int) ≤ 100000 := by omega
    have q1 : ((n1 : Int) == (n0 : Int) + 4) = true := by simp; omega
    have q2 : ((n2 : Int) == (n0 : Int) + 24) = true := by simp; omega
    have k1 : IntKind.i64.wrap ((n0 : Int) + 4) = (n0 : Int) + 4 := by rw [IntKind.wrap_i64]; omega
    have k2 : IntKind.i64.wrap ((n0 : Int) + 24) = (n0 : Int) + 24 := by rw [IntKind.wrap_i64]; omega
    have HN0 := Lib.hid hn0
    have HN1 := Lib.hid hn1
    have HN2 := Lib.hid hn2
    clear hn0 hn1 hn2
    clear pc
    go_region_held3 (fun w' => w'.cell? ⟨w.heap.size, 0, none⟩ = some (.int .u32 args) ∧ w'.cell? ⟨w.heap.size, 1, none⟩ = some (.int .u32 locals) ∧ w'.cell? ⟨w.heap.size, 2, none⟩ = some (.int .u8 id) ∧ w'.cell? ⟨w.heap.size, 3, none⟩ = some (.int .u8 flag) ∧ w'.cell? ⟨w.heap.size, 4, none⟩ = some (.int .i32 line) ∧ w'.cell? ⟨w.heap.size, 5, none⟩ = some (.slice FA files.length fc) ∧ w'.cell? ⟨w.heap.size, 6, none⟩ = some (.slice TA tree.length tc)) ((refine SK.out _ ?_; (repeat' (first | (with_reducible exact Below.refl _ _) | (with_reducible assumption) | (with_reducible refine below_drewN ?_ _) | (with_reducible refine Below.alloc ?_ ?_ _) | (with_reducible refine Below.drew ?_) | (with_reducible refine Below.setCell ?_ ?_ _) | go_size)))) (fail)
    · have x1 : Blk ((w2.alloc (funBox args locals id flag line (.slice FA files.length fc) (.slice TA tree.length tc))).alloc (funBox args locals id flag line (.slice FA files.length fc) (.slice TA tree.length tc))).drew (w2.heap.size) 52 (funCells args locals id flag line (.slice FA files.length fc) (.slice TA tree.length tc)) := (Blk.new w2 _ _).alloc _
      have x2 : Blk ((w2.alloc (funBox args locals id flag line (.slice FA files.length fc) (.slice TA tree.length tc))).alloc (funBox args locals id flag line (.slice FA files.length fc) (.slice TA tree.length tc))).drew (w2.heap.size + 1) 52 (funCells args locals id flag line (.slice FA files.length fc) (.slice TA tree.length tc)) := Blk.new1 w2 _ _ _
      have b5 : Below w2.heap.size w2 ((w2.alloc (funBox args locals id flag line (.slice FA files.length fc) (.slice TA tree.length tc))).alloc (funBox args locals id flag line (.slice FA files.length fc) (.slice TA tree.length tc))).drew := by (repeat' (first | (with_reducible exact Below.refl _ _) | (with_reducible assumption) | (with_reducible refine below_drewN ?_ _) | (with_reducible refine Below.alloc ?_ ?_ _) | (with_reducible refine Below.drew ?_) | (with_reducible refine Below.setCell ?_ ?_ _) | go_size))
      have z5 : ((w2.alloc (funBox args locals id flag line (.slice FA files.length fc) (.slice TA tree.length tc))).alloc (funBox args locals id flag line (.slice FA files.length fc) (.slice TA tree.length tc))).drew.heap.size = w2.heap.size + 2 := by show ((w2.alloc _).alloc _).heap.size = _; simp
      generalize ((w2.alloc (funBox args locals id flag line (.slice FA files.length fc) (.slice TA tree.length tc))).alloc (funBox args locals id flag line (.slice FA files.length fc) (.slice TA tree.length tc))).drew = w5 at *
      have e5 : w2.heap.size + 2 ≤ w5.heap.size := by omega
      have zp5 : w.heap.size < w5.heap.size := by omega
      have X1 := Lib.hid x1
      have X2 := Lib.hid x2
      have HB5 := Lib.hid b5
      have SF5 := Lib.hid (SF2.out.here b5)
      have ST5 := Lib.hid (ST2.out.here b5)
      have pc := (P2.out.here b5).cell 5
      have O5 : w5.heap.size ≤ w5.heap.size := Nat.le_refl _
      have OE := World.ownsRow_made (e := 22) (size := 1) w5 #[] 0 (Nat.le_refl _) (by simp) (by simp)
      have OE5 := Lib.hid OE
      clear x1 x2 b5 z5 OE
      go_wp2_with (first
        | (at_builtin; refine wpList_append_sl rfl (.tmp 18) (.tmp 20) 49 rfl w5.heap.size 22 i0 _ 1 4 Tryd.underlying49 hi hz0 hz1 hz2 rfl (by decide) (.slice (some ⟨w5.heap.size, 0, none⟩) 0 0) 0 [] rfl OE5.out FA files.length fc (files.map (Value.int .u32)) rfl (by simp) (sli_src (SF5.out.here (later_alloc w5 _))) (ints_oneCell _ _) (by unfold maxLen; omega) (by omega) (by simp) ?_; intro A6 c6 w6 hown6 hgrow6; simp only [Nat.zero_add, List.nil_append] at hown6)
        | (at_builtin; refine wpList_append_sl rfl (.tmp 21) (.tmp 23) 49 rfl w5.heap.size 22 i0 _ 1 4 Tryd.underlying49 hi hz0 hz1 hz2 rfl (by decide) (.slice A6 files.length c6) files.length _ rfl (hown6.alloc _) (some ⟨w6.heap.size, 0, none⟩) 1 1 [.int .u32 file] rfl rfl (fun _ => ⟨_, rfl, cell_one_new _ _ _⟩) (by simp [Value.oneCell']) (by unfold maxLen; omega) (by omega) (by have := hgrow6.size; simp at this ⊢; omega) ?_; intro A7 c7 w7 hown7 hgrow7; have x7 := (((X1.out.alloc _).grown hgrow6 (by simp [Value.ownBlock]; omega)).alloc _).grown hgrow7 (own_ne_low hown6 (by omega)); have X7 := Lib.hid x7; have x7c := x7.cell 5; have x7f := x7.frozen 5))
      have x8 := X7.out.set_ 5 (.slice A7 (files.length + 1) c7)
      have y8 := (((X2.out.alloc (.cells #[] 22)).grown hgrow6 (by simp [Value.ownBlock]; omega)).alloc (.cells #[.int .u32 file] 22)).grown hgrow7 (own_ne_low hown6 (by omega))
      have y8s := y8.far (p := ⟨w2.heap.size, 5, none⟩) (by simp) (.slice A7 (files.length + 1) c7)
      have z6 := hgrow6.size
      have z7 := hgrow7.size
      simp only [World.size_alloc] at z6 z7
      have b7 : Below w2.heap.size w2 w7 := (((HB5.out.alloc (by omega) _).grown hgrow6 (by simp; omega) (by simp [Value.ownBlock]; omega)).alloc (by omega) _).grown hgrow7 (by simp; omega) (fun k hk => by have := (hown6.lt k hk).1; omega)
      have b8 := b7.setCell (p := ⟨w2.heap.size, 5, none⟩) (by simp) (.slice A7 (files.length + 1) c7)
      have o8 := own_set hown7 (p := ⟨w2.heap.size, 5, none⟩) (own_ne_low hown7 (by simp; omega)) (.slice A7 (files.length + 1) c7)
      have zz : w5.heap.size ≤ (w7.setCell ⟨w2.heap.size, 5, none⟩ (.slice A7 (files.length + 1) c7)).heap.size := by simp [World.setCell]; omega
      clear x7c x7f X7 pc OE5 hown6 hown7 hgrow6 hgrow7 b7
      generalize w7.setCell ⟨w2.heap.size, 5, none⟩ (.slice A7 (files.length + 1) c7) = w8 at *
      have zz8 : w2.heap.size ≤ w8.heap.size := by omega
      have X18 := Lib.hid x8
      have X28 := Lib.hid y8s
      have HB8 := Lib.hid b8
      have HO8 := Lib.hid o8
      have ST8 := Lib.hid (ST2.out.here b8)
      have oa := (World.ownsRow_made (base := w8.heap.size) (e := 43) (size := 6) w8 #[] 0 (Nat.le_refl _) (by simp) (by simp)).drew
      have oc := (World.ownsRow_made (base := w8.heap.size) (e := 43) (size := 6) (w8.alloc (.cells (nodeCells x.a x.f x.l x.p x.y x.c) 43)) #[] 0 (by simp) (by simp) (by simp)).drew
      rw [World.size_alloc] at oc
      have OA := Lib.hid oa
      have OC := Lib.hid oc
      have bba : Below w8.heap.size w8 (w8.alloc (.cells #[] 43)).drew := by (repeat' (first | (with_reducible exact Below.refl _ _) | (with_reducible assumption) | (with_reducible refine below_drewN ?_ _) | (with_reducible refine Below.alloc ?_ ?_ _) | (with_reducible refine Below.drew ?_) | (with_reducible refine Below.setCell ?_ ?_ _) | go_size))
      have bbb : Below w8.heap.size w8 ((w8.alloc (.cells #[] 43)).alloc (.cells (nodeCells x.a x.f x.l x.p x.y x.c) 43)).drew := by (repeat' (first | (with_reducible exact Below.refl _ _) | (with_reducible assumption) | (with_reducible refine below_drewN ?_ _) | (with_reducible refine Below.alloc ?_ ?_ _) | (with_reducible refine Below.drew ?_) | (with_reducible refine Below.setCell ?_ ?_ _) | go_size))
      have bbc : Below w8.heap.size w8 ((w8.alloc (.cells (nodeCells x.a x.f x.l x.p x.y x.c) 43)).alloc (.cells #[] 43)).drew := by (repeat' (first | (with_reducible exact Below.refl _ _) | (with_reducible assumption) | (with_reducible refine below_drewN ?_ _) | (with_reducible refine Below.alloc ?_ ?_ _) | (with_reducible refine Below.drew ?_) | (with_reducible refine Below.setCell ?_ ?_ _) | go_size))
      have rra : ∀ k, (Value.slice (some ⟨w8.heap.size, 0, none⟩) 0 0).ownBlock = some k → w8.heap.size ≤ k := by simp [Value.ownBlock]
      have rrb := rra
      have rrc : ∀ k, (Value.slice (some ⟨w8.heap.size + 1, 0, none⟩) 0 0).ownBlock = some k → w8.heap.size ≤ k := by simp [Value.ownBlock]
      have nb := (Blk.new1 w8 (.cells #[] 43) 43 (nodeCells x.a x.f x.l x.p x.y x.c)).drew
      have nc := ((Blk.new w8 43 (nodeCells x.a x.f x.l x.p x.y x.c)).alloc (.cells #[] 43)).drew
      have NB := Lib.hid nb
      have NC := Lib.hid nc
      have rb : (Value.slice (some ⟨w8.heap.size, 0, none⟩) 0 0).ownBlock ≠ some (w8.heap.size + 1) := by simp [Value.ownBlock]
      have rc : (Value.slice (some ⟨w8.heap.size + 1, 0, none⟩) 0 0).ownBlock ≠ some w8.heap.size := by simp [Value.ownBlock]
      have NL := Lib.hid (nodes_length tree)
      have NO := Lib.hid (nodes_one tree)
      have K1 := Lib.hid (show 0 + tree.length ≤ maxLen from by unfold maxLen; omega)
      have K2 := Lib.hid (show (0 + tree.length) * 24 ≤ 140737488355328 from by omega)
      have K3 := Lib.hid (show tree.length + 1 ≤ maxLen from by unfold maxLen; omega)
      have K4 := Lib.hid (show (tree.length + 1) * 24 ≤ 140737488355328 from by omega)
      have X1o := Lib.hid (show ∀ u ∈ x.cells, u.oneCell' = true from by simp [Nd.cells, Value.oneCell'])
      clear x8 y8 y8s o8 oa oc nb nc X1 X2
      go_region_held3 (fun w' => w'.cell? ⟨w.heap.size, 6, none⟩ = some (.slice TA tree.length tc) ∧ w'.cell? ⟨w.heap.size + 1, 0, none⟩ = some (.int .i32 x.a) ∧ w'.cell? ⟨w.heap.size + 1, 1, none⟩ = some (.int .u32 x.f) ∧ w'.cell? ⟨w.heap.size + 1, 2, none⟩ = some (.int .i32 x.l) ∧ w'.cell? ⟨w.heap.size + 1, 3, none⟩ = some (.int .u32 x.p) ∧ w'.cell? ⟨w.heap.size + 1, 4, none⟩ = some (.int .u32 x.y) ∧ w'.cell? ⟨w.heap.size + 1, 5, none⟩ = some (.int .i32 x.c)) ((refine SL.out _ ?_; (repeat' (first | (with_reducible exact Below.refl _ _) | (with_reducible assumption) | (with_reducible refine below_drewN ?_ _) | (with_reducible refine Below.alloc ?_ ?_ _) | (with_reducible refine Below.drew ?_) | (with_reducible refine Below.setCell ?_ ?_ _) | go_size)))) (first
        | (refine step_append_sl (by rfl) (.tmp 26) (.tmp 28) 50 (by rfl) w8.heap.size 43 j0 _ 6 24 Tryd.underlying50 hj jz0 jz1 jz2 (by rfl) (by decide) (.slice (some ⟨w8.heap.size, 0, none⟩) 0 0) 0 [] (by rfl) OA.out TA tree.length tc (tree.flatMap Nd.cells) (by rfl) NL.out (slN_src (ST8.out.here (bba : Below w8.heap.size w8 _))) NO.out K1.out K2.out bba.size ?_; intro A9 c9 w9 hown9 hgrow9; simp only [Nat.zero_add, List.nil_append] at hown9; have b9 := bba.grown hgrow9 bba.size rra; have b9s := HB8.out.trans (b9.mono zz8); have s9 := b9s.size; have tok1 : True := trivial)
        | (refine step_append_sl (by rfl) (.tmp 26) (.tmp 28) 50 (by rfl) w8.heap.size 43 j0 _ 6 24 Tryd.underlying50 hj jz0 jz1 jz2 (by rfl) (by decide) (.slice (some ⟨w8.heap.size, 0, none⟩) 0 0) 0 [] (by rfl) (OA.out.alloc _) TA tree.length tc (tree.flatMap Nd.cells) (by rfl) NL.out (slN_src (ST8.out.here (bbb : Below w8.heap.size w8 _))) NO.out K1.out K2.out bbb.size ?_; intro A9 c9 w9 hown9 hgrow9; simp only [Nat.zero_add, List.nil_append] at hown9; have b9 := bbb.grown hgrow9 bbb.size rrb; have b9s := HB8.out.trans (b9.mono zz8); have s9 := b9s.size; have q9 := NB.out.grown hgrow9 rb)
        | (refine step_append_sl (by rfl) (.tmp 26) (.tmp 28) 50 (by rfl) w8.heap.size 43 j0 _ 6 24 Tryd.underlying50 hj jz0 jz1 jz2 (by rfl) (by decide) (.slice (some ⟨w8.heap.size + 1, 0, none⟩) 0 0) 0 [] (by rfl) OC.out TA tree.length tc (tree.flatMap Nd.cells) (by rfl) NL.out (slN_src (ST8.out.here (bbc : Below w8.heap.size w8 _))) NO.out K1.out K2.out bbc.size ?_; intro A9 c9 w9 hown9 hgrow9; simp only [Nat.zero_add, List.nil_append] at hown9; have b9 := bbc.grown hgrow9 bbc.size rrc; have b9s := HB8.out.trans (b9.mono zz8); have s9 := b9s.size; have q9 := NC.out.grown hgrow9 rc)
        | (refine step_append_sl (by rfl) (.tmp 29) (.tmp 31) 50 (by rfl) w8.heap.size 43 j0 _ 6 24 Tryd.underlying50 hj jz0 jz1 jz2 (by rfl) (by decide) (.slice A9 tree.length c9) tree.length _ (by first | rfl | (simp only [Nat.zero_add]; rfl)) hown9 _ 1 1 x.cells (by rfl) (by rfl) (src_blk q9 _ rfl 1) X1o.out K3.out K4.out b9.size ?_; intro A10 c10 w10 hown10 hgrow10; have b10 := b9.grown hgrow10 b9.size (fun k hk => (hown9.lt k hk).1); have b10s := HB8.out.trans (b10.mono zz8); have s10 := b10s.size; have x10 := X28.out.here b10; have x10c := x10.cell 6; have x10f := x10.frozen 6)
        | (refine step_append_sl (by rfl) (.tmp 29) (.tmp 31) 50 (by rfl) w8.heap.size 43 j0 _ 6 24 Tryd.underlying50 hj jz0 jz1 jz2 (by rfl) (by decide) (.slice A9 tree.length c9) tree.length _ (by first | rfl | (simp only [Nat.zero_add]; rfl)) (hown9.alloc _) _ 1 1 x.cells (by rfl) (by rfl) (src_new w9 _ _ _ rfl 1 _ (Below.refl _ _)) X1o.out K3.out K4.out (b9.alloc b9.size _).size ?_; intro A10 c10 w10 hown10 hgrow10; have b10 := (b9.alloc b9.size _).grown hgrow10 (b9.alloc b9.size _).size (fun k hk => (hown9.lt k hk).1); have b10s := HB8.out.trans (b10.mono zz8); have s10 := b10s.size; have x10 := X28.out.here b10; have x10c := x10.cell 6; have x10f := x10.frozen 6))
      all_goals
        have z10 : w8.heap.size ≤ w10.heap.size := b10.size
        have b11 : Below w2.heap.size w2 (w10.setCell ⟨w2.heap.size + 1, 6, none⟩ (.slice A10 (tree.length + 1) c10)) := b10s.setCell (by simp) _
        have p11 := P2.out.here b11
        have n11 := Lib.hid (N2.out.here b11)
        have y1 := Lib.hid ((X18.out.here b10).far (p := ⟨w2.heap.size + 1, 6, none⟩) (by simp) (.slice A10 (tree.length + 1) c10))
        have y2 := Lib.hid ((X28.out.here b10).set_ 6 (.slice A10 (tree.length + 1) c10))
        have o11 := own_set (own_here HO8.out b10) (p := ⟨w2.heap.size + 1, 6, none⟩) (own_ne_low (own_here HO8.out b10) (by simp; omega)) (.slice A10 (tree.length + 1) c10)
        have s7 := sli_own (k := .u32) (xs := files ++ [file]) (by simpa using o11)
        have t11 := slN_of_own (xs := tree ++ [x]) (by simpa using own_set hown10 (p := ⟨w2.heap.size + 1, 6, none⟩) (own_ne_low hown10 (by simp; omega)) (.slice A10 (tree.length + 1) c10))
        have s11 := SF2.out.here b11
        have u11 := ST2.out.here b11
        have T11 := Lib.hid t11
        have S11 := Lib.hid s11
        have U11 := Lib.hid u11
        have S7 := Lib.hid s7
        have B11 := Lib.hid (B2.out.trans (b11.mono B2.out.size))
        have pc := p11.cell
        clear p11 o11 t11 s11 u11 s7 x10 x10c x10f hown10 hgrow10 hown9 hgrow9 b11 b10 b10s b9 b9s s9 s10
        generalize w10.setCell ⟨w2.heap.size + 1, 6, none⟩ (.slice A10 (tree.length + 1) c10) = w11 at *
        go_wp2_with fail
        refine (functionLen_any args locals id flag line files tree FA TA _ _ fc tc n0 _ S11.out U11.out rfl rfl (by omega) (by omega) bnd bt a0.1 a0.2 l0.1 l0.2 HN0.out).mono ?_
        rintro e w12 ⟨A12, c12, rfl, hb12⟩
        have Y1 := Lib.hid (y1.out.here hb12)
        have Y2 := Lib.hid (y2.out.here hb12)
        have N12 := Lib.hid (n11.out.here hb12)
        have B12 := Lib.hid (below_from B11.out hb12)
        have S12 := Lib.hid (S11.out.here hb12)
        have U12 := Lib.hid (U11.out.here hb12)
        have T12 := Lib.hid (T11.out.here hb12)
        have S712 := Lib.hid (S7.out.here hb12)
        have b12 : Below w12.heap.size w12 w12.drew := by (repeat' (first | (with_reducible exact Below.refl _ _) | (with_reducible assumption) | (with_reducible refine below_drewN ?_ _) | (with_reducible refine Below.alloc ?_ ?_ _) | (with_reducible refine Below.drew ?_) | (with_reducible refine Below.setCell ?_ ?_ _) | go_size))
        have C1 := Lib.hid (functionLen_any args locals id flag line (files ++ [file]) tree A7 TA (files.length + 1) tree.length c7 tc n1 w12.drew (S712.out.here b12) (U12.out.here b12) (by simp) rfl (by omega) (by omega) (by intro z hz; rcases List.mem_append.1 hz with hz | hz; exact bnd z hz; rw [List.mem_singleton] at hz; subst hz; exact bf) bt a0.1 a0.2 l0.1 l0.2 HN1.out)
        have C2 := Lib.hid (fun (w' : World) (h : Below w12.heap.size w12 w') => functionLen_any args locals id flag line files (tree ++ [x]) FA A10 files.length (tree.length + 1) fc c10 n2 w' (S12.out.here h) (T12.out.here h) rfl (by simp) (by omega) (by omega) bnd (by intro z hz; rcases List.mem_append.1 hz with hz | hz; exact bt z hz; rw [List.mem_singleton] at hz; subst hz; exact bn) a0.1 a0.2 l0.1 l0.2 HN2.out)
        have SM := Lib.hid (fun (w' : World) (h : Below w12.heap.size w12 w') => show w'.cell? ⟨w2.heap.size, 0, none⟩ = some (.int .u32 args) ∧ w'.cell? ⟨w2.heap.size, 1, none⟩ = some (.int .u32 locals) ∧ w'.cell? ⟨w2.heap.size, 2, none⟩ = some (.int .u8 id) ∧ w'.cell? ⟨w2.heap.size, 3, none⟩ = some (.int .u8 flag) ∧ w'.cell? ⟨w2.heap.size, 4, none⟩ = some (.int .i32 line) ∧ w'.cell? ⟨w2.heap.size, 5, none⟩ = some (.slice A7 (files.length + 1) c7) ∧ w'.cell? ⟨w2.heap.size, 6, none⟩ = some (.slice TA tree.length tc) ∧ w'.cell? ⟨w2.heap.size + 1, 0, none⟩ = some (.int .u32 args) ∧ w'.cell? ⟨w2.heap.size + 1, 1, none⟩ = some (.int .u32 locals) ∧ w'.cell? ⟨w2.heap.size + 1, 2, none⟩ = some (.int .u8 id) ∧ w'.cell? ⟨w2.heap.size + 1, 3, none⟩ = some (.int .u8 flag) ∧ w'.cell? ⟨w2.heap.size + 1, 4, none⟩ = some (.int .i32 line) ∧ w'.cell? ⟨w2.heap.size + 1, 5, none⟩ = some (.slice FA files.length fc) ∧ w'.cell? ⟨w2.heap.size + 1, 6, none⟩ = some (.slice A10 (tree.length + 1) c10) ∧ w'.cell? ⟨w.heap.size + 1, 0, none⟩ = some (.int .i32 x.a) ∧ w'.cell? ⟨w.heap.size + 1, 1, none⟩ = some (.int .u32 x.f) ∧ w'.cell? ⟨w.heap.size + 1, 2, none⟩ = some (.int .i32 x.l) ∧ w'.cell? ⟨w.heap.size + 1, 3, none⟩ = some (.int .u32 x.p) ∧ w'.cell? ⟨w.heap.size + 1, 4, none⟩ = some (.int .u32 x.y) ∧ w'.cell? ⟨w.heap.size + 1, 5, none⟩ = some (.int .i32 x.c) from (fun (p : Blk w' (w2.heap.size) 52 (funCells args locals id flag line (.slice A7 (files.length + 1) c7) (.slice TA tree.length tc))) (q : Blk w' (w2.heap.size + 1) 52 (funCells args locals id flag line (.slice FA files.length fc) (.slice A10 (tree.length + 1) c10))) (r : Blk w' (w.heap.size + 1) 43 (nodeCells x.a x.f x.l x.p x.y x.c)) => ⟨p.cell 0, p.cell 1, p.cell 2, p.cell 3, p.cell 4, p.cell 5, p.cell 6, q.cell 0, q.cell 1, q.cell 2, q.cell 3, q.cell 4, q.cell 5, q.cell 6, r.cell 0, r.cell 1, r.cell 2, r.cell 3, r.cell 4, r.cell 5⟩) (Y1.out.here h) (Y2.out.here h) (N12.out.here h))
        clear hb12 pc y1 y2 n11 S11 U11 T11 S7 B11
        go_wp2_with fail
        go_region_held3 (fun w' => w'.cell? ⟨w2.heap.size, 0, none⟩ = some (.int .u32 args) ∧ w'.cell? ⟨w2.heap.size, 1, none⟩ = some (.int .u32 locals) ∧ w'.cell? ⟨w2.heap.size, 2, none⟩ = some (.int .u8 id) ∧ w'.cell? ⟨w2.heap.size, 3, none⟩ = some (.int .u8 flag) ∧ w'.cell? ⟨w2.heap.size, 4, none⟩ = some (.int .i32 line) ∧ w'.cell? ⟨w2.heap.size, 5, none⟩ = some (.slice A7 (files.length + 1) c7) ∧ w'.cell? ⟨w2.heap.size, 6, none⟩ = some (.slice TA tree.length tc) ∧ w'.cell? ⟨w2.heap.size + 1, 0, none⟩ = some (.int .u32 args) ∧ w'.cell? ⟨w2.heap.size + 1, 1, none⟩ = some (.int .u32 locals) ∧ w'.cell? ⟨w2.heap.size + 1, 2, none⟩ = some (.int .u8 id) ∧ w'.cell? ⟨w2.heap.size + 1, 3, none⟩ = some (.int .u8 flag) ∧ w'.cell? ⟨w2.heap.size + 1, 4, none⟩ = some (.int .i32 line) ∧ w'.cell? ⟨w2.heap.size + 1, 5, none⟩ = some (.slice FA files.length fc) ∧ w'.cell? ⟨w2.heap.size + 1, 6, none⟩ = some (.slice A10 (tree.length + 1) c10) ∧ w'.cell? ⟨w.heap.size + 1, 0, none⟩ = some (.int .i32 x.a) ∧ w'.cell? ⟨w.heap.size + 1, 1, none⟩ = some (.int .u32 x.f) ∧ w'.cell? ⟨w.heap.size + 1, 2, none⟩ = some (.int .i32 x.l) ∧ w'.cell? ⟨w.heap.size + 1, 3, none⟩ = some (.int .u32 x.p) ∧ w'.cell? ⟨w.heap.size + 1, 4, none⟩ = some (.int .u32 x.y) ∧ w'.cell? ⟨w.heap.size + 1, 5, none⟩ = some (.int .i32 x.c)) ((refine SM.out _ ?_; first | exact b16 | exact b15 | exact b14 | exact b13 | (repeat' (first | (with_reducible exact Below.refl _ _) | (with_reducible assumption) | (with_reducible refine below_drewN ?_ _) | (with_reducible refine Below.alloc ?_ ?_ _) | (with_reducible refine Below.drew ?_) | (with_reducible refine Below.setCell ?_ ?_ _) | go_size)))) (first
          | (go_at_call 23; refine (inlinedLen_any x bn _).mono ?_; rintro e w15 ⟨A15, c15, rfl, hb15⟩; have b15 : Below w12.heap.size w12 w15 := below_from b14 hb15)
          | (go_at_call 23; refine (inlinedLen_any x bn _).mono ?_; rintro e w15 ⟨A15, c15, rfl, hb15⟩; have b15 : Below w12.heap.size w12 w15 := below_from b13 hb15)
          | (go_at_call 29; (with_reducible refine C1.out.mono ?_); rintro e w13 ⟨A13, c13, rfl, hb13⟩; have b13 : Below w12.heap.size w12 w13 := below_from b12 hb13)
          | (go_at_call 29; (with_reducible refine (C2.out _ b15).mono ?_); rintro e w14 ⟨A14, c14, rfl, hb14⟩; have b14 : Below w12.heap.size w12 w14 := below_from b15 hb14)
          | (go_at_call 29; (with_reducible refine (C2.out _ b13).mono ?_); rintro e w14 ⟨A14, c14, rfl, hb14⟩; have b14 : Below w12.heap.size w12 w14 := below_from b13 hb14))
        all_goals (try go_wp2_with fail)
        all_goals (go_returns; exact ⟨by simp, B12.out.trans (Below.mono (by first | exact b15 | exact b14) B12.out.size)⟩)
    · have x1 : Blk ((w2.alloc (funBox args locals id flag line (.slice FA files.length fc) (.slice TA tree.length tc))).alloc (funBox args locals id flag line (.slice FA files.length fc) (.slice TA tree.length tc))).drew (w2.heap.size + 1) 52 (funCells args locals id flag line (.slice FA files.length fc) (.slice TA tree.length tc)) := Blk.new1 w2 _ _ _
      have x2 : Blk ((w2.alloc (funBox args locals id flag line (.slice FA files.length fc) (.slice TA tree.length tc))).alloc (funBox args locals id flag line (.slice FA files.length fc) (.slice TA tree.length tc))).drew (w2.heap.size) 52 (funCells args locals id flag line (.slice FA files.length fc) (.slice TA tree.length tc)) := (Blk.new w2 _ _).alloc _
      have b5 : Below w2.heap.size w2 ((w2.alloc (funBox args locals id flag line (.slice FA files.length fc) (.slice TA tree.length tc))).alloc (funBox args locals id flag line (.slice FA files.length fc) (.slice TA tree.length tc))).drew := by (repeat' (first | (with_reducible exact Below.refl _ _) | (with_reducible assumption) | (with_reducible refine below_drewN ?_ _) | (with_reducible refine Below.alloc ?_ ?_ _) | (with_reducible refine Below.drew ?_) | (with_reducible refine Below.setCell ?_ ?_ _) | go_size))
      have z5 : ((w2.alloc (funBox args locals id flag line (.slice FA files.length fc) (.slice TA tree.length tc))).alloc (funBox args locals id flag line (.slice FA files.length fc) (.slice TA tree.length tc))).drew.heap.size = w2.heap.size + 2 := by show ((w2.alloc _).alloc _).heap.size = _; simp
      generalize ((w2.alloc (funBox args locals id flag line (.slice FA files.length fc) (.slice TA tree.length tc))).alloc (funBox args locals id flag line (.slice FA files.length fc) (.slice TA tree.length tc))).drew = w5 at *
      have e5 : w2.heap.size + 2 ≤ w5.heap.size := by omega
      have zp5 : w.heap.size < w5.heap.size := by omega
      have X1 := Lib.hid x1
      have X2 := Lib.hid x2
      have HB5 := Lib.hid b5
      have SF5 := Lib.hid (SF2.out.here b5)
      have ST5 := Lib.hid (ST2.out.here b5)
      have pc := (P2.out.here b5).cell 5
      have O5 : w5.heap.size ≤ w5.heap.size := Nat.le_refl _
      have OE := World.ownsRow_made (e := 22) (size := 1) w5 #[] 0 (Nat.le_refl _) (by simp) (by simp)
      have OE5 := Lib.hid OE
      clear x1 x2 b5 z5 OE
      go_wp2_with (first
        | (at_builtin; refine wpList_append_sl rfl (.tmp 18) (.tmp 20) 49 rfl w5.heap.size 22 i0 _ 1 4 Tryd.underlying49 hi hz0 hz1 hz2 rfl (by decide) (.slice (some ⟨w5.heap.size, 0, none⟩) 0 0) 0 [] rfl OE5.out FA files.length fc (files.map (Value.int .u32)) rfl (by simp) (sli_src (SF5.out.here (later_alloc w5 _))) (ints_oneCell _ _) (by unfold maxLen; omega) (by omega) (by simp) ?_; intro A6 c6 w6 hown6 hgrow6; simp only [Nat.zero_add, List.nil_append] at hown6)
        | (at_builtin; refine wpList_append_sl rfl (.tmp 21) (.tmp 23) 49 rfl w5.heap.size 22 i0 _ 1 4 Tryd.underlying49 hi hz0 hz1 hz2 rfl (by decide) (.slice A6 files.length c6) files.length _ rfl (hown6.alloc _) (some ⟨w6.heap.size, 0, none⟩) 1 1 [.int .u32 file] rfl rfl (fun _ => ⟨_, rfl, cell_one_new _ _ _⟩) (by simp [Value.oneCell']) (by unfold maxLen; omega) (by omega) (by have := hgrow6.size; simp at this ⊢; omega) ?_; intro A7 c7 w7 hown7 hgrow7; have x7 := (((X1.out.alloc _).grown hgrow6 (by simp [Value.ownBlock]; omega)).alloc _).grown hgrow7 (own_ne_low hown6 (by omega)); have X7 := Lib.hid x7; have x7c := x7.cell 5; have x7f := x7.frozen 5))
      have x8 := X7.out.set_ 5 (.slice A7 (files.length + 1) c7)
      have y8 := (((X2.out.alloc (.cells #[] 22)).grown hgrow6 (by simp [Value.ownBlock]; omega)).alloc (.cells #[.int .u32 file] 22)).grown hgrow7 (own_ne_low hown6 (by omega))
      have y8s := y8.far (p := ⟨w2.heap.size + 1, 5, none⟩) (by simp) (.slice A7 (files.length + 1) c7)
      have z6 := hgrow6.size
      have z7 := hgrow7.size
      simp only [World.size_alloc] at z6 z7
      have b7 : Below w2.heap.size w2 w7 := (((HB5.out.alloc (by omega) _).grown hgrow6 (by simp; omega) (by simp [Value.ownBlock]; omega)).alloc (by omega) _).grown hgrow7 (by simp; omega) (fun k hk => by have := (hown6.lt k hk).1; omega)
      have b8 := b7.setCell (p := ⟨w2.heap.size + 1, 5, none⟩) (by simp) (.slice A7 (files.length + 1) c7)
      have o8 := own_set hown7 (p := ⟨w2.heap.size + 1, 5, none⟩) (own_ne_low hown7 (by simp; omega)) (.slice A7 (files.length + 1) c7)
      have zz : w5.heap.size ≤ (w7.setCell ⟨w2.heap.size + 1, 5, none⟩ (.slice A7 (files.length + 1) c7)).heap.size := by simp [World.setCell]; omega
      clear x7c x7f X7 pc OE5 hown6 hown7 hgrow6 hgrow7 b7
      generalize w7.setCell ⟨w2.heap.size + 1, 5, none⟩ (.slice A7 (files.length + 1) c7) = w8 at *
      have zz8 : w2.heap.size ≤ w8.heap.size := by omega
      have X18 := Lib.hid x8
      have X28 := Lib.hid y8s
      have HB8 := Lib.hid b8
      have HO8 := Lib.hid o8
      have ST8 := Lib.hid (ST2.out.here b8)
      have oa := (World.ownsRow_made (base := w8.heap.size) (e := 43) (size := 6) w8 #[] 0 (Nat.le_refl _) (by simp) (by simp)).drew
      have oc := (World.ownsRow_made (base := w8.heap.size) (e := 43) (size := 6) (w8.alloc (.cells (nodeCells x.a x.f x.l x.p x.y x.c) 43)) #[] 0 (by simp) (by simp) (by simp)).drew
      rw [World.size_alloc] at oc
      have OA := Lib.hid oa
      have OC := Lib.hid oc
      have bba : Below w8.heap.size w8 (w8.alloc (.cells #[] 43)).drew := by (repeat' (first | (with_reducible exact Below.refl _ _) | (with_reducible assumption) | (with_reducible refine below_drewN ?_ _) | (with_reducible refine Below.alloc ?_ ?_ _) | (with_reducible refine Below.drew ?_) | (with_reducible refine Below.setCell ?_ ?_ _) | go_size))
      have bbb : Below w8.heap.size w8 ((w8.alloc (.cells #[] 43)).alloc (.cells (nodeCells x.a x.f x.l x.p x.y x.c) 43)).drew := by (repeat' (first | (with_reducible exact Below.refl _ _) | (with_reducible assumption) | (with_reducible refine below_drewN ?_ _) | (with_reducible refine Below.alloc ?_ ?_ _) | (with_reducible refine Below.drew ?_) | (with_reducible refine Below.setCell ?_ ?_ _) | go_size))
      have bbc : Below w8.heap.size w8 ((w8.alloc (.cells (nodeCells x.a x.f x.l x.p x.y x.c) 43)).alloc (.cells #[] 43)).drew := by (repeat' (first | (with_reducible exact Below.refl _ _) | (with_reducible assumption) | (with_reducible refine below_drewN ?_ _) | (with_reducible refine Below.alloc ?_ ?_ _) | (with_reducible refine Below.drew ?_) | (with_reducible refine Below.setCell ?_ ?_ _) | go_size))
      have rra : ∀ k, (Value.slice (some ⟨w8.heap.size, 0, none⟩) 0 0).ownBlock = some k → w8.heap.size ≤ k := by simp [Value.ownBlock]
      have rrb := rra
      have rrc : ∀ k, (Value.slice (some ⟨w8.heap.size + 1, 0, none⟩) 0 0).ownBlock = some k → w8.heap.size ≤ k := by simp [Value.ownBlock]
      have nb := (Blk.new1 w8 (.cells #[] 43) 43 (nodeCells x.a x.f x.l x.p x.y x.c)).drew
      have nc := ((Blk.new w8 43 (nodeCells x.a x.f x.l x.p x.y x.c)).alloc (.cells #[] 43)).drew
      have NB := Lib.hid nb
      have NC := Lib.hid nc
      have rb : (Value.slice (some ⟨w8.heap.size, 0, none⟩) 0 0).ownBlock ≠ some (w8.heap.size + 1) := by simp [Value.ownBlock]
      have rc : (Value.slice (some ⟨w8.heap.size + 1, 0, none⟩) 0 0).ownBlock ≠ some w8.heap.size := by simp [Value.ownBlock]
      have NL := Lib.hid (nodes_length tree)
      have NO := Lib.hid (nodes_one tree)
      have K1 := Lib.hid (show 0 + tree.length ≤ maxLen from by unfold maxLen; omega)
      have K2 := Lib.hid (show (0 + tree.length) * 24 ≤ 140737488355328 from by omega)
      have K3 := Lib.hid (show tree.length + 1 ≤ maxLen from by unfold maxLen; omega)
      have K4 := Lib.hid (show (tree.length + 1) * 24 ≤ 140737488355328 from by omega)
      have X1o := Lib.hid (show ∀ u ∈ x.cells, u.oneCell' = true from by simp [Nd.cells, Value.oneCell'])
      clear x8 y8 y8s o8 oa oc nb nc X1 X2
      go_region_held3 (fun w' => w'.cell? ⟨w.heap.size, 6, none⟩ = some (.slice TA tree.length tc) ∧ w'.cell? ⟨w.heap.size + 1, 0, none⟩ = some (.int .i32 x.a) ∧ w'.cell? ⟨w.heap.size + 1, 1, none⟩ = some (.int .u32 x.f) ∧ w'.cell? ⟨w.heap.size + 1, 2, none⟩ = some (.int .i32 x.l) ∧ w'.cell? ⟨w.heap.size + 1, 3, none⟩ = some (.int .u32 x.p) ∧ w'.cell? ⟨w.heap.size + 1, 4, none⟩ = some (.int .u32 x.y) ∧ w'.cell? ⟨w.heap.size + 1, 5, none⟩ = some (.int .i32 x.c)) ((refine SL.out _ ?_; (repeat' (first | (with_reducible exact Below.refl _ _) | (with_reducible assumption) | (with_reducible refine below_drewN ?_ _) | (with_reducible refine Below.alloc ?_ ?_ _) | (with_reducible refine Below.drew ?_) | (with_reducible refine Below.setCell ?_ ?_ _) | go_size)))) (first
        | (refine step_append_sl (by rfl) (.tmp 26) (.tmp 28) 50 (by rfl) w8.heap.size 43 j0 _ 6 24 Tryd.underlying50 hj jz0 jz1 jz2 (by rfl) (by decide) (.slice (some ⟨w8.heap.size, 0, none⟩) 0 0) 0 [] (by rfl) OA.out TA tree.length tc (tree.flatMap Nd.cells) (by rfl) NL.out (slN_src (ST8.out.here (bba : Below w8.heap.size w8 _))) NO.out K1.out K2.out bba.size ?_; intro A9 c9 w9 hown9 hgrow9; simp only [Nat.zero_add, List.nil_append] at hown9; have b9 := bba.grown hgrow9 bba.size rra; have b9s := HB8.out.trans (b9.mono zz8); have s9 := b9s.size; have tok1 : True := trivial)
        | (refine step_append_sl (by rfl) (.tmp 26) (.tmp 28) 50 (by rfl) w8.heap.size 43 j0 _ 6 24 Tryd.underlying50 hj jz0 jz1 jz2 (by rfl) (by decide) (.slice (some ⟨w8.heap.size, 0, none⟩) 0 0) 0 [] (by rfl) (OA.out.alloc _) TA tree.length tc (tree.flatMap Nd.cells) (by rfl) NL.out (slN_src (ST8.out.here (bbb : Below w8.heap.size w8 _))) NO.out K1.out K2.out bbb.size ?_; intro A9 c9 w9 hown9 hgrow9; simp only [Nat.zero_add, List.nil_append] at hown9; have b9 := bbb.grown hgrow9 bbb.size rrb; have b9s := HB8.out.trans (b9.mono zz8); have s9 := b9s.size; have q9 := NB.out.grown hgrow9 rb)
        | (refine step_append_sl (by rfl) (.tmp 26) (.tmp 28) 50 (by rfl) w8.heap.size 43 j0 _ 6 24 Tryd.underlying50 hj jz0 jz1 jz2 (by rfl) (by decide) (.slice (some ⟨w8.heap.size + 1, 0, none⟩) 0 0) 0 [] (by rfl) OC.out TA tree.length tc (tree.flatMap Nd.cells) (by rfl) NL.out (slN_src (ST8.out.here (bbc : Below w8.heap.size w8 _))) NO.out K1.out K2.out bbc.size ?_; intro A9 c9 w9 hown9 hgrow9; simp only [Nat.zero_add, List.nil_append] at hown9; have b9 := bbc.grown hgrow9 bbc.size rrc; have b9s := HB8.out.trans (b9.mono zz8); have s9 := b9s.size; have q9 := NC.out.grown hgrow9 rc)
        | (refine step_append_sl (by rfl) (.tmp 29) (.tmp 31) 50 (by rfl) w8.heap.size 43 j0 _ 6 24 Tryd.underlying50 hj jz0 jz1 jz2 (by rfl) (by decide) (.slice A9 tree.length c9) tree.length _ (by first | rfl | (simp only [Nat.zero_add]; rfl)) hown9 _ 1 1 x.cells (by rfl) (by rfl) (src_blk q9 _ rfl 1) X1o.out K3.out K4.out b9.size ?_; intro A10 c10 w10 hown10 hgrow10; have b10 := b9.grown hgrow10 b9.size (fun k hk => (hown9.lt k hk).1); have b10s := HB8.out.trans (b10.mono zz8); have s10 := b10s.size; have x10 := X28.out.here b10; have x10c := x10.cell 6; have x10f := x10.frozen 6)
        | (refine step_append_sl (by rfl) (.tmp 29) (.tmp 31) 50 (by rfl) w8.heap.size 43 j0 _ 6 24 Tryd.underlying50 hj jz0 jz1 jz2 (by rfl) (by decide) (.slice A9 tree.length c9) tree.length _ (by first | rfl | (simp only [Nat.zero_add]; rfl)) (hown9.alloc _) _ 1 1 x.cells (by rfl) (by rfl) (src_new w9 _ _ _ rfl 1 _ (Below.refl _ _)) X1o.out K3.out K4.out (b9.alloc b9.size _).size ?_; intro A10 c10 w10 hown10 hgrow10; have b10 := (b9.alloc b9.size _).grown hgrow10 (b9.alloc b9.size _).size (fun k hk => (hown9.lt k hk).1); have b10s := HB8.out.trans (b10.mono zz8); have s10 := b10s.size; have x10 := X28.out.here b10; have x10c := x10.cell 6; have x10f := x10.frozen 6))
      all_goals
        have z10 : w8.heap.size ≤ w10.heap.size := b10.size
        have b11 : Below w2.heap.size w2 (w10.setCell ⟨w2.heap.size, 6, none⟩ (.slice A10 (tree.length + 1) c10)) := b10s.setCell (by simp) _
        have p11 := P2.out.here b11
        have n11 := Lib.hid (N2.out.here b11)
        have y1 := Lib.hid ((X18.out.here b10).far (p := ⟨w2.heap.size, 6, none⟩) (by simp) (.slice A10 (tree.length + 1) c10))
        have y2 := Lib.hid ((X28.out.here b10).set_ 6 (.slice A10 (tree.length + 1) c10))
        have o11 := own_set (own_here HO8.out b10) (p := ⟨w2.heap.size, 6, none⟩) (own_ne_low (own_here HO8.out b10) (by simp; omega)) (.slice A10 (tree.length + 1) c10)
        have s7 := sli_own (k := .u32) (xs := files ++ [file]) (by simpa using o11)
        have t11 := slN_of_own (xs := tree ++ [x]) (by simpa using own_set hown10 (p := ⟨w2.heap.size, 6, none⟩) (own_ne_low hown10 (by simp; omega)) (.slice A10 (tree.length + 1) c10))
        have s11 := SF2.out.here b11
        have u11 := ST2.out.here b11
        have T11 := Lib.hid t11
        have S11 := Lib.hid s11
        have U11 := Lib.hid u11
        have S7 := Lib.hid s7
        have B11 := Lib.hid (B2.out.trans (b11.mono B2.out.size))
        have pc := p11.cell
        clear p11 o11 t11 s11 u11 s7 x10 x10c x10f hown10 hgrow10 hown9 hgrow9 b11 b10 b10s b9 b9s s9 s10
        generalize w10.setCell ⟨w2.heap.size, 6, none⟩ (.slice A10 (tree.length + 1) c10) = w11 at *
        go_wp2_with fail
        refine (functionLen_any args locals id flag line files tree FA TA _ _ fc tc n0 _ S11.out U11.out rfl rfl (by omega) (by omega) bnd bt a0.1 a0.2 l0.1 l0.2 HN0.out).mono ?_
        rintro e w12 ⟨A12, c12, rfl, hb12⟩
        have Y1 := Lib.hid (y1.out.here hb12)
        have Y2 := Lib.hid (y2.out.here hb12)
        have N12 := Lib.hid (n11.out.here hb12)
        have B12 := Lib.hid (below_from B11.out hb12)
        have S12 := Lib.hid (S11.out.here hb12)
        have U12 := Lib.hid (U11.out.here hb12)
        have T12 := Lib.hid (T11.out.here hb12)
        have S712 := Lib.hid (S7.out.here hb12)
        have b12 : Below w12.heap.size w12 w12.drew := by (repeat' (first | (with_reducible exact Below.refl _ _) | (with_reducible assumption) | (with_reducible refine below_drewN ?_ _) | (with_reducible refine Below.alloc ?_ ?_ _) | (with_reducible refine Below.drew ?_) | (with_reducible refine Below.setCell ?_ ?_ _) | go_size))
        have C1 := Lib.hid (functionLen_any args locals id flag line (files ++ [file]) tree A7 TA (files.length + 1) tree.length c7 tc n1 w12.drew (S712.out.here b12) (U12.out.here b12) (by simp) rfl (by omega) (by omega) (by intro z hz; rcases List.mem_append.1 hz with hz | hz; exact bnd z hz; rw [List.mem_singleton] at hz; subst hz; exact bf) bt a0.1 a0.2 l0.1 l0.2 HN1.out)
        have C2 := Lib.hid (fun (w' : World) (h : Below w12.heap.size w12 w') => functionLen_any args locals id flag line files (tree ++ [x]) FA A10 files.length (tree.length + 1) fc c10 n2 w' (S12.out.here h) (T12.out.here h) rfl (by simp) (by omega) (by omega) bnd (by intro z hz; rcases List.mem_append.1 hz with hz | hz; exact bt z hz; rw [List.mem_singleton] at hz; subst hz; exact bn) a0.1 a0.2 l0.1 l0.2 HN2.out)
        have SM := Lib.hid (fun (w' : World) (h : Below w12.heap.size w12 w') => show w'.cell? ⟨w2.heap.size + 1, 0, none⟩ = some (.int .u32 args) ∧ w'.cell? ⟨w2.heap.size + 1, 1, none⟩ = some (.int .u32 locals) ∧ w'.cell? ⟨w2.heap.size + 1, 2, none⟩ = some (.int .u8 id) ∧ w'.cell? ⟨w2.heap.size + 1, 3, none⟩ = some (.int .u8 flag) ∧ w'.cell? ⟨w2.heap.size + 1, 4, none⟩ = some (.int .i32 line) ∧ w'.cell? ⟨w2.heap.size + 1, 5, none⟩ = some (.slice A7 (files.length + 1) c7) ∧ w'.cell? ⟨w2.heap.size + 1, 6, none⟩ = some (.slice TA tree.length tc) ∧ w'.cell? ⟨w2.heap.size, 0, none⟩ = some (.int .u32 args) ∧ w'.cell? ⟨w2.heap.size, 1, none⟩ = some (.int .u32 locals) ∧ w'.cell? ⟨w2.heap.size, 2, none⟩ = some (.int .u8 id) ∧ w'.cell? ⟨w2.heap.size, 3, none⟩ = some (.int .u8 flag) ∧ w'.cell? ⟨w2.heap.size, 4, none⟩ = some (.int .i32 line) ∧ w'.cell? ⟨w2.heap.size, 5, none⟩ = some (.slice FA files.length fc) ∧ w'.cell? ⟨w2.heap.size, 6, none⟩ = some (.slice A10 (tree.length + 1) c10) ∧ w'.cell? ⟨w.heap.size + 1, 0, none⟩ = some (.int .i32 x.a) ∧ w'.cell? ⟨w.heap.size + 1, 1, none⟩ = some (.int .u32 x.f) ∧ w'.cell? ⟨w.heap.size + 1, 2, none⟩ = some (.int .i32 x.l) ∧ w'.cell? ⟨w.heap.size + 1, 3, none⟩ = some (.int .u32 x.p) ∧ w'.cell? ⟨w.heap.size + 1, 4, none⟩ = some (.int .u32 x.y) ∧ w'.cell? ⟨w.heap.size + 1, 5, none⟩ = some (.int .i32 x.c) from (fun (p : Blk w' (w2.heap.size + 1) 52 (funCells args locals id flag line (.slice A7 (files.length + 1) c7) (.slice TA tree.length tc))) (q : Blk w' (w2.heap.size) 52 (funCells args locals id flag line (.slice FA files.length fc) (.slice A10 (tree.length + 1) c10))) (r : Blk w' (w.heap.size + 1) 43 (nodeCells x.a x.f x.l x.p x.y x.c)) => ⟨p.cell 0, p.cell 1, p.cell 2, p.cell 3, p.cell 4, p.cell 5, p.cell 6, q.cell 0, q.cell 1, q.cell 2, q.cell 3, q.cell 4, q.cell 5, q.cell 6, r.cell 0, r.cell 1, r.cell 2, r.cell 3, r.cell 4, r.cell 5⟩) (Y1.out.here h) (Y2.out.here h) (N12.out.here h))
        clear hb12 pc y1 y2 n11 S11 U11 T11 S7 B11
        go_wp2_with fail
        go_region_held3 (fun w' => w'.cell? ⟨w2.heap.size + 1, 0, none⟩ = some (.int .u32 args) ∧ w'.cell? ⟨w2.heap.size + 1, 1, none⟩ = some (.int .u32 locals) ∧ w'.cell? ⟨w2.heap.size + 1, 2, none⟩ = some (.int .u8 id) ∧ w'.cell? ⟨w2.heap.size + 1, 3, none⟩ = some (.int .u8 flag) ∧ w'.cell? ⟨w2.heap.size + 1, 4, none⟩ = some (.int .i32 line) ∧ w'.cell? ⟨w2.heap.size + 1, 5, none⟩ = some (.slice A7 (files.length + 1) c7) ∧ w'.cell? ⟨w2.heap.size + 1, 6, none⟩ = some (.slice TA tree.length tc) ∧ w'.cell? ⟨w2.heap.size, 0, none⟩ = some (.int .u32 args) ∧ w'.cell? ⟨w2.heap.size, 1, none⟩ = some (.int .u32 locals) ∧ w'.cell? ⟨w2.heap.size, 2, none⟩ = some (.int .u8 id) ∧ w'.cell? ⟨w2.heap.size, 3, none⟩ = some (.int .u8 flag) ∧ w'.cell? ⟨w2.heap.size, 4, none⟩ = some (.int .i32 line) ∧ w'.cell? ⟨w2.heap.size, 5, none⟩ = some (.slice FA files.length fc) ∧ w'.cell? ⟨w2.heap.size, 6, none⟩ = some (.slice A10 (tree.length + 1) c10) ∧ w'.cell? ⟨w.heap.size + 1, 0, none⟩ = some (.int .i32 x.a) ∧ w'.cell? ⟨w.heap.size + 1, 1, none⟩ = some (.int .u32 x.f) ∧ w'.cell? ⟨w.heap.size + 1, 2, none⟩ = some (.int .i32 x.l) ∧ w'.cell? ⟨w.heap.size + 1, 3, none⟩ = some (.int .u32 x.p) ∧ w'.cell? ⟨w.heap.size + 1, 4, none⟩ = some (.int .u32 x.y) ∧ w'.cell? ⟨w.heap.size + 1, 5, none⟩ = some (.int .i32 x.c)) ((refine SM.out _ ?_; first | exact b16 | exact b15 | exact b14 | exact b13 | (repeat' (first | (with_reducible exact Below.refl _ _) | (with_reducible assumption) | (with_reducible refine below_drewN ?_ _) | (with_reducible refine Below.alloc ?_ ?_ _) | (with_reducible refine Below.drew ?_) | (with_reducible refine Below.setCell ?_ ?_ _) | go_size)))) (first
          | (go_at_call 23; refine (inlinedLen_any x bn _).mono ?_; rintro e w15 ⟨A15, c15, rfl, hb15⟩; have b15 : Below w12.heap.size w12 w15 := below_from b14 hb15)
          | (go_at_call 23; refine (inlinedLen_any x bn _).mono ?_; rintro e w15 ⟨A15, c15, rfl, hb15⟩; have b15 : Below w12.heap.size w12 w15 := below_from b13 hb15)
          | (go_at_call 29; (with_reducible refine C1.out.mono ?_); rintro e w13 ⟨A13, c13, rfl, hb13⟩; have b13 : Below w12.heap.size w12 w13 := below_from b12 hb13)
          | (go_at_call 29; (with_reducible refine (C2.out _ b15).mono ?_); rintro e w14 ⟨A14, c14, rfl, hb14⟩; have b14 : Below w12.heap.size w12 w14 := below_from b15 hb14)
          | (go_at_call 29; (with_reducible refine (C2.out _ b13).mono ?_); rintro e w14 ⟨A14, c14, rfl, hb14⟩; have b14 : Below w12.heap.size w12 w14 := below_from b13 hb14))
        all_goals (try go_wp2_with fail)
        all_goals (go_returns; exact ⟨by simp, B12.out.trans (Below.mono (by first | exact b15 | exact b14) B12.out.size)⟩)
  · have HP := Lib.hid P0
    have HB := Lib.hid hbw
    clear sf st P0 N0 hbw
    unfold funVal nodeVal
    go_enter Tryd.func7, Tryd.ntmps7
    go_wp2_with fail
    refine (zz15_any args locals id flag line FA TA _ _ fc tc _).mono ?_
    rintro e w1 ⟨b, rfl, hb1⟩
    have p1 := HP.out.here hb1
    have P1 := Lib.hid p1
    have B1 := Lib.hid (below_from HB.out hb1)
    have pc := p1.cell
    clear p1 hb1 HP HB
    cases b
    · go_wp2_with fail
      go_returns
      exact ⟨rfl, B1.out⟩
    · go_wp2_with fail
      refine (functionOk_no args locals id flag line FA TA _ _ fc tc _ hn).mono ?_
      rintro e w2 ⟨rfl, hb2⟩
      have B2 := Lib.hid (below_from B1.out hb2)
      clear pc
      go_wp2_with fail
      go_returns
      exact ⟨rfl, B2.out⟩
end Go.Proofs.YtnbojmciolecgaaDoor
