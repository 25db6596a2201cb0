/- Laws on packages: elements without strings and references. (printed by gen_pl.py) -/
import Derived.BigRegion
import Derived.Test.YtedjadicdodahaaGreatDoorQPh
import Derived.Test.YtedjadicdodahaaGreatDoorQPa
import Derived.Test.YtedjadicdodahaaGreatDoorPs
import Derived.Test.YtedjadicdodahaaGreatDoorQDe
import Derived.Test.YtedjadicdodahaaGreatDoorPp
import Derived.Test.YtedjadicdodahaaGreatDoorRg
namespace Go.Proofs.YtedjadicdodahaaGreatDoor
open Go.RowKit Go.Maps

theorem packT {K : List Int} {v : Int} {s : Bool} {l : List El} (hP : PackP v s l) (h1 : 1 ≤ ((Pk.all s l).elems 10).length) : PkT (packS K v.toNat s l) v.toNat s (Pk.all s l) (fpL K (q3 v.toNat s (Pk.all s l) ((Pk.all s l).elems 10))) := by
  have hv := hP.ver
  have hz := pack_size s l hP.len hP.ok
  exact ⟨rfl, fpL_len _ _, by omega, fun h => by have := hP.syn h; omega, h1, hz.1, hz.2⟩
theorem elems_pos (p : Pk) (k i : Nat) (hk : k < 10) (hi : i < (p k).length) : 1 ≤ (p.elems 10).length := by
  have := p.elems_le k i hk hi
  omega
theorem packS_pos3 (K : List Int) (v : Nat) (s : Bool) (l : List El) : 1 ≤ (packS K v s l).size := by
  unfold packS
  rw [str_size, List.length_append, fpL_len]
  omega
theorem Gl.gv {K : List Int} {w : World} (h : Gl K w) : Gv w := ⟨h.i, h.r⟩
theorem idxs_at3 (s : Bool) (l : List El) (hok : ∀ x ∈ l, x.Ok) (i : Nat) (h : i < l.length) : (idxs s l)[i]? = some (cntI (l.take i) l[i].sec) := by
  have hx := (hok l[i] (List.getElem_mem h)).sec
  unfold idxs
  rw [List.getElem?_map, List.getElem?_range h, Option.map_some, List.getElem?_eq_getElem h, Option.map_some, Option.getD_some, all_cnt s (l.take i) l[i].sec.toNat (by omega) (fun x hx => hok x (List.mem_of_mem_take hx))]
  unfold cntI
  rw [if_neg (by omega), show ((l[i].sec.toNat : Nat) : Int) = l[i].sec from by omega]
/-- Where an element stands: its index is how many there were. -/
theorem abs_at (s : Bool) (l : List El) (hok : ∀ x ∈ l, x.Ok) (i : Nat) (h : i < l.length) : (Pk.all s (l.take i) l[i].sec.toNat).length < (Pk.all s l l[i].sec.toNat).length ∧ (Pk.all s l l[i].sec.toNat)[(Pk.all s (l.take i) l[i].sec.toNat).length]? = some (str ((l[i].es s (Pk.all s (l.take i))).bytes s)) ∧ cntI (l.take i) l[i].sec = ((Pk.all s (l.take i) l[i].sec.toNat).length : Nat) := by
  have hx := (hok l[i] (List.getElem_mem h)).sec
  have h1 := (Pk.all_at s l i h (hok l[i] (List.getElem_mem h))).1
  refine ⟨(List.getElem?_eq_some_iff.1 h1).1, h1, ?_⟩
  rw [all_cnt s (l.take i) l[i].sec.toNat (by omega) (fun x hx => hok x (List.mem_of_mem_take hx))]
  unfold cntI
  rw [if_neg (by omega), show ((l[i].sec.toNat : Nat) : Int) = l[i].sec from by omega]
theorem cnt_all (s : Bool) (l : List El) (hok : ∀ x ∈ l, x.Ok) (j : Nat) : cntI l j = ((Pk.all s l j).length : Nat) := by
  unfold cntI
  by_cases h : j = 0
  · rw [if_pos (by omega), h, all_ss]
  · rw [if_neg (by omega), all_cnt s l j h hok]
theorem below_al {w w' : World} {X : Obj} (h : Below (w.alloc X).heap.size (w.alloc X) w') : Below w.heap.size w w' := below_from (Below.alloc (Below.refl _ _) (Nat.le_refl _) X) h
abbrev zPk : Array Value := #[.string ⟨#[]⟩, .slice none 0 0, .slice none 0 0, .int .u8 0, .int .u8 0, .int .u8 0, .int .u8 0, .int .u8 0, .int .u8 0, .int .u8 0, .int .u8 0]
/-- A package that was written. -/
def Pw.pk (D : ByteArray) (n : Nat) (ix : List Int) : Pw := ⟨fun v w => ∃ (Ai : Option Addr) (ci : Nat) (At : Option Addr) (nt ct : Nat) (z0 z1 z2 z3 z4 z5 z6 z7 : Int), v = .agg #[.string D, .slice Ai n ci, .slice At nt ct, .int .u8 z0, .int .u8 z1, .int .u8 z2, .int .u8 z3, .int .u8 z4, .int .u8 z5, .int .u8 z6, .int .u8 z7] ∧ n ≤ ci ∧ SlV w Ai (ix.map (Value.int .i64)), fun _ _ _ hb ⟨Ai, ci, At, nt, ct, z0, z1, z2, z3, z4, z5, z6, z7, h1, h2, h3⟩ => ⟨Ai, ci, At, nt, ct, z0, z1, z2, z3, z4, z5, z6, z7, h1, h2, h3.here hb⟩⟩
def pairs (i j : Nat) (u v : Value) : Prop := i = 9 → j = 10 → u ≠ v
theorem pairs_no {i j : Nat} {u v : Value} (h9 : i ≠ 9) (h10 : i ≠ 10) : pairs i j u v ∧ pairs j i v u := ⟨fun e => absurd e h9, fun _ e => absurd e h10⟩
set_option maxRecDepth 100000 in
set_option maxHeartbeats 4000000 in
theorem fnPackAlone_any {H : Type} {enc : TypeId × Value → H} (v : Int) (s : Bool) (A : Option Addr) (n c : Nat) (at_ : Int) (w : World) (hv : -9223372036854775808 ≤ v ∧ v < 9223372036854775808) (f : Rd enc Tryz.prog w 27 [.slice A n c]) (hat : -9223372036854775808 ≤ at_ ∧ at_ < 9223372036854775808) (hG : ∃ K, Gl K w) :
    Calls Tryz.prog 7 #[.int .i64 v, .bool s, .slice A n c, .int .i64 at_] w (LawEnd w) := by
  obtain ⟨K, hK⟩ := hG
  obtain ⟨⟨_, _, l⟩, rfl, rfl, rfl, hL, hc⟩ := Rd.elsC f
  replace hc : l.length ≤ c := hc
  have hm : l.length ≤ maxLen := hL.len
  unfold maxLen at hm
  show Calls Tryz.prog 7 #[.int .i64 v, .bool s, .slice A l.length c, .int .i64 at_] w (LawEnd w)
  have n0 : (0 : Int) ≤ l.length := by omega
  have n1 : (l.length : Int) ≤ 9223372036854775807 := by omega
  have n2 : (l.length : Int) ≤ c := by omega
  have Z1 := Lib.hid (zz1_any ⟨A, c, l⟩ w hL)
  have PO := Lib.hid (fun (W : World) (hb : Below w.heap.size w W) => packOk_any v s ⟨A, c, l⟩ W (hL.here hb))
  have PA := Lib.hid (fun (W : World) (hb : Below w.heap.size w W) (hp : PackP v s l) => show Calls Tryz.prog 12 #[.int .i64 v, .bool s, .slice A l.length c] W (PackOut K v.toNat s l W) from by
    have h1 := hp.ver
    obtain ⟨vn, rfl⟩ : ∃ vn : Nat, v = vn := ⟨v.toNat, by omega⟩
    exact pack_any vn s ⟨A, c, l⟩ W (hK.here hb) (hL.here hb) hp.ok hp.len (by omega))
  have HL := Lib.hid hL
  have HK := Lib.hid hK
  have v0 := hv.1
  have v1 := hv.2
  have t0 := hat.1
  have t1 := hat.2
  clear hat
  clear f hL hK hm hv
  go_enter Tryz.func7, Tryz.ntmps7
  go_wp2_with fail
  refine Z1.out.mono ?_
  rintro e w1 ⟨b1, rfl, _, hb1⟩
  have B1 := Lib.hid hb1
  clear hb1 Z1
  rcases b1 with _ | _
  · go_wp2_with fail
    go_returns
    exact ⟨rfl, B1.out⟩
  go_wp2_with fail
  refine (PO.out w1 B1.out).mono ?_
  rintro e w2 ⟨b2, rfl, hp2, hb2⟩
  have B2 := Lib.hid (below_from B1.out hb2)
  clear hb2 PO B1
  rcases b2 with _ | _
  · go_wp2_with fail
    go_returns
    exact ⟨rfl, B2.out⟩
  have PP := Lib.hid (hp2 rfl)
  clear hp2
  by_cases a0 : at_ < 0
  · go_wp2_with fail
    go_returns
    exact ⟨rfl, B2.out⟩
  by_cases a1 : (l.length : Int) ≤ at_
  · go_wp2_with fail
    go_returns
    exact ⟨rfl, B2.out⟩
  obtain ⟨i, rfl⟩ : ∃ i : Nat, at_ = i := ⟨at_.toNat, by omega⟩
  have hlt : i < l.length := by omega
  have i0 : (0 : Int) ≤ i := by omega
  have i1 : (i : Int) < l.length := by omega
  obtain ⟨g, o, rfl, hcl⟩ := SlR.at_ (HL.out.here B2.out).l i hlt
  have q0 := hcl 0 _ rfl
  have q1 := hcl 1 _ rfl
  have q2 := hcl 2 _ rfl
  rw [Nat.add_zero] at q0
  have IN := Lib.hid (HL.out.sub l[i] (List.getElem_mem hlt))
  have OK := Lib.hid (PP.out.ok l[i] (List.getElem_mem hlt))
  have AA := Lib.hid (abs_at s l PP.out.ok i hlt)
  have ATI := Lib.hid (idxs_at3 s l PP.out.ok i hlt)
  obtain ⟨x, hx⟩ : ∃ x, x = l[i] := ⟨_, rfl⟩
  rw [← hx] at q0 q1 q2 IN OK AA ATI
  have hz0 : ((i : Int) < 0) = False := by simp
  have hz1 : (l.length ≤ i) = False := by simp; omega
  clear hcl hx hlt a0 a1 t0 t1
  obtain ⟨sec, mark, ⟨BA, bc, bl⟩⟩ := x
  have PB := Lib.hid (plainBits_any ⟨sec, mark, ⟨BA, bc, bl⟩⟩ w2 (IN.out.here B2.out))
  go_wp2_with fail
  refine PB.out.mono ?_
  rintro e w3 ⟨b3, rfl, hp3, hb3⟩
  have B3 := Lib.hid (below_from B2.out hb3)
  replace q0 := keep_cell hb3 q0
  replace q1 := keep_cell hb3 q1
  replace q2 := keep_cell hb3 q2
  rcases b3 with _ | _
  · clear hp3 hb3
    go_wp2_with fail
    go_returns
    exact ⟨rfl, B3.out⟩
  have PL := Lib.hid (show ∀ b ∈ bl, b.Plain from hp3 rfl)
  clear hp3 hb3 PB
  obtain ⟨w4, hw4⟩ : ∃ w4, w4 = w3.alloc (.cells #[.int .i64 sec, .int .i64 mark, .slice BA bl.length bc] 24) := ⟨_, rfl⟩
  have b4 : Below w3.heap.size w3 w4 := by rw [hw4]; exact Below.alloc (Below.refl _ _) (Nat.le_refl _) _
  have KE := Lib.hid (show Blk w4 w3.heap.size 24 #[.int .i64 sec, .int .i64 mark, .slice BA bl.length bc] from by rw [hw4]; exact Blk.new _ _ _)
  have B4 := Lib.hid (below_from B3.out b4)
  have HW4 := Lib.hid hw4
  have PO1 := Lib.hid (fun (W : World) (b : Nat) (T : TypeId) (hb : Below w.heap.size w W) (hk : Blk W b T #[.int .i64 sec, .int .i64 mark, .slice BA bl.length bc]) => show Calls Tryz.prog 12 #[.int .i64 v, .bool s, .slice (some ⟨b, 0, none⟩) 1 1] W (PackOut K v.toNat s [⟨sec, mark, ⟨BA, bc, bl⟩⟩] W) from by
    have h1 := PP.out.ver
    obtain ⟨vn, rfl⟩ : ∃ vn : Nat, v = vn := ⟨v.toNat, by omega⟩
    exact pack_any vn s ⟨some ⟨b, 0, none⟩, 1, [⟨sec, mark, ⟨BA, bc, bl⟩⟩]⟩ W (HK.out.here hb) (els_one hk (IN.out.here hb)) (fun y hy => by rw [List.mem_singleton.1 hy]; exact OK.out) (by show 1 ≤ 60; omega) (by omega))
  clear b4 hw4
  go_upto_region 6 with fail
  rw [← HW4.out]
  have SZE : (Tryz.prog.info? 24).map (·.size) = some 3 := by kernel_rfl
  clear q0 q1 q2
  refine region_pwt (by kernel_rfl) 11 (by decide) [.is (.int .i64 v), .is (.bool s), .is (.slice (some ⟨g, o, none⟩) l.length c), .pk (packS K v.toNat s l) l.length (idxs s l), .is (.int .i64 v), .is (.bool s), .is (.agg #[.int .i64 sec, .int .i64 mark, .slice BA bl.length bc]), .one #[.int .i64 sec, .int .i64 mark, .slice BA bl.length bc], .pk (packS K v.toNat s [⟨sec, mark, ⟨BA, bc, bl⟩⟩]) 1 (idxs s [⟨sec, mark, ⟨BA, bc, bl⟩⟩]), .blk w4.heap.size 32 zPk, .blk w4.heap.size 32 zPk] pairs [42, 43, 44, 45, 46, 47, 48, 49, 50, 10, 11, 1000, 1001] (by kernel_rfl) (waits_of (by kernel_rfl)) ?_ ?_
  · refine Steps.cons ?_ (Steps.cons ?_ (Steps.cons ?_ (Steps.cons ?_ (Steps.cons ?_ (Steps.cons ?_ (Steps.cons ?_ (Steps.cons ?_ (Steps.cons ?_ (Steps.cons ?_ (Steps.cons ?_ Steps.nil))))))))))
    all_goals (intro f_ W hW hd K hK; rw [if_pos (by rfl)]; simp only [over, List.foldl_cons, List.foldl_nil, List.setIfInBounds_toArray, List.set_cons_zero, List.set_cons_succ, Act.put] at hK ⊢; simp only [Deps, List.filter, Region.binds, pws, Pw.is, Pw.pk, Pw.one, Pw.blk, List.getD_cons_zero, List.getD_cons_succ, List.getElem?_cons_zero, List.getElem?_cons_succ, Option.getD_some] at hd)
    · clear hd
      go_simp
      exact hK _ _ rfl (later_refl _) (fun _ _ _ => pairs_no (by decide) (by decide))
    · clear hd
      go_simp
      exact hK _ _ rfl (later_refl _) (fun _ _ _ => pairs_no (by decide) (by decide))
    · clear hd
      go_simp
      exact hK _ _ rfl (later_refl _) (fun _ _ _ => pairs_no (by decide) (by decide))
    · obtain ⟨h0, h1, h2, _⟩ := hd
      rw [h0, h1, h2] at hK ⊢
      go_simp
      go_at_call 12
      refine (PA.out W (below_from B4.out.drew hW) PP.out).mono ?_
      rintro e5 w5 ⟨Ai, ci, At, ct, z0, z1, z2, z3, z4, z5, z6, z7, rfl, hF, hci, hct, si, st, hb5⟩
      exact hK _ _ ⟨Ai, ci, At, _, ct, z0, z1, z2, z3, z4, z5, z6, z7, rfl, hci, si⟩ hb5 (fun _ _ _ => pairs_no (by decide) (by decide))
    · clear hd
      go_simp
      exact hK _ _ rfl (later_refl _) (fun _ _ _ => pairs_no (by decide) (by decide))
    · clear hd
      go_simp
      exact hK _ _ rfl (later_refl _) (fun _ _ _ => pairs_no (by decide) (by decide))
    · clear hd
      refine wp_load_row 24 (.tmp 9) rfl w3.heap.size rfl 24 _ (0, 0) _ (KE.out.drew.here hW) Tryz.underlying24 rfl SZE ?_
      exact hK _ _ rfl (later_refl _) (fun _ _ _ => pairs_no (by decide) (by decide))
    · obtain ⟨h0, _⟩ := hd
      rw [h0] at hK ⊢
      go_simp
      exact hK _ _ ⟨W.heap.size, _, rfl, Blk.new _ _ _⟩ (Below.alloc (Below.refl _ _) (Nat.le_refl _) _) (fun _ _ _ => pairs_no (by decide) (by decide))
    · obtain ⟨h0, h1, ⟨b, T, h2, hk⟩, _⟩ := hd
      rw [h0, h1, h2] at hK ⊢
      go_simp
      go_at_call 12
      refine (PO1.out W b T (below_from B4.out.drew hW) hk).mono ?_
      rintro e6 w6 ⟨Ai, ci, At, ct, z0, z1, z2, z3, z4, z5, z6, z7, rfl, hF, hci, hct, si, st, hb6⟩
      exact hK _ _ ⟨Ai, ci, At, _, ct, z0, z1, z2, z3, z4, z5, z6, z7, rfl, hci, si⟩ hb6 (fun _ _ _ => pairs_no (by decide) (by decide))
    · clear hd
      go_simp
      refine hK _ _ ⟨W.heap.size, rfl, hW.size, Blk.new _ _ _⟩ (Below.alloc (Below.refl _ _) (Nat.le_refl _) _) (fun j u hu => ⟨fun _ e => ?_, fun _ e => absurd e (by decide)⟩)
      subst e
      obtain ⟨b', rfl, _, hb'⟩ := hu
      have h9 := hb'.lt
      intro e2
      injection e2 with e2
      injection e2 with e2
      injection e2 with e2
      omega
    · clear hd
      go_simp
      refine hK _ _ ⟨W.heap.size, rfl, hW.size, Blk.new _ _ _⟩ (Below.alloc (Below.refl _ _) (Nat.le_refl _) _) (fun j u hu => ⟨fun e => absurd e (by decide), fun e _ => ?_⟩)
      subst e
      obtain ⟨b', rfl, _, hb'⟩ := hu
      have h9 := hb'.lt
      intro e2
      injection e2 with e2
      injection e2 with e2
      injection e2 with e2
      omega
  · intro f_ W fuel hf hW hd hp
    obtain ⟨Ai, ci, At, nt, ct, z0, z1, z2, z3, z4, z5, z6, z7, h45, hci, si⟩ := hd 3 (by decide)
    obtain ⟨Ai2, ci2, At2, nt2, ct2, y0, y1, y2, y3, y4, y5, y6, y7, h50, hci2, _⟩ := hd 8 (by decide)
    obtain ⟨P1, h10, hP1, kp1⟩ := hd 9 (by decide)
    obtain ⟨P2, h11, hP2, kp2⟩ := hd 10 (by decide)
    replace h45 : f_ 45 = _ := h45
    replace h50 : f_ 50 = _ := h50
    replace h10 : f_ 10 = _ := h10
    replace h11 : f_ 11 = _ := h11
    have hne : P1 ≠ P2 := by
      have h := hp 9 10 (by decide) (by decide) (by decide) rfl rfl
      intro e
      apply h
      show f_ 10 = f_ 11
      rw [h10, h11, e]
    clear hd hp
    obtain ⟨Da, hDa⟩ : ∃ D, D = packS K v.toNat s l := ⟨_, rfl⟩
    obtain ⟨Db, hDb⟩ : ∃ D, D = packS K v.toNat s [⟨sec, mark, ⟨BA, bc, bl⟩⟩] := ⟨_, rfl⟩
    rw [← hDa] at h45
    rw [← hDb] at h50
    obtain ⟨n, rfl⟩ : ∃ n, fuel = n + 2 := ⟨fuel - 2, by have h9 : 13 - 11 ≤ fuel := hf; omega⟩
    have SZP : (Tryz.prog.info? 32).map (·.size) = some 11 := by kernel_rfl
    refine wpAny_two (by kernel_rfl) (by kernel_rfl) (by kernel_rfl) ?_
    simp only [over, List.foldl_cons, List.foldl_nil, List.setIfInBounds_toArray, List.set_cons_zero, List.set_cons_succ, h10, h11, h45, h50]
    refine wpOp_step rfl fun K' hK' => ?_
    rw [if_pos (by rfl)]
    refine wp_store_row 32 (.tmp 10) (.tmp 45) rfl P1 _ rfl rfl 32 _ kp1 SZP rfl (by simp [Value.oneCell']) ?_
    apply hK'
    refine wpOp_step rfl fun K'' hK'' => ?_
    rw [if_pos (by rfl)]
    have kr1 : Blk (W.setRow P1 #[.string Da, .slice Ai l.length ci, .slice At nt ct, .int .u8 z0, .int .u8 z1, .int .u8 z2, .int .u8 z3, .int .u8 z4, .int .u8 z5, .int .u8 z6, .int .u8 z7]) P1 32 #[.string Da, .slice Ai l.length ci, .slice At nt ct, .int .u8 z0, .int .u8 z1, .int .u8 z2, .int .u8 z3, .int .u8 z4, .int .u8 z5, .int .u8 z6, .int .u8 z7] := setRow_heap _ _ _ _ _ _ kp1
    have f1 := fr_setRow (Fr.refl [P1] W) (g := P1) (.inl (by simp)) #[.string Da, .slice Ai l.length ci, .slice At nt ct, .int .u8 z0, .int .u8 z1, .int .u8 z2, .int .u8 z3, .int .u8 z4, .int .u8 z5, .int .u8 z6, .int .u8 z7]
    refine wp_store_row 32 (.tmp 11) (.tmp 50) rfl P2 _ rfl rfl 32 _ (kp2.fr f1 (by simpa using hne.symm)) SZP rfl (by simp [Value.oneCell']) ?_
    apply hK''
    obtain ⟨wa, hwa⟩ : ∃ wa, wa = W.setRow P1 #[.string Da, .slice Ai l.length ci, .slice At nt ct, .int .u8 z0, .int .u8 z1, .int .u8 z2, .int .u8 z3, .int .u8 z4, .int .u8 z5, .int .u8 z6, .int .u8 z7] := ⟨_, rfl⟩
    rw [← hwa] at kr1 f1 ⊢
    have kr2 : Blk (wa.setRow P2 #[.string Db, .slice Ai2 1 ci2, .slice At2 nt2 ct2, .int .u8 y0, .int .u8 y1, .int .u8 y2, .int .u8 y3, .int .u8 y4, .int .u8 y5, .int .u8 y6, .int .u8 y7]) P2 32 #[.string Db, .slice Ai2 1 ci2, .slice At2 nt2 ct2, .int .u8 y0, .int .u8 y1, .int .u8 y2, .int .u8 y3, .int .u8 y4, .int .u8 y5, .int .u8 y6, .int .u8 y7] := setRow_heap _ _ _ _ _ _ (kp2.fr f1 (by simpa using hne.symm))
    have f2 := fr_setRow (Fr.refl [P2] wa) (g := P2) (.inl (by simp)) #[.string Db, .slice Ai2 1 ci2, .slice At2 nt2 ct2, .int .u8 y0, .int .u8 y1, .int .u8 y2, .int .u8 y3, .int .u8 y4, .int .u8 y5, .int .u8 y6, .int .u8 y7]
    obtain ⟨w7, hw7⟩ : ∃ w7, w7 = wa.setRow P2 #[.string Db, .slice Ai2 1 ci2, .slice At2 nt2 ct2, .int .u8 y0, .int .u8 y1, .int .u8 y2, .int .u8 y3, .int .u8 y4, .int .u8 y5, .int .u8 y6, .int .u8 y7] := ⟨_, rfl⟩
    rw [← hw7] at kr2 f2 ⊢
    have K1 := kr1.fr f2 (by simpa using hne)
    have f7 : Fr [P1, P2] W w7 := (f1.mono (by simp)).trans (f2.mono (F := [P1, P2]) (by simp)) (fun q hq => .inl hq)
    have BWW : Below w.heap.size w W := below_from B4.out.drew hW
    have B7 := Lib.hid (below_fr BWW f7 (fun q hq => by
      simp only [List.mem_cons, List.not_mem_nil, or_false] at hq
      have h9 := B4.out.size
      rcases hq with rfl | rfl <;> omega) BWW.size)
    have ke := KE.out.drew.here hW
    have kel := KE.out.lt
    have ke7 := ke.fr f7 (by simp; omega)
    have OKH := OK.out
    have hs := OKH.sec
    obtain ⟨k, rfl⟩ : ∃ k : Nat, sec = k := ⟨sec.toNat, by simp only at hs; omega⟩
    have hk : k < 10 := by simp only at hs; omega
    obtain ⟨a0, a1, a2⟩ := AA.out
    try simp only at a0 a1 a2
    rw [show (k : Int).toNat = k from by omega] at a0 a1 a2
    obtain ⟨x9, hx9⟩ : ∃ x9, x9 = (Pk.all s (l.take i) k).length := ⟨_, rfl⟩
    rw [← hx9] at a0 a1 a2
    have hat9 : (idxs s l)[i]? = some (x9 : Int) := by
      have h9 := ATI.out
      try simp only at h9
      rw [h9, a2]
    obtain ⟨g2, o2, rfl, hcl2⟩ := si (by rw [List.length_map, idxs_len]; omega)
    have q6 := hcl2 i _ (by rw [List.getElem?_map, hat9]; rfl)
    have hno : ∀ (P : Nat) , Blk W P 32 zPk → g2 ≠ P := fun P hp e => by
      rw [e] at q6
      have h9 := hp.cell (o2 + i)
      rw [q6] at h9
      have key : ∀ (q : Nat) (x : Int), some (Value.int .i64 x) ≠ zPk[q]? := fun q x => by
        match q with
        | 0 => intro hh; cases hh
        | 1 => intro hh; cases hh
        | 2 => intro hh; cases hh
        | 3 => intro hh; cases hh
        | 4 => intro hh; cases hh
        | 5 => intro hh; cases hh
        | 6 => intro hh; cases hh
        | 7 => intro hh; cases hh
        | 8 => intro hh; cases hh
        | 9 => intro hh; cases hh
        | 10 => intro hh; cases hh
        | q + 11 => rw [Array.getElem?_eq_none (by show 11 ≤ q + 11; omega)]; intro hh; cases hh
      exact key _ _ h9
    have q7 := f7.cell q6 (by
      have h1 := hno P1 kp1
      have h2 := hno P2 kp2
      simp [h1, h2])
    have EP := pack_size s l PP.out.len PP.out.ok
    have ele := (Pk.all s l).elems_le k x9 hk a0
    have h60 := PP.out.len
    have PV := PP.out.ver
    obtain ⟨vn, rfl⟩ : ∃ vn : Nat, v = vn := ⟨v.toNat, by omega⟩
    have PP1 : PackP (vn : Int) s [⟨(k : Int), mark, ⟨BA, bc, bl⟩⟩] := ⟨fun y hy => by rw [List.mem_singleton.1 hy]; exact OKH, PV, PP.out.syn, by simp⟩
    obtain ⟨T, hT9⟩ : ∃ T, T = str (elB s mark bl) := ⟨_, rfl⟩
    have RA := Lib.hid (fun (W' : World) (hb : Below w.heap.size w W') => show Calls Tryz.prog 19 #[.string Da, .int .i64 k, .int .i64 x9] W' (RetV (.string T) W') from by
      have h1 := rawAt_any (packT (K := K) PP.out (elems_pos _ k x9 hk a0)) (HK.out.here hb).gv k x9 hk a0
      rw [← hDa, (List.getElem?_eq_some_iff.1 a1).2, el_plain s _ PL.out _] at h1
      rw [hT9]
      exact h1)
    have RB := Lib.hid (fun (W' : World) (hb : Below w.heap.size w W') => show Calls Tryz.prog 19 #[.string Db, .int .i64 k, .int .i64 0] W' (RetV (.string T) W') from by
      have p1 : 0 < (Pk.all s [⟨(k : Int), mark, ⟨BA, bc, bl⟩⟩] k).length := by
        have h := all_one s ⟨(k : Int), mark, ⟨BA, bc, bl⟩⟩ OKH
        try simp only at h
        rw [show (k : Int).toNat = k from by omega] at h
        rw [h]
        simp
      have p2 : (Pk.all s [⟨(k : Int), mark, ⟨BA, bc, bl⟩⟩] k)[0] = str (elB s mark bl) := by
        have h := all_one s ⟨(k : Int), mark, ⟨BA, bc, bl⟩⟩ OKH
        try simp only at h
        rw [show (k : Int).toNat = k from by omega] at h
        have h2 : (Pk.all s [⟨(k : Int), mark, ⟨BA, bc, bl⟩⟩] k)[0]? = some (str ((El.es s ⟨(k : Int), mark, ⟨BA, bc, bl⟩⟩ Pk.none).bytes s)) := by rw [h]; rfl
        rw [(List.getElem?_eq_some_iff.1 h2).2, el_plain s _ PL.out _]
      have h1 := rawAt_any (packT (K := K) PP1 (elems_pos _ k 0 hk p1)) (HK.out.here hb).gv k 0 hk p1
      rw [← hDb, p2] at h1
      rw [hT9]
      exact h1)
    have x90 : (0 : Int) ≤ x9 := by omega
    have k0 : (0 : Int) ≤ k := by omega
    have k1 : (k : Int) < 10 := by omega
    have c10 : w7.cell? ⟨P1, 0, none⟩ = some (.string Da) := K1.cell 0
    have c11 : w7.cell? ⟨P1, 1, none⟩ = some (.slice (some ⟨g2, o2, none⟩) l.length ci) := K1.cell 1
    have c20 : w7.cell? ⟨P2, 0, none⟩ = some (.string Db) := kr2.cell 0
    have c21 : w7.cell? ⟨P2, 1, none⟩ = some (.slice Ai2 1 ci2) := kr2.cell 1
    have cx : w7.cell? ⟨g2, o2 + i, none⟩ = some (.int .i64 x9) := q7
    have ce : w7.cell? ⟨w3.heap.size, 0, none⟩ = some (.int .i64 k) := ke7.cell 0
    have hci9 : (l.length : Int) ≤ ci := by omega
    have hci8 : (1 : Int) ≤ ci2 := by omega
    clear hDa hDb SZP hK' hK'' kr1 kr2 f1 f2 f7 hwa hw7 K1 BWW ke kel ke7 OKH hs a0 a1 a2 hx9 hat9 hcl2 q6 hno q7 EP ele PP1 hT9 h10 h11 h45 h50 hP1 hP2 kp1 kp2 hf hci hci2 si v0 v1 PV
    have v0 : (0 : Int) ≤ vn := by omega
    have s0 : w7.drew.cell? ⟨P1, 0, none⟩ = some (.string Da) := c10
    have s1 : w7.drew.cell? ⟨P1, 1, none⟩ = some (.slice (some ⟨g2, o2, none⟩) l.length ci) := c11
    have s2 : w7.drew.cell? ⟨g2, o2 + i, none⟩ = some (.int .i64 x9) := cx
    have s3 : w7.drew.cell? ⟨w3.heap.size, 0, none⟩ = some (.int .i64 k) := ce
    have s4 : w7.drew.cell? ⟨P2, 0, none⟩ = some (.string Db) := c20
    go_upto_region 9 with fail
    clear c10 c11 cx ce c20 c21
    go_region_held3 (fun W => (W.cell? ⟨P1, 0, none⟩ = some (.string Da) ∧ W.cell? ⟨P1, 1, none⟩ = some (.slice (some ⟨g2, o2, none⟩) l.length ci) ∧ W.cell? ⟨g2, o2 + i, none⟩ = some (.int .i64 x9)) ∧ W.cell? ⟨w3.heap.size, 0, none⟩ = some (.int .i64 k) ∧ W.cell? ⟨P2, 0, none⟩ = some (.string Db)) (first | exact ⟨⟨s0, s1, s2⟩, s3, s4⟩ | exact U8.out | exact U9.out | go_keep)
      (first
        | (go_at_call 19; refine (RB.out _ B8.out).mono ?_; rintro e9 w9 ⟨rfl, b9⟩; have B9 := Lib.hid (below_from B8.out b9); have U9 := Lib.hid (And.intro (And.intro (keep_cell b9 U8.out.1.1) (And.intro (keep_cell b9 U8.out.1.2.1) (keep_cell b9 U8.out.1.2.2))) (And.intro (keep_cell b9 U8.out.2.1) (keep_cell b9 U8.out.2.2))); clear b9)
        | (go_at_call 19; refine (RA.out _ B7.out.drew).mono ?_; rintro e8 w8 ⟨rfl, b8⟩; have B8 := Lib.hid (below_from B7.out.drew b8); have U8 := Lib.hid (And.intro (And.intro (keep_cell b8 s0) (And.intro (keep_cell b8 s1) (keep_cell b8 s2))) (And.intro (keep_cell b8 s3) (keep_cell b8 s4))); clear b8))
    all_goals
      clear s0 s1 s2 s3 s4
      go_wp2_with fail
      go_returns
      exact ⟨by simp, B9.out⟩
end Go.Proofs.YtedjadicdodahaaGreatDoor
