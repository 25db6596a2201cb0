/- DumpTo. -/
import Derived.BigRegion
import Derived.Test.YtedjadicdodahaaGreatDoorQMw
import Derived.Test.YtedjadicdodahaaGreatDoorQPk
import Derived.Test.YtedjadicdodahaaGreatDoorPEnI
namespace Go.Proofs.YtedjadicdodahaaGreatDoor
open Go.RowKit Go.Maps

/-- What DumpTo reads of a package's encoder. -/
structure PkRd (own : Nat → Prop) (pb : Nat) (ver sf : Int) (p : Pk) (f : Nat → Value) (w : World) : Prop where
  oh : own pb
  ver : w.cell? ⟨pb, 0, none⟩ = some (.int .u32 ver)
  sec : ∀ i, i < 10 → w.cell? ⟨pb, 1 + i, none⟩ = some (f i)
  sf : w.cell? ⟨pb, 12, none⟩ = some (.int .i64 sf)
  sl : ∀ i, i < 10 → ∃ A c, f i = .slice A (p i).length c ∧ ∀ (j : Nat) (t : ByteArray), (p i)[j]? = some t → ∃ g, A = some ⟨g, 0, none⟩ ∧ own g ∧ w.cell? ⟨g, j, none⟩ = some (.string t)
theorem PkSt.rd {own : Nat → Prop} {pb mb : Nat} {ver sf : Int} {p : Pk} {w : World} (h : PkSt own pb mb ver sf p w) : ∃ f, PkRd own pb ver sf p f w := by
  obtain ⟨f, h1, h2, h3⟩ := h.is
  refine ⟨f, h.low.1, by rw [h1.cell]; rfl, fun i hi => by rw [h1.cell, pkArr_at _ _ _ _ _ hi], by rw [h1.cell]; rfl, fun i hi => ?_⟩
  obtain ⟨A, c, hf, _⟩ := own_slice (h2 i hi).row
  refine ⟨A, c, hf, fun j t hj => ?_⟩
  have hR := h2 i hi
  rw [hf] at hR
  have hjl := (List.getElem?_eq_some_iff.1 hj).1
  obtain ⟨g, rfl, hg, _, _, _, hcl⟩ := hR.at (by rw [List.length_map]; omega)
  refine ⟨g, rfl, hg, ?_⟩
  rw [(hcl j (by rw [List.length_map]; exact hjl)).1, List.getElem?_map, hj]
  rfl
theorem PkRd.kp {own own2 : Nat → Prop} {pb : Nat} {ver sf : Int} {p : Pk} {f : Nat → Value} {w w' : World} (h : PkRd own pb ver sf p f w) (k : Kp own2 w w') (hd : ∀ g, own g → ¬ own2 g) : PkRd own pb ver sf p f w' :=
  ⟨h.oh, k.cell h.ver (hd _ h.oh), fun i hi => k.cell (h.sec i hi) (hd _ h.oh), k.cell h.sf (hd _ h.oh), fun i hi => by
    obtain ⟨A, c, h1, h2⟩ := h.sl i hi
    refine ⟨A, c, h1, fun j t hj => ?_⟩
    obtain ⟨g, g1, g2, g3⟩ := h2 j t hj
    exact ⟨g, g1, g2, k.cell g3 (hd _ g2)⟩⟩
theorem PkRd.here {own : Nat → Prop} {pb : Nat} {ver sf : Int} {p : Pk} {f : Nat → Value} {w w' : World} (h : PkRd own pb ver sf p f w) (b : Below w.heap.size w w') : PkRd own pb ver sf p f w' :=
  h.kp (Kp.of_below (own := fun _ => False) b) (fun _ _ => id)
theorem below_go {a b c : World} (h : Below a.heap.size a b) (k : Below b.heap.size b c) : Below a.heap.size a c := h.trans (k.mono h.size)
abbrev z8 : Array Value := #[.int .u8 0, .int .u8 0, .int .u8 0, .int .u8 0, .int .u8 0, .int .u8 0, .int .u8 0, .int .u8 0]
/-- The fingerprint: the first eight bytes of the sum. -/
def fpC (K : List Int) (q : List (List UInt8)) : List Value := (sumA K (dgP K q)).toList.take 8
def fpA (K : List Int) (q : List (List UInt8)) : Array Value := (fpC K q).toArray
def valByte : Value → UInt8
  | .int _ z => z.toNat.toUInt8
  | _ => 0
def fpL (K : List Int) (q : List (List UInt8)) : List UInt8 := (fpC K q).map valByte
def IsByte (x : Value) : Prop := ∃ z : Int, x = .int .u8 (z % 256)
theorem beS32_byte (cs : Array Value) (o : Nat) (v : Int) (h : ∀ x ∈ cs, IsByte x) : ∀ x ∈ beS32 cs o v, IsByte x := by
  intro x hx
  unfold beS32 at hx
  rcases Array.mem_or_eq_of_mem_setIfInBounds hx with hx | rfl
  · rcases Array.mem_or_eq_of_mem_setIfInBounds hx with hx | rfl
    · rcases Array.mem_or_eq_of_mem_setIfInBounds hx with hx | rfl
      · rcases Array.mem_or_eq_of_mem_setIfInBounds hx with hx | rfl
        · exact h x hx
        · exact ⟨_, rfl⟩
      · exact ⟨_, rfl⟩
    · exact ⟨_, rfl⟩
  · exact ⟨_, rfl⟩
theorem z32_byte : ∀ x ∈ z32, IsByte x := by
  intro x hx
  have h : x = .int .u8 0 := by
    have h9 := Array.mem_toList_iff.2 hx
    unfold z32 at h9
    simpa using h9
  exact ⟨0, by rw [h]; rfl⟩
theorem sumOf_byte (v : V8) : ∀ x ∈ sumOf v, IsByte x :=
  beS32_byte _ _ _ (beS32_byte _ _ _ (beS32_byte _ _ _ (beS32_byte _ _ _ (beS32_byte _ _ _ (beS32_byte _ _ _ (beS32_byte _ _ _ (beS32_byte _ _ _ z32_byte)))))))
theorem bytes_of_vals : ∀ (l : List Value) (_ : ∀ x ∈ l, IsByte x), Lib.byteCells (l.map valByte) = l
  | [], _ => rfl
  | x :: l, h => by
    obtain ⟨z, hz⟩ := h x (by simp)
    have ih := bytes_of_vals l (fun y hy => h y (by simp [hy]))
    unfold Lib.byteCells at ih ⊢
    rw [List.map_cons, List.map_cons, ih, hz]
    have h1 : ((valByte (.int .u8 (z % 256))).toNat : Int) = z % 256 := by
      show (((z % 256).toNat.toUInt8).toNat : Int) = z % 256
      rw [u8n]
      omega
    rw [h1]
theorem fpL_cells (K : List Int) (q : List (List UInt8)) : Lib.byteCells (fpL K q) = fpC K q :=
  bytes_of_vals _ fun x hx => sumOf_byte _ x (Array.mem_toList_iff.1 (List.mem_of_mem_take hx))
theorem fpC_len (K : List Int) (q : List (List UInt8)) : (fpC K q).length = 8 := by
  unfold fpC
  rw [List.length_take, Array.length_toList, sumA, sumOf_size]
  rfl
theorem fpL_len (K : List Int) (q : List (List UInt8)) : (fpL K q).length = 8 := by unfold fpL; rw [List.length_map, fpC_len]
theorem fpC_one (K : List Int) (q : List (List UInt8)) : ∀ x ∈ fpC K q, x.oneCell' = true := fun x hx => by
  obtain ⟨z, rfl⟩ := sumOf_byte _ x (Array.mem_toList_iff.1 (List.mem_of_mem_take hx))
  rfl
theorem fpC_at (K : List Int) (q : List (List UInt8)) (j : Nat) (x : Value) (h : (fpC K q)[j]? = some x) : j < 32 ∧ (sumA K (dgP K q))[j]? = some x := by
  have hl := (List.getElem?_eq_some_iff.1 h).1
  rw [fpC_len] at hl
  unfold fpC at h
  rw [List.getElem?_take, if_pos hl, Array.getElem?_toList] at h
  exact ⟨by omega, h⟩
set_option maxRecDepth 100000 in
set_option maxHeartbeats 8000000 in
theorem dumpTo_any {own ownB : Nat → Prop} {pb mpb bb : Nat} {v : Nat} {s : Bool} {p : Pk} {K : List Int} {w : World} (hp : PkSt own pb mpb v (sfI s) p w) (hb : Bo ownB 74 (fun _ => none) bb 0 [] w)
    (hd : ∀ k, own k → ¬ ownB k) (hlB : ∀ k, ownB k → k < w.heap.size) (hlP : ∀ k, own k → k < w.heap.size)
    (hK : K.length = 64) (hk : Blk w 10 250 (K.map (Value.int .u32)).toArray) (hkn : ¬ ownB 10)
    (hi : w.cell? ⟨0, 0, none⟩ = some (.int .u32 1)) (hr : w.cell? ⟨1, 0, none⟩ = some (.int .u32 0)) (hin : ¬ ownB 0) (hrn : ¬ ownB 1)
    (hv : v < 4294967296) (hc : (p.elems 10).length ≤ 1000000) (hs : (szs (p.elems 10)).sum ≤ 100000000) :
    Calls Tryz.prog 30 #[.pointer (some ⟨pb, 0, none⟩), ifB bb] w fun e w' => e = .returned (.agg (fpA K (q3 v s p (p.elems 10)))) ∧
      Bo (grow ownB w) 74 (fun _ => none) bb 0 (p.body v s ++ fpL K (q3 v s p (p.elems 10))) w' ∧ Kp ownB w w' := by
  obtain ⟨f, hf⟩ := hp.rd
  obtain ⟨w1, hw1⟩ : ∃ w1, w1 = w.alloc (.cells z8 30) := ⟨_, rfl⟩
  have b1 : Below w.heap.size w w1 := by rw [hw1]; exact Below.alloc (Below.refl _ _) (Nat.le_refl _) _
  have r1 : Blk w1 w.heap.size 30 z8 := by rw [hw1]; exact Blk.new _ _ _
  have SN := Lib.hid (sha256_new w1)
  have HW1 := Lib.hid hw1
  have B1 := Lib.hid b1
  have R1 := Lib.hid r1
  have HF := Lib.hid hf
  have HP := Lib.hid hp
  have HB := Lib.hid hb
  have HK := Lib.hid hk
  have HI := Lib.hid hi
  have HR := Lib.hid hr
  clear hw1 b1 r1 hf hp hb hk hi hr
  go_enter Tryz.func30, Tryz.ntmps30
  go_wp2_with fail
  rw [← HW1.out]
  refine SN.out.mono ?_
  rintro e w2 ⟨rfl, d2, b2⟩
  go_wp2_with fail
  obtain ⟨w3, hw3⟩ : ∃ w3, w3 = w2.alloc (.cells #[ifB bb, ifD w1.heap.size] 133) := ⟨_, rfl⟩
  have b3 : Below w2.heap.size w2 w3 := by rw [hw3]; exact Below.alloc (Below.refl _ _) (Nat.le_refl _) _
  have a3 : Blk w3 w2.heap.size 133 #[ifB bb, ifD w1.heap.size] := by rw [hw3]; exact Blk.new _ _ _
  have MW := Lib.hid (multiWriter_any bb w1.heap.size w2.heap.size 2 w3 (by rw [a3.cell]; rfl) (by rw [a3.cell]; rfl) (by omega))
  have HW3 := Lib.hid hw3
  have B2 := Lib.hid b2
  have B3 := Lib.hid b3
  have D2 := Lib.hid d2
  clear hw3 b2 b3 a3 d2
  rw [← HW3.out]
  refine MW.out.mono ?_
  rintro e w4 ⟨mb, g, rfl, gm, gg, mw4, b4⟩
  obtain ⟨w5, hw5⟩ : ∃ w5, w5 = w4.alloc (.cells #[.iface 178 (.pointer (some ⟨mb, 0, none⟩))] 133) := ⟨_, rfl⟩
  have b5 : Below w4.heap.size w4 w5 := by rw [hw5]; exact Below.alloc (Below.refl _ _) (Nat.le_refl _) _
  have o5 : Blk w5 w4.heap.size 133 #[.iface 178 (.pointer (some ⟨mb, 0, none⟩))] := by rw [hw5]; exact Blk.new _ _ _
  have ls : w.heap.size < w1.heap.size ∧ w1.heap.size < w2.heap.size ∧ w2.heap.size < w3.heap.size ∧ w3.heap.size ≤ w4.heap.size ∧ w4.heap.size < w5.heap.size := by
    refine ⟨R1.out.lt, D2.out.lt, ?_, b4.size, o5.lt⟩
    rw [HW3.out]
    simp
  have b15 : Below w1.heap.size w1 w5 := below_go (below_go (below_go B2.out B3.out) b4) b5
  have b05 : Below w.heap.size w w5 := below_go B1.out b15
  have dm5 : Dm ownB K mb g bb w1.heap.size [] w5 := ⟨mw4.kp (Kp.of_below (own := fun _ => False) b5) id id, HB.out.here b05, ((D2.out.here B3.out).here b4).here b5, HK.out.here b05, hK, fun c => by have := hlB _ c; omega, fun c => by have := hlB _ c; omega, fun c => by have := hlB _ c; omega, hkn, by omega, by omega⟩
  obtain ⟨dma, dmb⟩ := dm5.start (oa := w4.heap.size) (by rw [o5.cell]; rfl) (fun c => by have := hlB _ c; omega) (by omega)
  have rd5 := HF.out.here b05
  have r5 : Blk w5 w.heap.size 30 z8 := R1.out.here b15
  have HW5 := Lib.hid hw5
  obtain ⟨dg, hdg⟩ : ∃ dg, dg = w1.heap.size := ⟨_, rfl⟩
  obtain ⟨oa, hoa⟩ : ∃ oa, oa = w4.heap.size := ⟨_, rfl⟩
  obtain ⟨ra, hra⟩ : ∃ ra, ra = w.heap.size := ⟨_, rfl⟩
  rw [← hdg, ← hoa] at dma
  rw [← hdg] at dmb
  rw [← hra] at r5
  have hdj : ∀ k, own k → ¬ (grow ownB w5 k ∨ k = dg) := fun k hk c => by
    have := hlP k hk
    rcases c with (c | c) | c
    · exact hd k hk c
    · omega
    · omega
  have lo : ∀ k, k < w.heap.size → ¬ ownB k → ¬ (grow ownB w5 k ∨ k = dg) := fun k hk hn c => by
    rcases c with (c | c) | c
    · exact hn c
    · omega
    · omega
  have RN := Lib.hid (show ¬ (grow ownB w5 ra ∨ ra = dg) from fun c => by
    rcases c with (c | c) | c
    · have := hlB _ c
      omega
    · omega
    · omega)
  have RNB := Lib.hid (show ¬ ownB ra ∧ w.heap.size ≤ ra from ⟨fun c => by have := hlB _ c; omega, by omega⟩)
  have DGB := Lib.hid (show w.heap.size ≤ dg from by omega)
  have HDJ := Lib.hid hdj
  have INI := Lib.hid (show ∀ wr, Kp (fun k => grow ownB w5 k ∨ k = dg) w5 wr → wr.cell? ⟨0, 0, none⟩ = some (.int .u32 1) ∧ wr.cell? ⟨1, 0, none⟩ = some (.int .u32 0) from fun wr hk =>
    ⟨hk.cell (keep_cell b05 HI.out) (lo _ (World.block_lt_of_cell? w _ HI.out) hin), hk.cell (keep_cell b05 HR.out) (lo _ (World.block_lt_of_cell? w _ HR.out) hrn)⟩)
  have PKW := Lib.hid (show ∀ wr, Kp (fun k => grow ownB w5 k ∨ k = dg) w5 wr → PkSt own pb mpb v (sfI s) p wr from fun wr hk => (HP.out.here b05).kp hk hdj)
  have R5 := Lib.hid r5
  have RD5 := Lib.hid rd5
  have DMA := Lib.hid dma
  have LS := Lib.hid ls
  have B05 := Lib.hid b05
  have cv := rd5.ver
  rw [hw5] at cv
  have W6 := Lib.hid (dmb.dump1 dma v hv (by simp))
  clear SN HW1 B1 HK HI HR HB HF HP R1 MW HW3 B2 B3 D2 hw5 b5 o5 b15 b05 dm5 dma dmb rd5 r5 ls hdj lo mw4 b4 gm gg hin hrn hkn hd hlB hlP
  have HDG := Lib.hid hdg
  have HOA := Lib.hid hoa
  have HRA := Lib.hid hra
  clear hdg hoa hra
  rw [← HDG.out, ← HRA.out]
  go_wp2_with fail
  rw [← HW5.out, ← HOA.out]
  refine W6.out.mono ?_
  rintro e w6 ⟨rfl, db6⟩
  have HAS := Lib.hid (has0_any v w6 (INI.out w6 db6.kp).1 (INI.out w6 db6.kp).2)
  have cv6 := (RD5.out.kp db6.kp HDJ.out).ver
  have DB6 := Lib.hid db6
  clear db6 cv W6
  go_wp2_with fail
  refine HAS.out.mono ?_
  rintro e w7 ⟨rfl, rfl⟩
  go_upto_if 40 with fail
  go_cut [8] from 24 to 132 (fun _ wc => DmB ownB K mb g bb dg (heads v s) w5 wc)
  case first =>
    by_cases hv1 : 1 ≤ v
    · rw [decide_eq_true hv1]
      have b01 : bits BinOp.or IntKind.u32 0 1 = 1 := by decide
      have W8 := Lib.hid (fun (n : Nat) (x : Nat) (hx : x < 4294967296) => (DB6.out.here (below_drewN (Below.refl _ _) n)).dump1 DMA.out x hx (by simp [le4_len]))
      go_wp2_with fail
      refine (encSyncMarkers_any (PKW.out w7 DB6.out.kp)).mono ?_
      rintro e w8 ⟨rfl, n8, rfl⟩
      rcases Bool.eq_false_or_eq_true s with hs1 | hs1
      · rw [hs1]
        go_wp2_with fail
        refine (W8.out n8 1 (by decide)).mono ?_
        rintro e w9 ⟨rfl, db9⟩
        go_wp2_with fail
        go_meet
        simpa [heads, hv1, hs1] using db9
      · rw [hs1]
        go_wp2_with fail
        refine (W8.out n8 0 (by decide)).mono ?_
        rintro e w9 ⟨rfl, db9⟩
        go_wp2_with fail
        go_meet
        simpa [heads, hv1, hs1] using db9
    · rw [decide_eq_false hv1]
      go_wp2_with fail
      go_meet
      have := DB6.out
      simpa [heads, hv1] using this
  case rest =>
    have DB := Lib.hid hcut
    clear hcut DB6 HAS
    go_wp2_with fail
    go_loopw [9, 11, 52] (fun sm _ x wr => ∃ i : Nat, i ≤ 10 ∧ x = .int .i64 i ∧ sm = .int .u32 ((p.elems i).length : Nat) ∧ DmB ownB K mb g bb dg (q1 v s p i) w5 wr)
      (fun _ _ x _ => 10 - (intOf x).toNat)
    case atStart => exact ⟨0, by omega, rfl, rfl, by rw [q1_zero]; exact DB.out⟩
    case round =>
      obtain ⟨i, hi10, rfl, rfl, hdb⟩ := hrel
      have HDB := Lib.hid hdb
      have kp := hdb.kp
      clear hdb
      by_cases hlt : i < 10
      · have rdr := RD5.out.kp kp HDJ.out
        obtain ⟨A, c, hfi, _⟩ := rdr.sl i hlt
        have ci := rdr.sec i hlt
        rw [hfi] at ci
        have hb1 := (szs_pre (p.upto_pre i (p i).length 10 hlt)).2
        rw [p.upto_all, p.elems_succ, List.length_append] at hb1
        obtain ⟨a1, ha1⟩ : ∃ a1, a1 = (p.elems i).length := ⟨_, rfl⟩
        obtain ⟨a2, ha2⟩ : ∃ a2, a2 = (p i).length := ⟨_, rfl⟩
        rw [← ha1, ← ha2] at hb1
        have W0 := HDB.out.dump1 DMA.out (a1 + a2) (by omega) (by have := q1_len v s p i; omega)
        rw [Int.natCast_add] at W0
        have W := Lib.hid W0
        have HQ := Lib.hid (show q1 v s p (i + 1) = q1 v s p i ++ [le4 (a1 + a2)] from by rw [q1_succ, ← ha1, ← ha2])
        rw [← ha1]
        rw [← ha2] at ci
        have HA := Lib.hid (show (p.elems (i + 1)).length = a1 + a2 from by rw [p.elems_succ, List.length_append, ha1, ha2])
        have u1 : IntKind.u32.wrap (a2 : Int) = a2 := by rw [IntKind.wrap_u32]; omega
        have u2 : IntKind.u32.wrap ((a1 : Int) + a2) = ((a1 + a2 : Nat) : Int) := by rw [IntKind.wrap_u32]; omega
        clear ha1 ha2 rdr hfi W0
        go_wp2_with fail
        refine W.out.mono ?_
        rintro e w9 ⟨rfl, db9⟩
        have DB9 := Lib.hid db9
        clear db9 W kp
        go_wp2_with fail
        go_roundw
        case rel => exact ⟨i + 1, by omega, by go_num, by rw [HA.out, Int.natCast_add], by rw [HQ.out]; exact DB9.out⟩
        case measure => simp [intOf]; omega
      · obtain rfl : i = 10 := by omega
        rw [show ((10 : Nat) : Int) = 10 from rfl]
        clear kp
        go_wp2_with fail
        go_loopw [9, 13, 15, 70] (fun sm _ _ x wr => ∃ i : Nat, i ≤ 10 ∧ x = .int .i64 i ∧ sm = .int .u32 ((szs (p.upto i 0)).sum : Nat) ∧ DmB ownB K mb g bb dg (q2 v s p (p.upto i 0)) w5 wr)
          (fun _ _ _ x _ => 10 - (intOf x).toNat)
        case atStart => exact ⟨0, by omega, rfl, by rw [p.upto_zero]; rfl, by rw [q2_zero]; exact HDB.out⟩
        case round =>
          clear HDB
          obtain ⟨i, hi10, rfl, rfl, hdb⟩ := hrel
          have HDB := Lib.hid hdb
          have kp := hdb.kp
          clear hdb
          by_cases hlt : i < 10
          · have rdr := RD5.out.kp kp HDJ.out
            obtain ⟨A, c, hfi, hjs⟩ := RD5.out.sl i hlt
            have ci := rdr.sec i hlt
            rw [hfi] at ci
            obtain ⟨n, hn⟩ : ∃ n, n = (p i).length := ⟨_, rfl⟩
            rw [← hn] at ci
            have hnb : n ≤ 1000000 := by
              have := (szs_pre (p.upto_pre i (p i).length 10 hlt)).2
              rw [p.upto_all, p.elems_succ, List.length_append, ← hn] at this
              omega
            have HN := Lib.hid hn
            have JS := Lib.hid hjs
            have KPI := Lib.hid kp
            clear hn hjs rdr hfi kp
            go_wp2_with fail
            rw [show decide ((i : Int) < 10) = true from by simp; omega]
            go_loopw [9, 15, 77] (fun sm _ x wr => ∃ j : Nat, j ≤ n ∧ x = .int .i64 j ∧ sm = .int .u32 ((szs (p.upto i j)).sum : Nat) ∧ DmB ownB K mb g bb dg (q2 v s p (p.upto i j)) w5 wr)
              (fun _ _ x _ => n - (intOf x).toNat)
            case atStart => exact ⟨0, by omega, rfl, rfl, HDB.out⟩
            case round =>
              obtain ⟨j, hjn, rfl, rfl, hdb⟩ := hrel
              have HDJ2 := Lib.hid hdb
              have kp := hdb.kp
              clear hdb
              by_cases hltj : j < n
              · obtain ⟨t, ht⟩ : ∃ t, (p i)[j]? = some t := ⟨_, List.getElem?_eq_getElem (by rw [← HN.out]; exact hltj)⟩
                obtain ⟨g0, rfl, hg0, hc0⟩ := JS.out j t ht
                have ct := kp.cell hc0 (HDJ.out g0 hg0)
                have hb1 := (szs_pre (p.upto_pre i (j + 1) 10 hlt)).1
                have hb2 := (szs_pre (p.upto_pre i j 10 hlt)).2
                rw [p.upto_succ i j t ht, show szs (p.upto i j ++ [t]) = szs (p.upto i j) ++ [t.size] from by simp [szs], List.sum_append] at hb1
                simp only [List.sum_cons, List.sum_nil] at hb1
                obtain ⟨a1, ha1⟩ : ∃ a1, a1 = (szs (p.upto i j)).sum := ⟨_, rfl⟩
                rw [← ha1] at hb1
                obtain ⟨a2, ha2⟩ : ∃ a2, a2 = t.size := ⟨_, rfl⟩
                rw [← ha2] at hb1
                have W0 := HDJ2.out.dump1 DMA.out (a1 + a2) (by omega) (by have := q2_len v s p (p.upto i j); omega)
                rw [Int.natCast_add] at W0
                have W := Lib.hid W0
                have HQ := Lib.hid (show q2 v s p (p.upto i (j + 1)) = q2 v s p (p.upto i j) ++ [le4 (a1 + a2)] from by rw [p.upto_succ i j t ht, q2_snoc, ← ha1, ← ha2])
                have HA := Lib.hid (show (szs (p.upto i (j + 1))).sum = a1 + a2 from by
                  rw [p.upto_succ i j t ht, show szs (p.upto i j ++ [t]) = szs (p.upto i j) ++ [t.size] from by simp [szs], List.sum_append, ← ha1, ← ha2]
                  simp)
                rw [← ha1]
                have u1 : IntKind.u32.wrap (t.size : Int) = a2 := by rw [IntKind.wrap_u32, ← ha2]; omega
                have u2 : IntKind.u32.wrap ((a1 : Int) + a2) = (a1 : Int) + a2 := by rw [IntKind.wrap_u32]; omega
                have u3 : (t.size : Int) = a2 := by rw [ha2]
                clear ha1 ha2 W0 hb2 hc0 ht kp
                go_wp2_with fail
                refine W.out.mono ?_
                rintro e w9 ⟨rfl, db9⟩
                have DB9 := Lib.hid db9
                clear db9 W
                go_wp2_with fail
                go_roundw
                case rel => exact ⟨j + 1, by omega, by go_num, by rw [HA.out, Int.natCast_add], by rw [HQ.out]; exact DB9.out⟩
                case measure => simp [intOf]; omega
              · obtain rfl : j = n := by omega
                have HQ := Lib.hid (show p.upto (i + 1) 0 = p.upto i j from by rw [p.upto_zero, HN.out, p.upto_all])
                go_wp2_with fail
                go_roundw
                case rel => exact ⟨i + 1, by omega, by go_num, by rw [HQ.out], by rw [HQ.out]; exact HDJ2.out⟩
                case measure => simp [intOf]; omega
          · obtain rfl : i = 10 := by omega
            rw [show ((10 : Nat) : Int) = 10 from rfl]
            clear kp
            go_wp2_with fail
            go_loopw [17, 19, 20, 21, 95] (fun _ _ _ _ x wr => ∃ i : Nat, i ≤ 10 ∧ x = .int .i64 i ∧ DmB ownB K mb g bb dg (q3 v s p (p.upto i 0)) w5 wr)
              (fun _ _ _ _ x _ => 10 - (intOf x).toNat)
            case atStart => exact ⟨0, by omega, rfl, by rw [q3_zero]; have h9 := HDB.out; rw [p.upto_zero] at h9; exact h9⟩
            case round =>
              clear HDB
              obtain ⟨i, hi10, rfl, hdb⟩ := hrel
              have HDB := Lib.hid hdb
              have kp := hdb.kp
              clear hdb
              by_cases hlt : i < 10
              · have rdr := RD5.out.kp kp HDJ.out
                obtain ⟨A, c, hfi, hjs⟩ := RD5.out.sl i hlt
                have ci := rdr.sec i hlt
                rw [hfi] at ci
                obtain ⟨n, hn⟩ : ∃ n, n = (p i).length := ⟨_, rfl⟩
                rw [← hn] at ci
                have hnb : n ≤ 1000000 := by
                  have := (szs_pre (p.upto_pre i (p i).length 10 hlt)).2
                  rw [p.upto_all, p.elems_succ, List.length_append, ← hn] at this
                  omega
                have HN := Lib.hid hn
                have JS := Lib.hid hjs
                clear hn hjs rdr hfi kp
                go_wp2_with fail
                rw [show decide ((i : Int) < 10) = true from by simp; omega]
                go_loopw [19, 20, 21, 102] (fun _ _ _ x wr => ∃ j : Nat, j ≤ n ∧ x = .int .i64 j ∧ DmB ownB K mb g bb dg (q3 v s p (p.upto i j)) w5 wr)
                  (fun _ _ _ x _ => n - (intOf x).toNat)
                case atStart => exact ⟨0, by omega, rfl, HDB.out⟩
                case round =>
                  obtain ⟨j, hjn, rfl, hdb⟩ := hrel
                  have HDJ2 := Lib.hid hdb
                  have kp := hdb.kp
                  clear hdb
                  by_cases hltj : j < n
                  · obtain ⟨t, ht⟩ : ∃ t, (p i)[j]? = some t := ⟨_, List.getElem?_eq_getElem (by rw [← HN.out]; exact hltj)⟩
                    obtain ⟨g0, rfl, hg0, hc0⟩ := JS.out j t ht
                    have ct := kp.cell hc0 (HDJ.out g0 hg0)
                    have hb1 := (szs_pre (p.upto_pre i (j + 1) 10 hlt)).1
                    have hb3 := (szs_pre (p.upto_pre i j 10 hlt)).1
                    rw [p.upto_succ i j t ht, show szs (p.upto i j ++ [t]) = szs (p.upto i j) ++ [t.size] from by simp [szs], List.sum_append] at hb1
                    simp only [List.sum_cons, List.sum_nil] at hb1
                    have hts : t.size ≤ 100000000 := by omega
                    have W := Lib.hid (HDJ2.out.str DMA.out t (by omega) (by have := q3_len v s p (p.upto i j); omega))
                    have HQ := Lib.hid (show q3 v s p (p.upto i (j + 1)) = q3 v s p (p.upto i j) ++ [t.data.toList] from by rw [p.upto_succ i j t ht, q3_snoc])
                    have oc := HDJ2.out.oc DMA.out
                    clear hb1 hb3 hc0 ht kp
                    go_wp2_with fail
                    refine W.out.mono ?_
                    rintro e w9 ⟨rfl, db9⟩
                    have DB9 := Lib.hid db9
                    clear db9 W oc
                    go_wp2_with fail
                    refine (assert_true _).mono ?_
                    rintro e w10 ⟨rfl, n10, rfl⟩
                    go_wp2_with fail
                    go_roundw
                    case rel => exact ⟨j + 1, by omega, by go_num, by rw [HQ.out]; exact DB9.out.here (below_drewN (Below.refl _ _) n10)⟩
                    case measure => simp [intOf]; omega
                  · obtain rfl : j = n := by omega
                    have HQ := Lib.hid (show p.upto (i + 1) 0 = p.upto i j from by rw [p.upto_zero, HN.out, p.upto_all])
                    go_wp2_with fail
                    go_roundw
                    case rel => exact ⟨i + 1, by omega, by go_num, by rw [HQ.out]; exact HDJ2.out⟩
                    case measure => simp [intOf]; omega
              · obtain rfl : i = 10 := by omega
                rw [show ((10 : Nat) : Int) = 10 from rfl]
                have DB := Lib.hid (show DmB ownB K mb g bb dg (q3 v s p (p.elems 10)) w5 wr from by have h9 := HDB.out; rw [p.upto_zero] at h9; exact h9)
                clear HDB kp
                go_upto_region 38 with fail
                obtain ⟨Q, hQ⟩ : ∃ Q, Q = q3 v s p (p.elems 10) := ⟨_, rfl⟩
                have hql := q3_len v s p (p.elems 10)
                rw [← hQ] at DB hql
                obtain ⟨dk, dl⟩ := dgP_ok K Q (by omega)
                have SUM := Lib.hid (sum_any K (dgP K Q) dg wr.drew hK dk (by rw [dl]; omega) DB.out.dm.dgb.drew DB.out.dm.kb.drew)
                have RW := Lib.hid (R5.out.kp DB.out.kp RN.out)
                have FL := Lib.hid (fpC_len K Q)
                have CPY := Lib.hid (fun (w' : World) (g c : Nat) (hb : Below wr.drew.heap.size wr.drew w') (hcl : ∀ j, j < 32 → w'.cell? ⟨g, j, none⟩ = (sumA K (dgP K Q))[j]?) => show (Builtin.copy_ #[70, 70] 3 #[.slice (some ⟨ra, 0, none⟩) 8 8, .slice (some ⟨g, 0, none⟩) 32 c]).run Tryz.prog w' = .ok (.int .i64 8) (w'.setRow ra (fpA K Q)) from by
                  have h9 := run_copy_row (P := Tryz.prog) w' 70 70 3 5 ra 0 8 8 ⟨g, 0, none⟩ 32 c z8 30 (fpC K Q) Tryz.underlying70 (by kernel_rfl) (RW.out.drew.here hb) (by rw [FL.out]; rfl) (fun j v hj => by
                    obtain ⟨h1, h2⟩ := fpC_at K Q j v hj
                    rw [Lib.addr_add, Nat.zero_add, hcl j h1, h2]) (by rw [FL.out]; exact Nat.le_refl _) (fpC_one K Q)
                  rw [FL.out] at h9
                  simpa [fpA, goInt] using h9)
                have HQ := Lib.hid hQ
                clear hQ dk dl
                go_region_held3 (fun _ => True) (first | trivial | go_keep)
                  (first | (go_at_call 164; refine SUM.out.mono ?_; intro e w38 hp38; obtain ⟨g8, c8, rfl, hg8, hc8, b8⟩ := hp38; have B8 := Lib.hid b8; have hcp := CPY.out w38 g8 c8 b8 hc8; clear hc8 b8 hg8))
                obtain ⟨w39, hw39⟩ : ∃ w39, w39 = w38.setRow ra (fpA K Q) := ⟨_, rfl⟩
                rw [← hw39]
                have hmf : ∀ (fn : Fn) (first cap : Array Value) (w : World), (Instr.makeFunc fn first cap).run Tryz.prog w = .ok (.func fn first cap) w := fun _ _ _ _ => rfl
                have hna : ∀ (k : Nat) (W : World), (nilAhead (k + 1) 69 (.pointer (some ⟨bb, 0, none⟩)) "Write").run Tryz.prog W = .ok (some false) W := fun k W => by kernel_rfl
                have r39 : Blk w39 ra 30 (fpA K Q) := by rw [hw39]; exact setRow_heap _ _ _ _ _ _ (RW.out.drew.here B8.out)
                have f39 : Fr [ra] w38 w39 := by rw [hw39]; exact fr_setRow (Fr.refl _ _) (.inl (by simp)) _
                have nra : ¬ grow ownB w5 ra := fun c => RN.out (.inl c)
                have b39 : Bo (grow ownB w5) 74 (fun _ => none) bb 0 Q.flatten w39 := ((DB.out.dm.bob.here (below_drewN (Below.refl _ _) 1)).here B8.out).fr f39 (by simpa using nra)
                have K39 := Lib.hid (show Kp ownB w w39 from by
                  have k1 : Kp ownB w wr := (Kp.of_below B05.out).comp DB.out.kp (fun g hg => by
                    rcases hg with (hg | hg) | hg
                    · exact .inl hg
                    · exact .inr (Nat.le_trans B05.out.size hg)
                    · rw [hg]; exact .inr DGB.out)
                  have k2 : Kp ownB w w38 := (k1.drewN 1).here B8.out
                  exact k2.comp (Kp.of_fr (own := fun g => g = ra) f39 (by simp)) (fun g hg => by rw [hg]; exact .inr RNB.out.2))
                have WR := Lib.hid (bo_Write (w := w39.drew) (b39.here (below_drewN (Below.refl _ _) 1)) (fpL K Q) ⟨ra, 0, none⟩ 8 8 (fpL_len K Q) (by omega) nra (fun j v hj => by
                  rw [fpL_cells] at hj
                  rw [Lib.addr_add, Nat.zero_add, r39.drew.cell]
                  unfold fpA
                  rw [List.getElem?_toArray]
                  exact hj) (by omega))
                have R39 := Lib.hid r39
                have NRA := Lib.hid nra
                clear r39 f39 b39 nra hw39 hcp
                go_upto_region 39 with fail
                go_region_held3 (fun _ => True) (first | trivial | go_keep)
                  (first | (go_at_call 106; refine WR.out.mono ?_; intro e w40 hp40; obtain ⟨rfl, d40, k40⟩ := hp40; have D40 := Lib.hid d40; have K40 := Lib.hid k40; clear d40 k40))
                go_wp2_with fail
                refine (assert_true _).mono ?_
                rintro e w41 ⟨rfl, n41, rfl⟩
                go_wp2_with fail
                have SS := Lib.hid (show (Tryz.prog.info? 30).map (·.size) = some (fpA K Q).size from by
                  rw [show (fpA K Q).size = 8 from by unfold fpA; rw [List.size_toArray]; exact FL.out]
                  kernel_rfl)
                have RZ := Lib.hid (show Blk (w40.drewN n41) ra 30 (fpA K Q) from (R39.out.drew.kp K40.out NRA.out).drewN n41)
                have BD := Lib.hid (q3_body v s p)
                have LE := Lib.hid (show w.heap.size ≤ w39.drew.heap.size ∧ w.heap.size ≤ w5.heap.size from ⟨K39.out.size, B05.out.size⟩)
                refine bodyPost_ret (v := .agg (fpA K Q)) (results_cell_row rfl _ _ ra 30 (fpA K Q) (0, 0) _ rfl RZ.out Tryz.underlying30 rfl SS.out) rfl ?_
                rw [← BD.out, ← HQ.out]
                refine ⟨rfl, (D40.out.here (below_drewN (Below.refl _ _) n41)).mono (fun k hk => ?_), ((K39.out.drewN 1).comp K40.out (fun k hk => ?_)).drewN n41⟩
                · rcases hk with (hk | hk) | hk
                  · exact .inl hk
                  · exact .inr (Nat.le_trans LE.out.2 hk)
                  · exact .inr (Nat.le_trans LE.out.1 hk)
                · rcases hk with hk | hk
                  · exact .inl hk
                  · exact .inr (Nat.le_trans LE.out.2 hk)
end Go.Proofs.YtedjadicdodahaaGreatDoor
