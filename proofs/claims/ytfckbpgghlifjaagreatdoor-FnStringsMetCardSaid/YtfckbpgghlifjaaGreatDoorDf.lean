/- The thin package's readers of a package. (printed by gen_pdf.py) -/
import Derived.Test.YtfckbpgghlifjaaGreatDoorDe
namespace Go.Proofs.YtfckbpgghlifjaaGreatDoor
open Go.RowKit

/-- A text that is a package. -/
structure PkT (t : ByteArray) (v : Nat) (s : Bool) (p : Pk) (fp : List UInt8) : Prop where
  eq : t = str (p.body v s ++ fp)
  fp8 : fp.length = 8
  ver : v ≤ 5
  syn : s = true → 1 ≤ v
  one : 1 ≤ (p.elems 10).length
  cnt : (p.elems 10).length ≤ 1000000
  siz : (szs (p.elems 10)).sum ≤ 100000000
/-- What the version's tables hold. -/
structure Gv (w : World) : Prop where
  i : w.cell? ⟨0, 0, none⟩ = some (.int .u32 1)
  r : w.cell? ⟨1, 0, none⟩ = some (.int .u32 0)
theorem Gv.here {w w' : World} (h : Gv w) (hb : Below w.heap.size w w') : Gv w' := ⟨keep_cell hb h.i, keep_cell hb h.r⟩
theorem PkQ.new {w1 : World} {g c : Nat} {v : Nat} {s : Bool} {path : ByteArray} {p : Pk} {fp : List UInt8} (hc : (p.elems 10).length ≤ c) (hcl : ∀ j, j < (p.elems 10).length → w1.cell? ⟨g, j, none⟩ = some (.int .u32 ((p.sizes.take (j + 1)).sum : Nat))) (hN : 1 ≤ (p.elems 10).length) :
    PkQ w1.heap.size v s path p fp (.slice none 0 0) (w1.alloc (.cells (rdArr v s path (str (p.data ++ fp)) (.slice (some ⟨g, 0, none⟩) (p.elems 10).length c) (fun k => (p.elems (k + 1)).length) (.slice none 0 0)) 85)) := by
  have hg : g < w1.heap.size := World.block_lt_of_cell? w1 _ (hcl 0 (by omega))
  have hb : Below w1.heap.size w1 (w1.alloc (.cells (rdArr v s path (str (p.data ++ fp)) (.slice (some ⟨g, 0, none⟩) (p.elems 10).length c) (fun k => (p.elems (k + 1)).length) (.slice none 0 0)) 85)) := Below.alloc (Below.refl _ _) (Nat.le_refl _) _
  exact ⟨g, c, Blk.new _ _ _, hc, by omega, fun j hj => keep_cell hb (hcl j hj)⟩
set_option maxRecDepth 100000 in
set_option maxHeartbeats 2000000 in
theorem stringAt_any {t : ByteArray} {v : Nat} {s : Bool} {p : Pk} {fp : List UInt8} {w : World} (hT : PkT t v s p fp) (hG : Gv w) (i : Nat) (hi : i < (p 0).length) :
    Calls Tryz.prog 29 #[.string t, .int .i64 i] w (RetV (.string (p 0)[i]) w) := by
  have ND := Lib.hid (fun (W : World) (hb : Below w.heap.size w W) => newPkgDecoder_any ⟨#[]⟩ t v s p fp W hT.eq hT.fp8 hT.ver hT.syn hT.one hT.cnt hT.siz (hG.here hb).i (hG.here hb).r)
  have HT := Lib.hid hT
  have ib := (p.elems_le 0 i (by decide) hi)
  have i0 : (0 : Int) ≤ i := by omega
  have i1 : (i : Int) ≤ 1000000 := by have := hT.cnt; omega
  have hw32 : IntKind.i32.wrap (i : Int) = i := by rw [IntKind.wrap_i32]; omega
  clear ib
  clear hT hG
  go_enter Tryz.func29, Tryz.ntmps29
  go_wp2_with fail
  refine (ND.out w (Below.refl _ _)).mono ?_
  rintro e w1 ⟨g, c, rfl, hc, _, hcl, b1⟩
  have PD := Lib.hid (PkQ.new (v := v) (s := s) (path := ⟨#[]⟩) (fp := fp) hc hcl HT.out.one)
  have B1 := Lib.hid (b1.alloc b1.size (.cells (rdArr v s ⟨#[]⟩ (str (p.data ++ fp)) (.slice (some ⟨g, 0, none⟩) (p.elems 10).length c) (fun k => (p.elems (k + 1)).length) (.slice none 0 0)) 85))
  clear hc hcl b1 ND
  go_wp2_with fail
  refine (pkStringIdx_any PD.out i hi HT.out.cnt HT.out.siz).mono ?_
  rintro e w2 ⟨rfl, n2, rfl⟩
  go_wp2_with fail
  go_ret
  exact ⟨rfl, below_drewN B1.out n2⟩
set_option maxRecDepth 100000 in
set_option maxHeartbeats 2000000 in
theorem rawAt_any {t : ByteArray} {v : Nat} {s : Bool} {p : Pk} {fp : List UInt8} {w : World} (hT : PkT t v s p fp) (hG : Gv w) (k i : Nat) (hk : k < 10) (hi : i < (p k).length) :
    Calls Tryz.prog 25 #[.string t, .int .i64 k, .int .i64 i] w (RetV (.string (p k)[i]) w) := by
  have ND := Lib.hid (fun (W : World) (hb : Below w.heap.size w W) => newPkgDecoder_any ⟨#[]⟩ t v s p fp W hT.eq hT.fp8 hT.ver hT.syn hT.one hT.cnt hT.siz (hG.here hb).i (hG.here hb).r)
  have HT := Lib.hid hT
  have ib := (p.elems_le k i hk hi)
  have i0 : (0 : Int) ≤ i := by omega
  have i1 : (i : Int) ≤ 1000000 := by have := hT.cnt; omega
  have hw32 : IntKind.i32.wrap (i : Int) = i := by rw [IntKind.wrap_i32]; omega
  have k0 : (0 : Int) ≤ k := by omega
  have k1 : (k : Int) < 10 := by omega
  have hk32 : IntKind.i32.wrap (k : Int) = k := by rw [IntKind.wrap_i32]; omega
  clear ib
  clear hT hG
  go_enter Tryz.func25, Tryz.ntmps25
  go_wp2_with fail
  refine (ND.out w (Below.refl _ _)).mono ?_
  rintro e w1 ⟨g, c, rfl, hc, _, hcl, b1⟩
  have PD := Lib.hid (PkQ.new (v := v) (s := s) (path := ⟨#[]⟩) (fp := fp) hc hcl HT.out.one)
  have B1 := Lib.hid (b1.alloc b1.size (.cells (rdArr v s ⟨#[]⟩ (str (p.data ++ fp)) (.slice (some ⟨g, 0, none⟩) (p.elems 10).length c) (fun k => (p.elems (k + 1)).length) (.slice none 0 0)) 85))
  clear hc hcl b1 ND
  go_wp2_with fail
  refine (dataIdx_any PD.out k i hk hi HT.out.cnt HT.out.siz).mono ?_
  rintro e w2 ⟨rfl, n2, rfl⟩
  go_wp2_with fail
  go_ret
  exact ⟨rfl, below_drewN B1.out n2⟩
set_option maxRecDepth 100000 in
set_option maxHeartbeats 2000000 in
theorem absolute_any {t : ByteArray} {v : Nat} {s : Bool} {p : Pk} {fp : List UInt8} {w : World} (hT : PkT t v s p fp) (hG : Gv w) (k i : Nat) (hk : k < 10) (hi : i < (p k).length) :
    Calls Tryz.prog 22 #[.string t, .int .i64 k, .int .i64 i] w (RetV (.int .i64 ((p.elems k).length + i : Nat)) w) := by
  have ND := Lib.hid (fun (W : World) (hb : Below w.heap.size w W) => newPkgDecoder_any ⟨#[]⟩ t v s p fp W hT.eq hT.fp8 hT.ver hT.syn hT.one hT.cnt hT.siz (hG.here hb).i (hG.here hb).r)
  have HT := Lib.hid hT
  have ib := (p.elems_le k i hk hi)
  have i0 : (0 : Int) ≤ i := by omega
  have i1 : (i : Int) ≤ 1000000 := by have := hT.cnt; omega
  have hw32 : IntKind.i32.wrap (i : Int) = i := by rw [IntKind.wrap_i32]; omega
  have k0 : (0 : Int) ≤ k := by omega
  have k1 : (k : Int) < 10 := by omega
  have hk32 : IntKind.i32.wrap (k : Int) = k := by rw [IntKind.wrap_i32]; omega
  clear ib
  clear hT hG
  go_enter Tryz.func22, Tryz.ntmps22
  go_wp2_with fail
  refine (ND.out w (Below.refl _ _)).mono ?_
  rintro e w1 ⟨g, c, rfl, hc, _, hcl, b1⟩
  have PD := Lib.hid (PkQ.new (v := v) (s := s) (path := ⟨#[]⟩) (fp := fp) hc hcl HT.out.one)
  have B1 := Lib.hid (b1.alloc b1.size (.cells (rdArr v s ⟨#[]⟩ (str (p.data ++ fp)) (.slice (some ⟨g, 0, none⟩) (p.elems 10).length c) (fun k => (p.elems (k + 1)).length) (.slice none 0 0)) 85))
  clear hc hcl b1 ND
  go_wp2_with fail
  refine (absIdx_any PD.out k i hk hi HT.out.cnt).mono ?_
  rintro e w2 ⟨rfl, n2, rfl⟩
  go_wp2_with fail
  go_ret
  exact ⟨rfl, below_drewN B1.out n2⟩
end Go.Proofs.YtfckbpgghlifjaaGreatDoor
