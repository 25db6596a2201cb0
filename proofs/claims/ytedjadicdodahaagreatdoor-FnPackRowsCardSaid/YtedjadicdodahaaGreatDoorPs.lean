/- What the package's variables hold: out of the world's shape, and of what is laid. -/
import Derived.Deep.DeepHandedRow
import Derived.Lib.LaidTab
import Derived.Test.YtedjadicdodahaaGreatDoorQPa
import Derived.Test.YtedjadicdodahaaGreatDoorPf
namespace Go.Proofs.YtedjadicdodahaaGreatDoor
open Go.RowKit

theorem intCell {P : Program} {w : World} {r : Reach} {base : Nat} {t : TypeId} {k : IntKind} {v : Value} (hu : P.underlying t = some (.int k)) (h : Cell.ok P w r base t v) : ∃ z, v = .int k z := by
  unfold Cell.ok at h
  rw [hu] at h
  cases v
  case int k' z => exact ⟨z, by rw [h.1]⟩
  all_goals exact h.elim
theorem rep_at {α : Type} (n : Nat) (t u : α) (i : Nat) (h : (List.replicate n t)[i]? = some u) : u = t := (List.mem_replicate.1 (List.mem_of_getElem? h)).2
set_option maxRecDepth 100000 in
theorem shaped_K {W : World} (h : W.ShapedOpen Tryz.prog) : ∃ K : List Int, K.length = 64 ∧ Blk W 10 250 (K.map (Value.int .u32)).toArray := by
  obtain ⟨cs, hh, hs, hr⟩ := h.1 10 (Array.replicate 64 (.int .u32 0)) 250 (of_decide_eq_true (by kernel_rfl)) (by kernel_rfl)
  obtain ⟨ts, hts, _, hall⟩ := hr (by kernel_rfl)
  have hts2 : Tryz.prog.cellTypes Tryz.prog.depth 250 = some (List.replicate 64 53) := by kernel_rfl
  rw [hts2] at hts
  cases hts
  have hs2 : cs.size = 64 := hs
  refine ⟨cs.toList.map intOf, by rw [List.length_map, Array.length_toList, hs2], ?_⟩
  have he : ((cs.toList.map intOf).map (Value.int .u32)).toArray = cs := by
    apply Array.toList_inj.1
    rw [List.map_map]
    refine List.ext_getElem (by simp) (fun i h1 h2 => ?_)
    rw [Array.length_toList] at h2
    obtain ⟨u, hu, hok⟩ := hall i cs[i] (by simp [h2])
    have hu2 : u = 53 := rep_at _ _ _ _ hu
    subst hu2
    obtain ⟨z, hz⟩ := intCell Tryz.underlying53 hok
    rw [List.getElem_map, Array.getElem_toList, Function.comp_apply, hz]
    rfl
  unfold Blk
  rw [he]
  exact hh
theorem Tryz.gI : Tryz.prog.globalNamed "loop.example/pub-g01454/pub/pkgbits.introduced" = some 0 := by kernel_rfl
theorem Tryz.gR : Tryz.prog.globalNamed "loop.example/pub-g01454/pub/pkgbits.removed" = some 1 := by kernel_rfl
theorem Tryz.gIT : (Tryz.prog.globals[0]?).map (·.type) = some 182 := by kernel_rfl
theorem Tryz.gRT : (Tryz.prog.globals[1]?).map (·.type) = some 182 := by kernel_rfl
theorem Tryz.cellsV8 : Tryz.prog.cellsOf 182 = 8 := by kernel_rfl
theorem Tryz.cellsV : Tryz.prog.cellsOf 54 = 1 := by kernel_rfl
theorem laidMet_tail {P : Program} {n : String} {d : DataW Unit} {l : List (String × DataW Unit)} {W : World} (h : laidMet P ((n, d) :: l) W) : laidMet P l W := by
  obtain ⟨ps, ⟨g, t, cs, fuel, p, q, h1, h2, h3, h4, h5, rfl⟩, hn, hw⟩ := h
  exact ⟨q, h5, (List.nodup_append.1 hn).2.1, fun b off hm => hw b off (List.mem_append_right _ hm)⟩
theorem gl_any {W : World} (hS : W.ShapedOpen Tryz.prog) (h : laidMet Tryz.prog [("loop.example/pub-g01454/pub/pkgbits.introduced", Rows.laid_loop_example_pub_g01454_pub_pkgbits_introduced), ("loop.example/pub-g01454/pub/pkgbits.removed", Rows.laid_loop_example_pub_g01454_pub_pkgbits_removed)] W) : ∃ K, Gl K W := by
  obtain ⟨K, h1, h2⟩ := shaped_K hS
  have ti : Lib.TabIs Tryz.prog W "loop.example/pub-g01454/pub/pkgbits.introduced" .u32 [1, 0, 0, 2, 0, 3, 4, 5] :=
    Lib.tabIs_of_head (rest := [_]) Tryz.gI Tryz.gIT Tryz.underlying182 Tryz.underlying54 Tryz.cellsV Tryz.cellsV8 h
  have tr : Lib.TabIs Tryz.prog W "loop.example/pub-g01454/pub/pkgbits.removed" .u32 [0, 2, 2, 0, 2, 0, 0, 0] :=
    Lib.tabIs_of_head (rest := []) Tryz.gR Tryz.gRT Tryz.underlying182 Tryz.underlying54 Tryz.cellsV Tryz.cellsV8 (laidMet_tail h)
  exact ⟨K, h1, h2, ti.cell Tryz.gI 0 (by decide), tr.cell Tryz.gR 0 (by decide)⟩
/-- Elements handed in; the slice's capacity. -/
theorem Rd.elsC {H : Type} {enc : TypeId × Value → H} {w : World} {A : Option Addr} {l c : Nat} (h : Rd enc Tryz.prog w 27 [.slice A l c]) : ∃ L : Sl El, A = L.A ∧ l = L.l.length ∧ c = L.c ∧ Els.In w L ∧ L.l.length ≤ L.c := by
  obtain ⟨xs, rfl, h2, h3, h4, h5⟩ := Rd.list El.cells (fun e => e.In w) Tryz.underlying27 (show Tryz.prog.cellsOf 24 = 3 by kernel_rfl) (by omega) (fun cs hr => Rd.elem_ hr) h
  exact ⟨⟨A, c, xs⟩, rfl, rfl, rfl, ⟨h4, h5, h3⟩, h2⟩
end Go.Proofs.YtedjadicdodahaaGreatDoor
