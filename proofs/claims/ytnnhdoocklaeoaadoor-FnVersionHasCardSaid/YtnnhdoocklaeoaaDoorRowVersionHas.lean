/- The tied cards of laws, out of their walks (printed by doorgen.py). -/
import Derived.Test.YtnnhdoocklaeoaaDoorVerHas
import Derived.Test.YtnnhdoocklaeoaaDoorOpen
import Derived.Test.YtnnhdoocklaeoaaDoorCards
import Derived.Test.YtnnhdoocklaeoaaDoorTie
import Derived.Deep.DeepHandedRow
import Derived.Lib.LaidTab
namespace Go.Proofs.YtnnhdoocklaeoaaDoor
open Go.ChangeShapes Go.WideShapes Go.ChangeAt Go.RowKit

theorem Tryd.own : ownKnob Tryd.prog.godebug = none := by kernel_rfl
theorem Tryd.laidOut : laidOutB Tryd.prog = true := by kernel_rfl

theorem fnVersionHas_contract (H : Type) (enc : TypeId × Value → H) (W : World) (base : Nat) (args : Array Value) (ds gs : List (DataW H)) (before : List MemPlace)
    (hval : ∀ (j : Nat) t v, Tryd.f3.params[j]? = some t → args[j]? = some v → Value.okWide Tryd.prog W .any base t v)
    (hW : DataW.Whole enc Tryd.prog Tryd.f3.params.toList Rows.fnVersionHasSpec.vars false W args.toList ds gs before) (hL : laidMetH Tryd.prog Rows.fnVersionHasRow.laid W) :
    Calls Tryd.prog 3 args W fun e W' => ∃ v, e = .returned v ∧ Rows.fnVersionHasSpec.post enc Tryd.prog Tryd.f3 false true false false W args v W' := by
  have hW0 := hW
  have hW1 := hW0
  obtain ⟨p, q, hA0, hV, rfl, _, _⟩ := hW1
  have hA : DataW.TrodAll enc Tryd.prog W 0 (fun _ => true) true [2, 2] args.toList ds p := hA0
  obtain ⟨g0, g1, rfl⟩ : ∃ g0 g1, gs = [g0, g1] := vars_two hV
  obtain ⟨v0, vs0, d0, ds0, p0, q0, hargs0, hds0, _, h0, r0⟩ := trodAll_cons hA
  obtain ⟨v1, vs1, d1, ds1, p1, q1, hargs1, hds1, _, h1, r1⟩ := trodAll_cons r0
  obtain ⟨hargsN, hdsN, _⟩ := trodAll_nil r1
  obtain rfl : args = #[v0, v1] := by
    apply Array.toList_inj.1
    rw [hargs0, hargs1, hargsN]
  obtain rfl : ds = [d0, d1] := by rw [hds0, hds1, hdsN]
  have e0 := Rd.of_trod h0
  have k0 := hval 0 2 v0 (by rfl) (by rfl)
  obtain ⟨x0, rfl⟩ := okWide_int Tryd.underlying2 k0
  obtain ⟨y0, z0, b0⟩ := Rd.int Tryd.underlying2 e0
  obtain rfl : x0 = y0 := by simpa [Value.cells] using z0
  have c0 := bd_i64 b0
  have e1 := Rd.of_trod h1
  have k1 := hval 1 2 v1 (by rfl) (by rfl)
  obtain ⟨x1, rfl⟩ := okWide_int Tryd.underlying2 k1
  obtain ⟨y1, z1, b1⟩ := Rd.int Tryd.underlying2 e1
  obtain rfl : x1 = y1 := by simpa [Value.cells] using z1
  have c1 := bd_i64 b1
  exact (fnVersionHas_any x0 x1 W c0 c1 hL).mono fun _ _ ⟨he, hb⟩ => ⟨_, he, post_of_law (tb := 4) Tryd.laidOut (by kernel_rfl) (by kernel_rfl) rfl Tryd.underlying4 hW0 hb rfl⟩

/-- A world for the witness: the settled one, the listed variables holding what their initialisers lay. -/
noncomputable def fnVersionHas_world (os : Os) : World := { World.holding Tryd.prog os ⟨#[], #[], []⟩ with heap := (((World.holding Tryd.prog os ⟨#[], #[], []⟩).heap.modify 0 (fun | .cells _ t frozen => .cells #[.int .u32 1, .int .u32 0, .int .u32 0, .int .u32 2, .int .u32 0, .int .u32 3, .int .u32 4, .int .u32 5] t frozen | o => o)).modify 1 (fun | .cells _ t frozen => .cells #[.int .u32 0, .int .u32 2, .int .u32 2, .int .u32 0, .int .u32 2, .int .u32 0, .int .u32 0, .int .u32 0] t frozen | o => o)) }
theorem fnVersionHas_laidMet (os : Os) : laidMet Tryd.prog Rows.fnVersionHasRow.laid ((fnVersionHas_world os).forCall (fun _ _ => 0) ⟨#[], #[.int .i64 0, .int .i64 0], []⟩).memory :=
  laidMet_of_run' 8 (by kernel_rfl) (by kernel_rfl)
theorem fnVersionHas_reads (os : Os) {H : Type} (enc : TypeId × Value → H) : ∃ places, DataW.whole enc Tryd.prog ((fnVersionHas_world os).forCall (fun _ _ => 0) ⟨#[], #[.int .i64 0, .int .i64 0], []⟩).memory Tryd.f3.params.toList Rows.fnVersionHasSpec.vars false (#[.int .i64 0, .int .i64 0] : Array Value).toList 8 = some ([.lit (.int .i64 0), .lit (.int .i64 0)], [.agg [.lit (.int .u32 1), .lit (.int .u32 0), .lit (.int .u32 0), .lit (.int .u32 2), .lit (.int .u32 0), .lit (.int .u32 3), .lit (.int .u32 4), .lit (.int .u32 5)], .agg [.lit (.int .u32 0), .lit (.int .u32 2), .lit (.int .u32 2), .lit (.int .u32 0), .lit (.int .u32 2), .lit (.int .u32 0), .lit (.int .u32 0), .lit (.int .u32 0)]], places) :=
  ⟨MemPlace.row ⟨0, 0, none⟩ 8 ++ MemPlace.row ⟨1, 0, none⟩ 8, by kernel_rfl⟩
set_option maxRecDepth 100000 in
theorem fnVersionHas_lifted (os : Os) (started : os.Started) (H : Type) (enc : TypeId × Value → H) (F : Stop.Interp) :
    ReturnsInHanded {} Tryd.checked os 3 .any ((OpenSpec.ofChange Rows.fnVersionHasSpec).preRow enc Tryd.prog Tryd.f3 Rows.fnVersionHasRow.domain false Rows.fnVersionHasRow.laid) (((OpenSpec.ofChange Rows.fnVersionHasSpec).at F).post enc Tryd.prog Tryd.f3 false true false false) := by
  obtain ⟨places, hx⟩ := fnVersionHas_reads os enc
  refine returnsInHanded_of_row (C := Tryd.checked) (s := OpenSpec.ofChange Rows.fnVersionHasSpec) Tryd.own started (by kernel_rfl) Tryd.func3
    (witness_row_at (enc := enc) (C := Tryd.checked) false (fnVersionHas_world os) #[.int .i64 0, .int .i64 0] rfl (by kernel_rfl) (by kernel_rfl) (by kernel_rfl)
      (OpenSpec.preRow_of_cond 8 hx (by kernel_rfl) (fun k hk => by cases hk) (by kernel_rfl) (fnVersionHas_laidMet os))) ?_
  intro W base args ds gs before hval hW _ _ _ hL _ _
  exact fnVersionHas_contract H enc W base args ds gs before hval hW hL

theorem fnVersionHas_holds : Rows.FnVersionHasSaid :=
  OpenClaim.holds_of_cond 3 Tryd.f3 rfl rfl rfl rfl rfl rfl rfl ⟨rfl, rfl, rfl, rfl, rfl⟩ rfl rfl rfl rfl rfl (by kernel_rfl) Tryd.func3 (by kernel_rfl)
    (of_decide_eq_true (by kernel_rfl)) (by unfold Func.isWrapper; rw [if_neg (of_decide_eq_false (by kernel_rfl))]; exact ⟨rfl, rfl⟩)
    (fun os started H enc _ F => by rw [OpenClaim.pre_eq_preRow]; exact fnVersionHas_lifted os started H enc F)

theorem fnVersionHas_plain (f : FuncId) (fn : Func) (hf : Tryd.pinned.checked.prog.funcNamed "loop.example/pub-g01454/laws.FnVersionHas" = some f) (hfn : Tryd.pinned.checked.prog.funcs[f]? = some fn) :
    false = Tryd.pinned.checked.prog.looks [] ∧ ∀ (j : Nat) t, fn.params[j]? = some t → Tryd.pinned.checked.prog.wantsStandIn t = false := by
  obtain rfl : f = 3 := Option.some.inj ((show Tryd.prog.funcNamed "loop.example/pub-g01454/laws.FnVersionHas" = some 3 by kernel_rfl).symm.trans hf) |>.symm
  obtain rfl : fn = Tryd.f3 := (Option.some.inj (Tryd.func3.symm.trans hfn)).symm
  refine ⟨by kernel_rfl, fun j t ht => ?_⟩
  rw [show Tryd.f3.params = #[2, 2] by kernel_rfl] at ht
  have hm := Array.mem_of_getElem? ht
  simp only [List.mem_toArray, List.mem_cons, List.not_mem_nil, or_false] at hm
  rcases hm with rfl | rfl
  · exact (show Tryd.prog.wantsStandIn 2 = false by kernel_rfl)
  · exact (show Tryd.prog.wantsStandIn 2 = false by kernel_rfl)

/-- FnVersionHas: the tied card holds: the given statement. -/
theorem fnVersionHas_card : Rows.FnVersionHasCardSaid :=
  Claim7.holds_tied_plain_at .later [] _ _ _ _ fnVersionHas_holds (fun _ h => by cases h) (by kernel_rfl) (fun _ h => by cases h) fnVersionHas_row_tie rfl ⟨rfl, rfl⟩ (by kernel_rfl) rfl fnVersionHas_plain (by kernel_rfl)

end Go.Proofs.YtnnhdoocklaeoaaDoor
