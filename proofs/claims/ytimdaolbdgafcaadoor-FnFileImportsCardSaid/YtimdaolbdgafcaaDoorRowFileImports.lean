/- The tied cards of laws, out of their walks (printed by doorgen.py). -/
import Derived.Test.YtimdaolbdgafcaaDoorFl10
import Derived.Test.YtimdaolbdgafcaaDoorOpen
import Derived.Test.YtimdaolbdgafcaaDoorCards
import Derived.Test.YtimdaolbdgafcaaDoorTie
import Derived.Deep.DeepHandedRow
import Derived.Lib.LaidTab
import Derived.Test.YtimdaolbdgafcaaDoorFacts
namespace Go.Proofs.YtimdaolbdgafcaaDoor
open Go.ChangeShapes Go.WideShapes Go.ChangeAt Go.RowKit

set_option maxRecDepth 10000 in
theorem fnFileImports_contract (H : Type) (enc : TypeId × Value → H) (W : World) (base : Nat) (args : Array Value) (ds gs : List (DataW H)) (before : List MemPlace)
    (hval : ∀ (j : Nat) t v, Tryd.f12.params[j]? = some t → args[j]? = some v → Value.okWide Tryd.prog W .any base t v)
    (hW : DataW.Whole enc Tryd.prog Tryd.f12.params.toList Rows.fnFileImportsSpec.vars false W args.toList ds gs before) (_ : laidMetH Tryd.prog Rows.fnFileImportsRow.laid W) :
    Calls Tryd.prog 12 args W fun e W' => ∃ v, e = .returned v ∧ Rows.fnFileImportsSpec.post enc Tryd.prog Tryd.f12 false true false false W args v W' := by
  have hW0 := hW
  have hW1 := hW0
  obtain ⟨p, q, hA0, hV, rfl, _, _⟩ := hW1
  have hA : DataW.TrodAll enc Tryd.prog W 0 (fun _ => true) true [33] args.toList ds p := hA0
  obtain ⟨rfl, rfl⟩ := trodVars_none hV
  obtain ⟨v0, vs0, d0, ds0, p0, q0, hargs0, hds0, _, h0, r0⟩ := trodAll_cons hA
  obtain ⟨hargsN, hdsN, _⟩ := trodAll_nil r0
  obtain rfl : args = #[v0] := by
    apply Array.toList_inj.1
    rw [hargs0, hargsN]
  obtain rfl : ds = [d0] := by rw [hds0, hdsN]
  have e0 := Rd.of_trod h0
  have k0 := hval 0 33 v0 (by rfl) (by rfl)
  obtain ⟨cs0, rfl, _⟩ := okWide_struct Tryd.underlying33 k0
  rw [cells_agg] at e0
  obtain ⟨x0_0, x0_1, x0_2, x0_3, x0_4, x0_5, x0_6, x0_7, x0_8, x0_9, x0_10, x0_11, x0_12, x0_13, x0_14, x0_15, x0_16, x0_17, x0_18, x0_19, x0_20, z0, b0_0, b0_1, b0_2, b0_3, b0_4, b0_5, b0_6, b0_7, b0_8, b0_9, b0_10, b0_11, b0_12, b0_13, b0_14, b0_15, b0_16, b0_17, b0_18, b0_19, b0_20⟩ := open_impl_File e0
  obtain rfl : cs0 = #[.int .u8 x0_0, .int .u8 x0_1, .int .u8 x0_2, .int .u8 x0_3, .int .u8 x0_4, .int .u8 x0_5, .int .u8 x0_6, .int .u8 x0_7, .int .u32 x0_8, x0_9, x0_10, x0_11, x0_12, x0_13, x0_14, x0_15, x0_16, x0_17, x0_18, x0_19, x0_20] := by apply Array.toList_inj.1; rw [z0]
  exact (fnFileImports_any x0_0 x0_1 x0_2 x0_3 x0_4 x0_5 x0_6 x0_7 x0_8 x0_9 x0_10 x0_11 x0_12 x0_13 x0_14 x0_15 x0_16 x0_17 x0_18 x0_19 x0_20 W b0_0 b0_1 b0_2 b0_3 b0_4 b0_5 b0_6 b0_7 b0_8 b0_9 b0_10 b0_11 b0_12 b0_13 b0_14 b0_15 b0_16 b0_17 b0_18 b0_19 b0_20).mono fun _ _ ⟨he, hb⟩ => ⟨_, he, post_of_law (tb := 4) Tryd.laidOut (by kernel_rfl) (by kernel_rfl) rfl Tryd.underlying4 hW0 hb rfl⟩

/-- A world for the witness: the settled one, the listed variables holding what their initialisers lay. -/
noncomputable def fnFileImports_world (os : Os) : World := { World.holding Tryd.prog os ⟨#[.cells #[.string ⟨#[98, 121, 116, 101, 115, 46, 66, 117, 102, 102, 101, 114, 58, 32, 116, 111, 111, 32, 108, 97, 114, 103, 101]⟩] 215], #[], []⟩ with heap := ((World.holding Tryd.prog os ⟨#[.cells #[.string ⟨#[98, 121, 116, 101, 115, 46, 66, 117, 102, 102, 101, 114, 58, 32, 116, 111, 111, 32, 108, 97, 114, 103, 101]⟩] 215], #[], []⟩).heap.modify 0 (fun | .cells _ t frozen => .cells #[.iface 213 (.pointer (some ⟨(World.settled Tryd.prog os).heap.size, 0, none⟩))] t frozen | o => o)) }
theorem fnFileImports_laidMet (os : Os) : laidMet Tryd.prog Rows.fnFileImportsRow.laid ((fnFileImports_world os).forCall (fun _ _ => 0) ⟨#[], #[.agg #[.int .u8 0, .int .u8 0, .int .u8 0, .int .u8 0, .int .u8 0, .int .u8 0, .int .u8 0, .int .u8 0, .int .u32 0, .slice none 0 0, .slice none 0 0, .slice none 0 0, .slice none 0 0, .slice none 0 0, .slice none 0 0, .slice none 0 0, .slice none 0 0, .slice none 0 0, .slice none 0 0, .slice none 0 0, .slice none 0 0]], []⟩).memory :=
  laidMet_of_run' 8 (by kernel_rfl) (by kernel_rfl)
theorem fnFileImports_reads (os : Os) {H : Type} (enc : TypeId × Value → H) : ∃ places, DataW.whole enc Tryd.prog ((fnFileImports_world os).forCall (fun _ _ => 0) ⟨#[], #[.agg #[.int .u8 0, .int .u8 0, .int .u8 0, .int .u8 0, .int .u8 0, .int .u8 0, .int .u8 0, .int .u8 0, .int .u32 0, .slice none 0 0, .slice none 0 0, .slice none 0 0, .slice none 0 0, .slice none 0 0, .slice none 0 0, .slice none 0 0, .slice none 0 0, .slice none 0 0, .slice none 0 0, .slice none 0 0, .slice none 0 0]], []⟩).memory Tryd.f12.params.toList Rows.fnFileImportsSpec.vars false (#[.agg #[.int .u8 0, .int .u8 0, .int .u8 0, .int .u8 0, .int .u8 0, .int .u8 0, .int .u8 0, .int .u8 0, .int .u32 0, .slice none 0 0, .slice none 0 0, .slice none 0 0, .slice none 0 0, .slice none 0 0, .slice none 0 0, .slice none 0 0, .slice none 0 0, .slice none 0 0, .slice none 0 0, .slice none 0 0, .slice none 0 0]] : Array Value).toList 8 = some ([.agg [.agg [.lit (.int .u8 0), .lit (.int .u8 0), .lit (.int .u8 0), .lit (.int .u8 0), .lit (.int .u8 0), .lit (.int .u8 0), .lit (.int .u8 0), .lit (.int .u8 0)], .lit (.int .u32 0), .nil, .nil, .nil, .nil, .nil, .nil, .nil, .nil, .nil, .nil, .nil, .nil]], [], places) :=
  ⟨[], by kernel_rfl⟩
set_option maxRecDepth 100000 in
theorem fnFileImports_lifted (os : Os) (started : os.Started) (H : Type) (enc : TypeId × Value → H) (F : Stop.Interp) :
    ReturnsInHanded {} Tryd.checked os 12 .any ((OpenSpec.ofChange Rows.fnFileImportsSpec).preRow enc Tryd.prog Tryd.f12 Rows.fnFileImportsRow.domain false Rows.fnFileImportsRow.laid) (((OpenSpec.ofChange Rows.fnFileImportsSpec).at F).post enc Tryd.prog Tryd.f12 false true false false) := by
  obtain ⟨places, hx⟩ := fnFileImports_reads os enc
  refine returnsInHanded_of_row (C := Tryd.checked) (s := OpenSpec.ofChange Rows.fnFileImportsSpec) Tryd.own started (by kernel_rfl) Tryd.func12
    (witness_row_at (enc := enc) (C := Tryd.checked) false (fnFileImports_world os) #[.agg #[.int .u8 0, .int .u8 0, .int .u8 0, .int .u8 0, .int .u8 0, .int .u8 0, .int .u8 0, .int .u8 0, .int .u32 0, .slice none 0 0, .slice none 0 0, .slice none 0 0, .slice none 0 0, .slice none 0 0, .slice none 0 0, .slice none 0 0, .slice none 0 0, .slice none 0 0, .slice none 0 0, .slice none 0 0, .slice none 0 0]] rfl (by kernel_rfl) (by kernel_rfl) (by kernel_rfl)
      (OpenSpec.preRow_of_cond 8 hx (by kernel_rfl) (fun k hk => by cases hk) (by kernel_rfl) (fnFileImports_laidMet os))) ?_
  intro W base args ds gs before hval hW _ _ _ hL _ _
  exact fnFileImports_contract H enc W base args ds gs before hval hW hL

set_option maxHeartbeats 8000000 in
theorem fnFileImports_closed : joinedFacts Tryd.prog 12 Tryd.f12 (OpenSpec.ofChange Rows.fnFileImportsSpec).bare Rows.fnFileImportsRow = true := by
  unfold joinedFacts
  repeat (refine band_true ?_ ?_)
  all_goals first | (with_reducible exact Tryd.stopsHeard_) | (with_reducible exact Tryd.mayEnter_) | (with_reducible exact Tryd.laidOut) | (with_reducible exact Tryd.mapsRowed_) | (with_reducible refine Tryd.lifted_ _ ?_; rfl) | (as_aux_lemma => kernel_rfl)
theorem fnFileImports_holds : Rows.FnFileImportsSaid :=
  OpenClaim.holds_of_cond 12 Tryd.f12 rfl rfl rfl rfl rfl rfl rfl ⟨rfl, rfl, rfl, rfl, rfl⟩ rfl rfl rfl rfl rfl (by as_aux_lemma => kernel_rfl) Tryd.func12 fnFileImports_closed
    (of_decide_eq_true (by as_aux_lemma => kernel_rfl)) (by unfold Func.isWrapper; rw [if_neg (of_decide_eq_false (by as_aux_lemma => kernel_rfl))]; exact ⟨rfl, rfl⟩)
    (fun os started H enc _ F => by rw [OpenClaim.pre_eq_preRow]; exact fnFileImports_lifted os started H enc F)

theorem fnFileImports_plain (f : FuncId) (fn : Func) (hf : Tryd.pinned.checked.prog.funcNamed "loop.example/pub-g01454/laws.FnFileImports" = some f) (hfn : Tryd.pinned.checked.prog.funcs[f]? = some fn) :
    false = Tryd.pinned.checked.prog.looks [] ∧ ∀ (j : Nat) t, fn.params[j]? = some t → Tryd.pinned.checked.prog.wantsStandIn t = false := by
  obtain rfl : f = 12 := Option.some.inj ((show Tryd.prog.funcNamed "loop.example/pub-g01454/laws.FnFileImports" = some 12 by kernel_rfl).symm.trans hf) |>.symm
  obtain rfl : fn = Tryd.f12 := (Option.some.inj (Tryd.func12.symm.trans hfn)).symm
  refine ⟨by kernel_rfl, fun j t ht => ?_⟩
  rw [show Tryd.f12.params = #[33] by kernel_rfl] at ht
  have hm := Array.mem_of_getElem? ht
  simp only [List.mem_toArray, List.mem_cons, List.not_mem_nil, or_false] at hm
  subst hm
  exact (show Tryd.prog.wantsStandIn 33 = false by kernel_rfl)

/-- FnFileImports: the tied card holds: the given statement. -/
theorem fnFileImports_card : Rows.FnFileImportsCardSaid :=
  Claim7.holds_tied_plain_at .later [] _ _ _ _ fnFileImports_holds (fun _ h => by cases h) (by kernel_rfl) (fun _ h => by cases h) fnFileImports_row_tie rfl ⟨rfl, rfl⟩ (by kernel_rfl) rfl fnFileImports_plain (by kernel_rfl)

end Go.Proofs.YtimdaolbdgafcaaDoor
