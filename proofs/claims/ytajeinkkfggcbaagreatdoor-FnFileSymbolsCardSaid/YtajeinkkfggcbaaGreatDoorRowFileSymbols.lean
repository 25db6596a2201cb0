/- The tied cards of laws, out of their walks (printed by doorgen.py). -/
import Derived.Test.YtajeinkkfggcbaaGreatDoorFl13
import Derived.Test.YtajeinkkfggcbaaGreatDoorOpen
import Derived.Test.YtajeinkkfggcbaaGreatDoorCards
import Derived.Test.YtajeinkkfggcbaaGreatDoorTie
import Derived.Deep.DeepHandedRow
import Derived.Lib.LaidTab
import Derived.Test.YtajeinkkfggcbaaGreatDoorFacts
namespace Go.Proofs.YtajeinkkfggcbaaGreatDoor
open Go.ChangeShapes Go.WideShapes Go.ChangeAt Go.RowKit

set_option maxRecDepth 10000 in
theorem fnFileSymbols_contract (H : Type) (enc : TypeId × Value → H) (W : World) (base : Nat) (args : Array Value) (ds gs : List (DataW H)) (before : List MemPlace)
    (hval : ∀ (j : Nat) t v, Tryz.f3.params[j]? = some t → args[j]? = some v → Value.okWide Tryz.prog W .any base t v)
    (hW : DataW.Whole enc Tryz.prog Tryz.f3.params.toList Rows.fnFileSymbolsSpec.vars false W args.toList ds gs before) (_ : laidMetH Tryz.prog Rows.fnFileSymbolsRow.laid W) :
    Calls Tryz.prog 3 args W fun e W' => ∃ v, e = .returned v ∧ Rows.fnFileSymbolsSpec.post enc Tryz.prog Tryz.f3 false true false false W args v W' := by
  have hW0 := hW
  have hW1 := hW0
  obtain ⟨p, q, hA0, hV, rfl, _, _⟩ := hW1
  have hA : DataW.TrodAll enc Tryz.prog W 0 (fun _ => true) true [33] args.toList ds p := hA0
  obtain ⟨rfl, rfl⟩ := trodVars_none hV
  obtain ⟨v0, vs0, d0, ds0, p0, q0, hargs0, hds0, _, h0, r0⟩ := trodAll_cons hA
  obtain ⟨hargsN, hdsN, _⟩ := trodAll_nil r0
  obtain rfl : args = #[v0] := by
    apply Array.toList_inj.1
    rw [hargs0, hargsN]
  obtain rfl : ds = [d0] := by rw [hds0, hdsN]
  have e0 := Rd.of_trod h0
  have k0 := hval 0 33 v0 (by rfl) (by rfl)
  obtain ⟨cs0, rfl, _⟩ := okWide_struct Tryz.underlying33 k0
  rw [cells_agg] at e0
  obtain ⟨x0_0, x0_1, x0_2, x0_3, x0_4, x0_5, x0_6, x0_7, x0_8, x0_9, x0_10, x0_11, x0_12, x0_13, x0_14, x0_15, x0_16, x0_17, x0_18, x0_19, x0_20, z0, b0_0, b0_1, b0_2, b0_3, b0_4, b0_5, b0_6, b0_7, b0_8, b0_9, b0_10, b0_11, b0_12, b0_13, b0_14, b0_15, b0_16, b0_17, b0_18, b0_19, b0_20⟩ := open_impl_File e0
  obtain rfl : cs0 = #[.int .u8 x0_0, .int .u8 x0_1, .int .u8 x0_2, .int .u8 x0_3, .int .u8 x0_4, .int .u8 x0_5, .int .u8 x0_6, .int .u8 x0_7, .int .u32 x0_8, x0_9, x0_10, x0_11, x0_12, x0_13, x0_14, x0_15, x0_16, x0_17, x0_18, x0_19, x0_20] := by apply Array.toList_inj.1; rw [z0]
  exact (fnFileSymbols_any x0_0 x0_1 x0_2 x0_3 x0_4 x0_5 x0_6 x0_7 x0_8 x0_9 x0_10 x0_11 x0_12 x0_13 x0_14 x0_15 x0_16 x0_17 x0_18 x0_19 x0_20 W b0_0 b0_1 b0_2 b0_3 b0_4 b0_5 b0_6 b0_7 b0_8 b0_9 b0_10 b0_11 b0_12 b0_13 b0_14 b0_15 b0_16 b0_17 b0_18 b0_19 b0_20).mono fun _ _ ⟨he, hb⟩ => ⟨_, he, post_of_law (tb := 4) Tryz.laidOut (by kernel_rfl) (by kernel_rfl) rfl Tryz.underlying4 hW0 hb rfl⟩

/-- A world for the witness: the settled one, the listed variables holding what their initialisers lay. -/
noncomputable def fnFileSymbols_world (os : Os) : World := { World.holding Tryz.prog os ⟨#[.cells #[.string ⟨#[98, 121, 116, 101, 115, 46, 66, 117, 102, 102, 101, 114, 58, 32, 116, 111, 111, 32, 108, 97, 114, 103, 101]⟩] 175], #[], []⟩ with heap := ((World.holding Tryz.prog os ⟨#[.cells #[.string ⟨#[98, 121, 116, 101, 115, 46, 66, 117, 102, 102, 101, 114, 58, 32, 116, 111, 111, 32, 108, 97, 114, 103, 101]⟩] 175], #[], []⟩).heap.modify 0 (fun | .cells _ t frozen => .cells #[.iface 173 (.pointer (some ⟨(World.settled Tryz.prog os).heap.size, 0, none⟩))] t frozen | o => o)) }
theorem fnFileSymbols_laidMet (os : Os) : laidMet Tryz.prog Rows.fnFileSymbolsRow.laid ((fnFileSymbols_world os).forCall (fun _ _ => 0) ⟨#[], #[.agg #[.int .u8 0, .int .u8 0, .int .u8 0, .int .u8 0, .int .u8 0, .int .u8 0, .int .u8 0, .int .u8 0, .int .u32 0, .slice none 0 0, .slice none 0 0, .slice none 0 0, .slice none 0 0, .slice none 0 0, .slice none 0 0, .slice none 0 0, .slice none 0 0, .slice none 0 0, .slice none 0 0, .slice none 0 0, .slice none 0 0]], []⟩).memory :=
  laidMet_of_run' 8 (by kernel_rfl) (by kernel_rfl)
theorem fnFileSymbols_reads (os : Os) {H : Type} (enc : TypeId × Value → H) : ∃ places, DataW.whole enc Tryz.prog ((fnFileSymbols_world os).forCall (fun _ _ => 0) ⟨#[], #[.agg #[.int .u8 0, .int .u8 0, .int .u8 0, .int .u8 0, .int .u8 0, .int .u8 0, .int .u8 0, .int .u8 0, .int .u32 0, .slice none 0 0, .slice none 0 0, .slice none 0 0, .slice none 0 0, .slice none 0 0, .slice none 0 0, .slice none 0 0, .slice none 0 0, .slice none 0 0, .slice none 0 0, .slice none 0 0, .slice none 0 0]], []⟩).memory Tryz.f3.params.toList Rows.fnFileSymbolsSpec.vars false (#[.agg #[.int .u8 0, .int .u8 0, .int .u8 0, .int .u8 0, .int .u8 0, .int .u8 0, .int .u8 0, .int .u8 0, .int .u32 0, .slice none 0 0, .slice none 0 0, .slice none 0 0, .slice none 0 0, .slice none 0 0, .slice none 0 0, .slice none 0 0, .slice none 0 0, .slice none 0 0, .slice none 0 0, .slice none 0 0, .slice none 0 0]] : Array Value).toList 8 = some ([.agg [.agg [.lit (.int .u8 0), .lit (.int .u8 0), .lit (.int .u8 0), .lit (.int .u8 0), .lit (.int .u8 0), .lit (.int .u8 0), .lit (.int .u8 0), .lit (.int .u8 0)], .lit (.int .u32 0), .nil, .nil, .nil, .nil, .nil, .nil, .nil, .nil, .nil, .nil, .nil, .nil]], [], places) :=
  ⟨[], by kernel_rfl⟩
set_option maxRecDepth 100000 in
theorem fnFileSymbols_lifted (os : Os) (started : os.Started) (H : Type) (enc : TypeId × Value → H) (F : Stop.Interp) :
    ReturnsInHanded {} Tryz.checked os 3 .any ((OpenSpec.ofChange Rows.fnFileSymbolsSpec).preRow enc Tryz.prog Tryz.f3 Rows.fnFileSymbolsRow.domain false Rows.fnFileSymbolsRow.laid) (((OpenSpec.ofChange Rows.fnFileSymbolsSpec).at F).post enc Tryz.prog Tryz.f3 false true false false) := by
  obtain ⟨places, hx⟩ := fnFileSymbols_reads os enc
  refine returnsInHanded_of_row (C := Tryz.checked) (s := OpenSpec.ofChange Rows.fnFileSymbolsSpec) Tryz.own started (by kernel_rfl) Tryz.func3
    (witness_row_at (enc := enc) (C := Tryz.checked) false (fnFileSymbols_world os) #[.agg #[.int .u8 0, .int .u8 0, .int .u8 0, .int .u8 0, .int .u8 0, .int .u8 0, .int .u8 0, .int .u8 0, .int .u32 0, .slice none 0 0, .slice none 0 0, .slice none 0 0, .slice none 0 0, .slice none 0 0, .slice none 0 0, .slice none 0 0, .slice none 0 0, .slice none 0 0, .slice none 0 0, .slice none 0 0, .slice none 0 0]] rfl (by kernel_rfl) (by kernel_rfl) (by kernel_rfl)
      (OpenSpec.preRow_of_cond 8 hx (by kernel_rfl) (fun k hk => by cases hk) (by kernel_rfl) (fnFileSymbols_laidMet os))) ?_
  intro W base args ds gs before hval hW _ _ _ hL _ _
  exact fnFileSymbols_contract H enc W base args ds gs before hval hW hL

set_option maxHeartbeats 8000000 in
theorem fnFileSymbols_closed : joinedFacts Tryz.prog 3 Tryz.f3 (OpenSpec.ofChange Rows.fnFileSymbolsSpec).bare Rows.fnFileSymbolsRow = true := by
  unfold joinedFacts
  repeat (refine band_true ?_ ?_)
  all_goals first | (with_reducible exact Tryz.stopsHeard_) | (with_reducible exact Tryz.mayEnter_) | (with_reducible exact Tryz.laidOut) | (with_reducible exact Tryz.mapsRowed_) | (with_reducible refine Tryz.lifted_ _ ?_; rfl) | (as_aux_lemma => kernel_rfl)
theorem fnFileSymbols_holds : Rows.FnFileSymbolsSaid :=
  OpenClaim.holds_of_cond 3 Tryz.f3 rfl rfl rfl rfl rfl rfl rfl ⟨rfl, rfl, rfl, rfl, rfl⟩ rfl rfl rfl rfl rfl (by as_aux_lemma => kernel_rfl) Tryz.func3 fnFileSymbols_closed
    (of_decide_eq_true (by as_aux_lemma => kernel_rfl)) (by unfold Func.isWrapper; rw [if_neg (of_decide_eq_false (by as_aux_lemma => kernel_rfl))]; exact ⟨rfl, rfl⟩)
    (fun os started H enc _ F => by rw [OpenClaim.pre_eq_preRow]; exact fnFileSymbols_lifted os started H enc F)

theorem fnFileSymbols_plain (f : FuncId) (fn : Func) (hf : Tryz.pinned.checked.prog.funcNamed "loop.example/pub-g01454/laws.FnFileSymbols" = some f) (hfn : Tryz.pinned.checked.prog.funcs[f]? = some fn) :
    false = Tryz.pinned.checked.prog.looks [] ∧ ∀ (j : Nat) t, fn.params[j]? = some t → Tryz.pinned.checked.prog.wantsStandIn t = false := by
  obtain rfl : f = 3 := Option.some.inj ((show Tryz.prog.funcNamed "loop.example/pub-g01454/laws.FnFileSymbols" = some 3 by kernel_rfl).symm.trans hf) |>.symm
  obtain rfl : fn = Tryz.f3 := (Option.some.inj (Tryz.func3.symm.trans hfn)).symm
  refine ⟨by kernel_rfl, fun j t ht => ?_⟩
  rw [show Tryz.f3.params = #[33] by kernel_rfl] at ht
  have hm := Array.mem_of_getElem? ht
  simp only [List.mem_toArray, List.mem_cons, List.not_mem_nil, or_false] at hm
  subst hm
  exact (show Tryz.prog.wantsStandIn 33 = false by kernel_rfl)

/-- FnFileSymbols: the tied card holds: the given statement. -/
theorem fnFileSymbols_card : Rows.FnFileSymbolsCardSaid :=
  Claim7.holds_tied_plain_at .later [] _ _ _ _ fnFileSymbols_holds (fun _ h => by cases h) (by kernel_rfl) (fun _ h => by cases h) fnFileSymbols_row_tie rfl ⟨rfl, rfl⟩ (by kernel_rfl) rfl fnFileSymbols_plain (by kernel_rfl)

end Go.Proofs.YtajeinkkfggcbaaGreatDoor
