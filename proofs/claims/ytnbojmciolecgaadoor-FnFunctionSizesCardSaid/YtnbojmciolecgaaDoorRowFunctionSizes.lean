/- The tied cards of laws, out of their walks (printed by doorgen.py). -/
import Derived.Test.YtnbojmciolecgaaDoorFunL
import Derived.Test.YtnbojmciolecgaaDoorOpen
import Derived.Test.YtnbojmciolecgaaDoorCards
import Derived.Test.YtnbojmciolecgaaDoorTie
import Derived.Deep.DeepHandedRow
import Derived.Lib.LaidTab
namespace Go.Proofs.YtnbojmciolecgaaDoor
open Go.ChangeShapes Go.WideShapes Go.ChangeAt Go.RowKit

theorem Tryd.own : ownKnob Tryd.prog.godebug = none := by kernel_rfl
theorem Tryd.laidOut : laidOutB Tryd.prog = true := by kernel_rfl

set_option maxRecDepth 10000 in
theorem fnFunctionSizes_contract (H : Type) (enc : TypeId × Value → H) (W : World) (base : Nat) (args : Array Value) (ds gs : List (DataW H)) (before : List MemPlace)
    (hval : ∀ (j : Nat) t v, Tryd.f11.params[j]? = some t → args[j]? = some v → Value.okWide Tryd.prog W .any base t v)
    (hW : DataW.Whole enc Tryd.prog Tryd.f11.params.toList Rows.fnFunctionSizesSpec.vars false W args.toList ds gs before) (_ : laidMetH Tryd.prog Rows.fnFunctionSizesRow.laid W) :
    Calls Tryd.prog 11 args W fun e W' => ∃ v, e = .returned v ∧ Rows.fnFunctionSizesSpec.post enc Tryd.prog Tryd.f11 false true false false W args v W' := by
  have hW0 := hW
  have hW1 := hW0
  obtain ⟨p, q, hA0, hV, rfl, _, _⟩ := hW1
  have hA : DataW.TrodAll enc Tryd.prog W 0 (fun _ => true) true [52] args.toList ds p := hA0
  obtain ⟨rfl, rfl⟩ := trodVars_none hV
  obtain ⟨v0, vs0, d0, ds0, p0, q0, hargs0, hds0, _, h0, r0⟩ := trodAll_cons hA
  obtain ⟨hargsN, hdsN, _⟩ := trodAll_nil r0
  obtain rfl : args = #[v0] := by
    apply Array.toList_inj.1
    rw [hargs0, hargsN]
  obtain rfl : ds = [d0] := by rw [hds0, hdsN]
  have e0 := Rd.of_trod h0
  have k0 := hval 0 52 v0 (by rfl) (by rfl)
  obtain ⟨cs0, rfl, _⟩ := okWide_struct Tryd.underlying52 k0
  rw [cells_agg] at e0
  obtain ⟨x0_0, x0_1, x0_2, x0_3, x0_4, x0_5, x0_6, z0, b0_0, b0_1, b0_2, b0_3, b0_4, b0_5, b0_6⟩ := open_impl_Function e0
  obtain rfl : cs0 = #[.int .u32 x0_0, .int .u32 x0_1, .int .u8 x0_2, .int .u8 x0_3, .int .i32 x0_4, x0_5, x0_6] := by apply Array.toList_inj.1; rw [z0]
  exact (fnFunctionSizes_any x0_0 x0_1 x0_2 x0_3 x0_4 x0_5 x0_6 W b0_0 b0_1 b0_2 b0_3 b0_4 b0_5 b0_6).mono fun _ _ ⟨he, hb⟩ => ⟨_, he, post_of_law (tb := 4) Tryd.laidOut (by kernel_rfl) (by kernel_rfl) rfl Tryd.underlying4 hW0 hb rfl⟩

/-- A world for the witness: the settled one, the listed variables holding what their initialisers lay. -/
noncomputable def fnFunctionSizes_world (os : Os) : World := { World.holding Tryd.prog os ⟨#[.cells #[.string ⟨#[98, 121, 116, 101, 115, 46, 66, 117, 102, 102, 101, 114, 58, 32, 116, 111, 111, 32, 108, 97, 114, 103, 101]⟩] 176], #[], []⟩ with heap := ((World.holding Tryd.prog os ⟨#[.cells #[.string ⟨#[98, 121, 116, 101, 115, 46, 66, 117, 102, 102, 101, 114, 58, 32, 116, 111, 111, 32, 108, 97, 114, 103, 101]⟩] 176], #[], []⟩).heap.modify 0 (fun | .cells _ t frozen => .cells #[.iface 158 (.pointer (some ⟨(World.settled Tryd.prog os).heap.size, 0, none⟩))] t frozen | o => o)) }
theorem fnFunctionSizes_laidMet (os : Os) : laidMet Tryd.prog Rows.fnFunctionSizesRow.laid ((fnFunctionSizes_world os).forCall (fun _ _ => 0) ⟨#[], #[.agg #[.int .u32 0, .int .u32 0, .int .u8 0, .int .u8 0, .int .i32 0, .slice none 0 0, .slice none 0 0]], []⟩).memory :=
  laidMet_of_run' 8 (by kernel_rfl) (by kernel_rfl)
theorem fnFunctionSizes_reads (os : Os) {H : Type} (enc : TypeId × Value → H) : ∃ places, DataW.whole enc Tryd.prog ((fnFunctionSizes_world os).forCall (fun _ _ => 0) ⟨#[], #[.agg #[.int .u32 0, .int .u32 0, .int .u8 0, .int .u8 0, .int .i32 0, .slice none 0 0, .slice none 0 0]], []⟩).memory Tryd.f11.params.toList Rows.fnFunctionSizesSpec.vars false (#[.agg #[.int .u32 0, .int .u32 0, .int .u8 0, .int .u8 0, .int .i32 0, .slice none 0 0, .slice none 0 0]] : Array Value).toList 8 = some ([.agg [.lit (.int .u32 0), .lit (.int .u32 0), .lit (.int .u8 0), .lit (.int .u8 0), .lit (.int .i32 0), .nil, .nil]], [], places) :=
  ⟨[], by kernel_rfl⟩
set_option maxRecDepth 100000 in
theorem fnFunctionSizes_lifted (os : Os) (started : os.Started) (H : Type) (enc : TypeId × Value → H) (F : Stop.Interp) :
    ReturnsInHanded {} Tryd.checked os 11 .any ((OpenSpec.ofChange Rows.fnFunctionSizesSpec).preRow enc Tryd.prog Tryd.f11 Rows.fnFunctionSizesRow.domain false Rows.fnFunctionSizesRow.laid) (((OpenSpec.ofChange Rows.fnFunctionSizesSpec).at F).post enc Tryd.prog Tryd.f11 false true false false) := by
  obtain ⟨places, hx⟩ := fnFunctionSizes_reads os enc
  refine returnsInHanded_of_row (C := Tryd.checked) (s := OpenSpec.ofChange Rows.fnFunctionSizesSpec) Tryd.own started (by kernel_rfl) Tryd.func11
    (witness_row_at (enc := enc) (C := Tryd.checked) false (fnFunctionSizes_world os) #[.agg #[.int .u32 0, .int .u32 0, .int .u8 0, .int .u8 0, .int .i32 0, .slice none 0 0, .slice none 0 0]] rfl (by kernel_rfl) (by kernel_rfl) (by kernel_rfl)
      (OpenSpec.preRow_of_cond 8 hx (by kernel_rfl) (fun k hk => by cases hk) (by kernel_rfl) (fnFunctionSizes_laidMet os))) ?_
  intro W base args ds gs before hval hW _ _ _ hL _ _
  exact fnFunctionSizes_contract H enc W base args ds gs before hval hW hL

theorem fnFunctionSizes_holds : Rows.FnFunctionSizesSaid :=
  OpenClaim.holds_of_cond 11 Tryd.f11 rfl rfl rfl rfl rfl rfl rfl ⟨rfl, rfl, rfl, rfl, rfl⟩ rfl rfl rfl rfl rfl (by kernel_rfl) Tryd.func11 (by kernel_rfl)
    (of_decide_eq_true (by kernel_rfl)) (by unfold Func.isWrapper; rw [if_neg (of_decide_eq_false (by kernel_rfl))]; exact ⟨rfl, rfl⟩)
    (fun os started H enc _ F => by rw [OpenClaim.pre_eq_preRow]; exact fnFunctionSizes_lifted os started H enc F)

theorem fnFunctionSizes_plain (f : FuncId) (fn : Func) (hf : Tryd.pinned.checked.prog.funcNamed "loop.example/pub-g01454/laws.FnFunctionSizes" = some f) (hfn : Tryd.pinned.checked.prog.funcs[f]? = some fn) :
    false = Tryd.pinned.checked.prog.looks [] ∧ ∀ (j : Nat) t, fn.params[j]? = some t → Tryd.pinned.checked.prog.wantsStandIn t = false := by
  obtain rfl : f = 11 := Option.some.inj ((show Tryd.prog.funcNamed "loop.example/pub-g01454/laws.FnFunctionSizes" = some 11 by kernel_rfl).symm.trans hf) |>.symm
  obtain rfl : fn = Tryd.f11 := (Option.some.inj (Tryd.func11.symm.trans hfn)).symm
  refine ⟨by kernel_rfl, fun j t ht => ?_⟩
  rw [show Tryd.f11.params = #[52] by kernel_rfl] at ht
  have hm := Array.mem_of_getElem? ht
  simp only [List.mem_toArray, List.mem_cons, List.not_mem_nil, or_false] at hm
  subst hm
  exact (show Tryd.prog.wantsStandIn 52 = false by kernel_rfl)

/-- FnFunctionSizes: the tied card holds: the given statement. -/
theorem fnFunctionSizes_card : Rows.FnFunctionSizesCardSaid :=
  Claim7.holds_tied_plain_at .later [] _ _ _ _ fnFunctionSizes_holds (fun _ h => by cases h) (by kernel_rfl) (fun _ h => by cases h) fnFunctionSizes_row_tie rfl ⟨rfl, rfl⟩ (by kernel_rfl) rfl fnFunctionSizes_plain (by kernel_rfl)

end Go.Proofs.YtnbojmciolecgaaDoor
