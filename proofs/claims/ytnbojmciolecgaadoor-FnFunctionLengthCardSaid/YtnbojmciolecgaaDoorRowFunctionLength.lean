/- The tied cards of laws, out of their walks (printed by doorgen.py). -/
import Derived.Test.YtnbojmciolecgaaDoorFunQ
import Derived.Test.YtnbojmciolecgaaDoorOpen
import Derived.Test.YtnbojmciolecgaaDoorCards
import Derived.Test.YtnbojmciolecgaaDoorTie
import Derived.Deep.DeepHandedRow
import Derived.Lib.LaidTab
namespace Go.Proofs.YtnbojmciolecgaaDoor
open Go.ChangeShapes Go.WideShapes Go.ChangeAt Go.RowKit

theorem Tryd.own : ownKnob Tryd.prog.godebug = none := by kernel_rfl
theorem Tryd.laidOut : laidOutB Tryd.prog = true := by kernel_rfl

set_option maxRecDepth 10000 in
theorem fnFunctionLength_contract (H : Type) (enc : TypeId × Value → H) (W : World) (base : Nat) (args : Array Value) (ds gs : List (DataW H)) (before : List MemPlace)
    (hval : ∀ (j : Nat) t v, Tryd.f7.params[j]? = some t → args[j]? = some v → Value.okWide Tryd.prog W .any base t v)
    (hW : DataW.Whole enc Tryd.prog Tryd.f7.params.toList Rows.fnFunctionLengthSpec.vars false W args.toList ds gs before) (_ : laidMetH Tryd.prog Rows.fnFunctionLengthRow.laid W) :
    Calls Tryd.prog 7 args W fun e W' => ∃ v, e = .returned v ∧ Rows.fnFunctionLengthSpec.post enc Tryd.prog Tryd.f7 false true false false W args v W' := by
  have hW0 := hW
  have hW1 := hW0
  obtain ⟨p, q, hA0, hV, rfl, _, _⟩ := hW1
  have hA : DataW.TrodAll enc Tryd.prog W 0 (fun _ => true) true [52, 22, 43] args.toList ds p := hA0
  obtain ⟨rfl, rfl⟩ := trodVars_none hV
  obtain ⟨v0, vs0, d0, ds0, p0, q0, hargs0, hds0, _, h0, r0⟩ := trodAll_cons hA
  obtain ⟨v1, vs1, d1, ds1, p1, q1, hargs1, hds1, _, h1, r1⟩ := trodAll_cons r0
  obtain ⟨v2, vs2, d2, ds2, p2, q2, hargs2, hds2, _, h2, r2⟩ := trodAll_cons r1
  obtain ⟨hargsN, hdsN, _⟩ := trodAll_nil r2
  obtain rfl : args = #[v0, v1, v2] := by
    apply Array.toList_inj.1
    rw [hargs0, hargs1, hargs2, hargsN]
  obtain rfl : ds = [d0, d1, d2] := by rw [hds0, hds1, hds2, hdsN]
  have e0 := Rd.of_trod h0
  have k0 := hval 0 52 v0 (by rfl) (by rfl)
  obtain ⟨cs0, rfl, _⟩ := okWide_struct Tryd.underlying52 k0
  rw [cells_agg] at e0
  obtain ⟨x0_0, x0_1, x0_2, x0_3, x0_4, x0_5, x0_6, z0, b0_0, b0_1, b0_2, b0_3, b0_4, b0_5, b0_6⟩ := open_impl_Function e0
  obtain rfl : cs0 = #[.int .u32 x0_0, .int .u32 x0_1, .int .u8 x0_2, .int .u8 x0_3, .int .i32 x0_4, x0_5, x0_6] := by apply Array.toList_inj.1; rw [z0]
  have e1 := Rd.of_trod h1
  have k1 := hval 1 22 v1 (by rfl) (by rfl)
  obtain ⟨x1, rfl⟩ := okWide_int Tryd.underlying22 k1
  obtain ⟨y1, z1, b1⟩ := Rd.int Tryd.underlying22 e1
  obtain rfl : x1 = y1 := by simpa [Value.cells] using z1
  have c1 := bd_u32 b1
  have e2 := Rd.of_trod h2
  have k2 := hval 2 43 v2 (by rfl) (by rfl)
  obtain ⟨cs2, rfl, _⟩ := okWide_struct Tryd.underlying43 k2
  rw [cells_agg] at e2
  obtain ⟨x2_0, x2_1, x2_2, x2_3, x2_4, x2_5, z2, b2_0, b2_1, b2_2, b2_3, b2_4, b2_5⟩ := open_impl_Inlined e2
  obtain rfl : cs2 = #[.int .i32 x2_0, .int .u32 x2_1, .int .i32 x2_2, .int .u32 x2_3, .int .u32 x2_4, .int .i32 x2_5] := by apply Array.toList_inj.1; rw [z2]
  exact (fnFunctionLength_any x0_0 x0_1 x0_2 x0_3 x0_4 x0_5 x0_6 x1 x2_0 x2_1 x2_2 x2_3 x2_4 x2_5 W b0_0 b0_1 b0_2 b0_3 b0_4 b0_5 b0_6 c1 b2_0 b2_1 b2_2 b2_3 b2_4 b2_5).mono fun _ _ ⟨he, hb⟩ => ⟨_, he, post_of_law (tb := 4) Tryd.laidOut (by kernel_rfl) (by kernel_rfl) rfl Tryd.underlying4 hW0 hb rfl⟩

/-- A world for the witness: the settled one, the listed variables holding what their initialisers lay. -/
noncomputable def fnFunctionLength_world (os : Os) : World := { World.holding Tryd.prog os ⟨#[.cells #[.string ⟨#[98, 121, 116, 101, 115, 46, 66, 117, 102, 102, 101, 114, 58, 32, 116, 111, 111, 32, 108, 97, 114, 103, 101]⟩] 176], #[], []⟩ with heap := ((World.holding Tryd.prog os ⟨#[.cells #[.string ⟨#[98, 121, 116, 101, 115, 46, 66, 117, 102, 102, 101, 114, 58, 32, 116, 111, 111, 32, 108, 97, 114, 103, 101]⟩] 176], #[], []⟩).heap.modify 0 (fun | .cells _ t frozen => .cells #[.iface 158 (.pointer (some ⟨(World.settled Tryd.prog os).heap.size, 0, none⟩))] t frozen | o => o)) }
theorem fnFunctionLength_laidMet (os : Os) : laidMet Tryd.prog Rows.fnFunctionLengthRow.laid ((fnFunctionLength_world os).forCall (fun _ _ => 0) ⟨#[], #[.agg #[.int .u32 0, .int .u32 0, .int .u8 0, .int .u8 0, .int .i32 0, .slice none 0 0, .slice none 0 0], .int .u32 0, .agg #[.int .i32 0, .int .u32 0, .int .i32 0, .int .u32 0, .int .u32 0, .int .i32 0]], []⟩).memory :=
  laidMet_of_run' 8 (by kernel_rfl) (by kernel_rfl)
theorem fnFunctionLength_reads (os : Os) {H : Type} (enc : TypeId × Value → H) : ∃ places, DataW.whole enc Tryd.prog ((fnFunctionLength_world os).forCall (fun _ _ => 0) ⟨#[], #[.agg #[.int .u32 0, .int .u32 0, .int .u8 0, .int .u8 0, .int .i32 0, .slice none 0 0, .slice none 0 0], .int .u32 0, .agg #[.int .i32 0, .int .u32 0, .int .i32 0, .int .u32 0, .int .u32 0, .int .i32 0]], []⟩).memory Tryd.f7.params.toList Rows.fnFunctionLengthSpec.vars false (#[.agg #[.int .u32 0, .int .u32 0, .int .u8 0, .int .u8 0, .int .i32 0, .slice none 0 0, .slice none 0 0], .int .u32 0, .agg #[.int .i32 0, .int .u32 0, .int .i32 0, .int .u32 0, .int .u32 0, .int .i32 0]] : Array Value).toList 8 = some ([.agg [.lit (.int .u32 0), .lit (.int .u32 0), .lit (.int .u8 0), .lit (.int .u8 0), .lit (.int .i32 0), .nil, .nil], .lit (.int .u32 0), .agg [.lit (.int .i32 0), .lit (.int .u32 0), .lit (.int .i32 0), .agg [.lit (.int .u32 0), .lit (.int .u32 0)], .lit (.int .i32 0)]], [], places) :=
  ⟨[], by kernel_rfl⟩
set_option maxRecDepth 100000 in
theorem fnFunctionLength_lifted (os : Os) (started : os.Started) (H : Type) (enc : TypeId × Value → H) (F : Stop.Interp) :
    ReturnsInHanded {} Tryd.checked os 7 .any ((OpenSpec.ofChange Rows.fnFunctionLengthSpec).preRow enc Tryd.prog Tryd.f7 Rows.fnFunctionLengthRow.domain false Rows.fnFunctionLengthRow.laid) (((OpenSpec.ofChange Rows.fnFunctionLengthSpec).at F).post enc Tryd.prog Tryd.f7 false true false false) := by
  obtain ⟨places, hx⟩ := fnFunctionLength_reads os enc
  refine returnsInHanded_of_row (C := Tryd.checked) (s := OpenSpec.ofChange Rows.fnFunctionLengthSpec) Tryd.own started (by kernel_rfl) Tryd.func7
    (witness_row_at (enc := enc) (C := Tryd.checked) false (fnFunctionLength_world os) #[.agg #[.int .u32 0, .int .u32 0, .int .u8 0, .int .u8 0, .int .i32 0, .slice none 0 0, .slice none 0 0], .int .u32 0, .agg #[.int .i32 0, .int .u32 0, .int .i32 0, .int .u32 0, .int .u32 0, .int .i32 0]] rfl (by kernel_rfl) (by kernel_rfl) (by kernel_rfl)
      (OpenSpec.preRow_of_cond 8 hx (by kernel_rfl) (fun k hk => by cases hk) (by kernel_rfl) (fnFunctionLength_laidMet os))) ?_
  intro W base args ds gs before hval hW _ _ _ hL _ _
  exact fnFunctionLength_contract H enc W base args ds gs before hval hW hL

theorem fnFunctionLength_holds : Rows.FnFunctionLengthSaid :=
  OpenClaim.holds_of_cond 7 Tryd.f7 rfl rfl rfl rfl rfl rfl rfl ⟨rfl, rfl, rfl, rfl, rfl⟩ rfl rfl rfl rfl rfl (by kernel_rfl) Tryd.func7 (by kernel_rfl)
    (of_decide_eq_true (by kernel_rfl)) (by unfold Func.isWrapper; rw [if_neg (of_decide_eq_false (by kernel_rfl))]; exact ⟨rfl, rfl⟩)
    (fun os started H enc _ F => by rw [OpenClaim.pre_eq_preRow]; exact fnFunctionLength_lifted os started H enc F)

theorem fnFunctionLength_plain (f : FuncId) (fn : Func) (hf : Tryd.pinned.checked.prog.funcNamed "loop.example/pub-g01454/laws.FnFunctionLength" = some f) (hfn : Tryd.pinned.checked.prog.funcs[f]? = some fn) :
    false = Tryd.pinned.checked.prog.looks [] ∧ ∀ (j : Nat) t, fn.params[j]? = some t → Tryd.pinned.checked.prog.wantsStandIn t = false := by
  obtain rfl : f = 7 := Option.some.inj ((show Tryd.prog.funcNamed "loop.example/pub-g01454/laws.FnFunctionLength" = some 7 by kernel_rfl).symm.trans hf) |>.symm
  obtain rfl : fn = Tryd.f7 := (Option.some.inj (Tryd.func7.symm.trans hfn)).symm
  refine ⟨by kernel_rfl, fun j t ht => ?_⟩
  rw [show Tryd.f7.params = #[52, 22, 43] by kernel_rfl] at ht
  have hm := Array.mem_of_getElem? ht
  simp only [List.mem_toArray, List.mem_cons, List.not_mem_nil, or_false] at hm
  rcases hm with rfl | rfl | rfl
  · exact (show Tryd.prog.wantsStandIn 52 = false by kernel_rfl)
  · exact (show Tryd.prog.wantsStandIn 22 = false by kernel_rfl)
  · exact (show Tryd.prog.wantsStandIn 43 = false by kernel_rfl)

/-- FnFunctionLength: the tied card holds: the given statement. -/
theorem fnFunctionLength_card : Rows.FnFunctionLengthCardSaid :=
  Claim7.holds_tied_plain_at .later [] _ _ _ _ fnFunctionLength_holds (fun _ h => by cases h) (by kernel_rfl) (fun _ h => by cases h) fnFunctionLength_row_tie rfl ⟨rfl, rfl⟩ (by kernel_rfl) rfl fnFunctionLength_plain (by kernel_rfl)

end Go.Proofs.YtnbojmciolecgaaDoor
