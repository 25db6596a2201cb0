/- The tied cards of laws, out of their walks (printed by doorgen.py). -/
import Derived.Test.YtnbojmciolecgaaDoorStepJ
import Derived.Test.YtnbojmciolecgaaDoorOpen
import Derived.Test.YtnbojmciolecgaaDoorCards
import Derived.Test.YtnbojmciolecgaaDoorTie
import Derived.Deep.DeepHandedRow
import Derived.Lib.LaidTab
namespace Go.Proofs.YtnbojmciolecgaaDoor
open Go.ChangeShapes Go.WideShapes Go.ChangeAt Go.RowKit

theorem Tryd.own : ownKnob Tryd.prog.godebug = none := by kernel_rfl
theorem Tryd.laidOut : laidOutB Tryd.prog = true := by kernel_rfl

set_option maxRecDepth 10000 in
theorem fnWritesJoin_contract (H : Type) (enc : TypeId × Value → H) (W : World) (base : Nat) (args : Array Value) (ds gs : List (DataW H)) (before : List MemPlace)
    (hval : ∀ (j : Nat) t v, Tryd.f10.params[j]? = some t → args[j]? = some v → Value.okWide Tryd.prog W .any base t v)
    (hW : DataW.Whole enc Tryd.prog Tryd.f10.params.toList Rows.fnWritesJoinSpec.vars false W args.toList ds gs before) (_ : laidMetH Tryd.prog Rows.fnWritesJoinRow.laid W) :
    Calls Tryd.prog 10 args W fun e W' => ∃ v, e = .returned v ∧ Rows.fnWritesJoinSpec.post enc Tryd.prog Tryd.f10 false true false false W args v W' := by
  have hW0 := hW
  have hW1 := hW0
  obtain ⟨p, q, hA0, hV, rfl, _, _⟩ := hW1
  have hA : DataW.TrodAll enc Tryd.prog W 0 (fun _ => true) true [58, 58] args.toList ds p := hA0
  obtain ⟨rfl, rfl⟩ := trodVars_none hV
  obtain ⟨v0, vs0, d0, ds0, p0, q0, hargs0, hds0, _, h0, r0⟩ := trodAll_cons hA
  obtain ⟨v1, vs1, d1, ds1, p1, q1, hargs1, hds1, _, h1, r1⟩ := trodAll_cons r0
  obtain ⟨hargsN, hdsN, _⟩ := trodAll_nil r1
  obtain rfl : args = #[v0, v1] := by
    apply Array.toList_inj.1
    rw [hargs0, hargs1, hargsN]
  obtain rfl : ds = [d0, d1] := by rw [hds0, hds1, hdsN]
  have e0 := Rd.of_trod h0
  have k0 := hval 0 58 v0 (by rfl) (by rfl)
  obtain ⟨x0a, x0l, x0c, rfl⟩ := okWide_slice Tryd.underlying58 k0
  have f0 : Rd enc Tryd.prog W 58 [.slice x0a x0l x0c] := e0
  have e1 := Rd.of_trod h1
  have k1 := hval 1 58 v1 (by rfl) (by rfl)
  obtain ⟨x1a, x1l, x1c, rfl⟩ := okWide_slice Tryd.underlying58 k1
  have f1 : Rd enc Tryd.prog W 58 [.slice x1a x1l x1c] := e1
  exact (fnWritesJoin_any x0a x0l x0c x1a x1l x1c W f0 f1).mono fun _ _ ⟨he, hb⟩ => ⟨_, he, post_of_law (tb := 4) Tryd.laidOut (by kernel_rfl) (by kernel_rfl) rfl Tryd.underlying4 hW0 hb rfl⟩

/-- A world for the witness: the settled one, the listed variables holding what their initialisers lay. -/
noncomputable def fnWritesJoin_world (os : Os) : World := { World.holding Tryd.prog os ⟨#[.cells #[.string ⟨#[98, 121, 116, 101, 115, 46, 66, 117, 102, 102, 101, 114, 58, 32, 116, 111, 111, 32, 108, 97, 114, 103, 101]⟩] 176], #[], []⟩ with heap := ((World.holding Tryd.prog os ⟨#[.cells #[.string ⟨#[98, 121, 116, 101, 115, 46, 66, 117, 102, 102, 101, 114, 58, 32, 116, 111, 111, 32, 108, 97, 114, 103, 101]⟩] 176], #[], []⟩).heap.modify 0 (fun | .cells _ t frozen => .cells #[.iface 158 (.pointer (some ⟨(World.settled Tryd.prog os).heap.size, 0, none⟩))] t frozen | o => o)) }
theorem fnWritesJoin_laidMet (os : Os) : laidMet Tryd.prog Rows.fnWritesJoinRow.laid ((fnWritesJoin_world os).forCall (fun _ _ => 0) ⟨#[], #[.slice none 0 0, .slice none 0 0], []⟩).memory :=
  laidMet_of_run' 8 (by kernel_rfl) (by kernel_rfl)
theorem fnWritesJoin_reads (os : Os) {H : Type} (enc : TypeId × Value → H) : ∃ places, DataW.whole enc Tryd.prog ((fnWritesJoin_world os).forCall (fun _ _ => 0) ⟨#[], #[.slice none 0 0, .slice none 0 0], []⟩).memory Tryd.f10.params.toList Rows.fnWritesJoinSpec.vars false (#[.slice none 0 0, .slice none 0 0] : Array Value).toList 8 = some ([.nil, .nil], [], places) :=
  ⟨[], by kernel_rfl⟩
set_option maxRecDepth 100000 in
theorem fnWritesJoin_lifted (os : Os) (started : os.Started) (H : Type) (enc : TypeId × Value → H) (F : Stop.Interp) :
    ReturnsInHanded {} Tryd.checked os 10 .any ((OpenSpec.ofChange Rows.fnWritesJoinSpec).preRow enc Tryd.prog Tryd.f10 Rows.fnWritesJoinRow.domain false Rows.fnWritesJoinRow.laid) (((OpenSpec.ofChange Rows.fnWritesJoinSpec).at F).post enc Tryd.prog Tryd.f10 false true false false) := by
  obtain ⟨places, hx⟩ := fnWritesJoin_reads os enc
  refine returnsInHanded_of_row (C := Tryd.checked) (s := OpenSpec.ofChange Rows.fnWritesJoinSpec) Tryd.own started (by kernel_rfl) Tryd.func10
    (witness_row_at (enc := enc) (C := Tryd.checked) false (fnWritesJoin_world os) #[.slice none 0 0, .slice none 0 0] rfl (by kernel_rfl) (by kernel_rfl) (by kernel_rfl)
      (OpenSpec.preRow_of_cond 8 hx (by kernel_rfl) (fun k hk => by cases hk) (by kernel_rfl) (fnWritesJoin_laidMet os))) ?_
  intro W base args ds gs before hval hW _ _ _ hL _ _
  exact fnWritesJoin_contract H enc W base args ds gs before hval hW hL

theorem fnWritesJoin_holds : Rows.FnWritesJoinSaid :=
  OpenClaim.holds_of_cond 10 Tryd.f10 rfl rfl rfl rfl rfl rfl rfl ⟨rfl, rfl, rfl, rfl, rfl⟩ rfl rfl rfl rfl rfl (by kernel_rfl) Tryd.func10 (by kernel_rfl)
    (of_decide_eq_true (by kernel_rfl)) (by unfold Func.isWrapper; rw [if_neg (of_decide_eq_false (by kernel_rfl))]; exact ⟨rfl, rfl⟩)
    (fun os started H enc _ F => by rw [OpenClaim.pre_eq_preRow]; exact fnWritesJoin_lifted os started H enc F)

theorem fnWritesJoin_plain (f : FuncId) (fn : Func) (hf : Tryd.pinned.checked.prog.funcNamed "loop.example/pub-g01454/laws.FnWritesJoin" = some f) (hfn : Tryd.pinned.checked.prog.funcs[f]? = some fn) :
    false = Tryd.pinned.checked.prog.looks [] ∧ ∀ (j : Nat) t, fn.params[j]? = some t → Tryd.pinned.checked.prog.wantsStandIn t = false := by
  obtain rfl : f = 10 := Option.some.inj ((show Tryd.prog.funcNamed "loop.example/pub-g01454/laws.FnWritesJoin" = some 10 by kernel_rfl).symm.trans hf) |>.symm
  obtain rfl : fn = Tryd.f10 := (Option.some.inj (Tryd.func10.symm.trans hfn)).symm
  refine ⟨by kernel_rfl, fun j t ht => ?_⟩
  rw [show Tryd.f10.params = #[58, 58] by kernel_rfl] at ht
  have hm := Array.mem_of_getElem? ht
  simp only [List.mem_toArray, List.mem_cons, List.not_mem_nil, or_false] at hm
  rcases hm with rfl | rfl
  · exact (show Tryd.prog.wantsStandIn 58 = false by kernel_rfl)
  · exact (show Tryd.prog.wantsStandIn 58 = false by kernel_rfl)

/-- FnWritesJoin: the tied card holds: the given statement. -/
theorem fnWritesJoin_card : Rows.FnWritesJoinCardSaid :=
  Claim7.holds_tied_plain_at .later [] _ _ _ _ fnWritesJoin_holds (fun _ h => by cases h) (by kernel_rfl) (fun _ h => by cases h) fnWritesJoin_row_tie rfl ⟨rfl, rfl⟩ (by kernel_rfl) rfl fnWritesJoin_plain (by kernel_rfl)

end Go.Proofs.YtnbojmciolecgaaDoor
