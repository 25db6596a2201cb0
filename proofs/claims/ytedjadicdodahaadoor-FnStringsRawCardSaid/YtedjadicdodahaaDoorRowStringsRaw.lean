/- The tied cards of laws, out of their walks (printed by doorgen.py). -/
import Derived.Test.YtedjadicdodahaaDoorPl4
import Derived.Test.YtedjadicdodahaaDoorOpen
import Derived.Test.YtedjadicdodahaaDoorCards
import Derived.Test.YtedjadicdodahaaDoorTie
import Derived.Deep.DeepHandedRow
import Derived.Lib.LaidTab
import Derived.Test.YtedjadicdodahaaDoorFacts
namespace Go.Proofs.YtedjadicdodahaaDoor
open Go.ChangeShapes Go.WideShapes Go.ChangeAt Go.RowKit

set_option maxRecDepth 10000 in
theorem fnStringsRaw_contract (H : Type) (enc : TypeId × Value → H) (W : World) (base : Nat) (args : Array Value) (ds gs : List (DataW H)) (before : List MemPlace)
    (hval : ∀ (j : Nat) t v, Tryd.f3.params[j]? = some t → args[j]? = some v → Value.okWide Tryd.prog W .any base t v)
    (hW : DataW.Whole enc Tryd.prog Tryd.f3.params.toList Rows.fnStringsRawSpec.vars false W args.toList ds gs before) (hL : laidMetH Tryd.prog Rows.fnStringsRawRow.laid W) (hS : W.ShapedOpen Tryd.prog) :
    Calls Tryd.prog 3 args W fun e W' => ∃ v, e = .returned v ∧ Rows.fnStringsRawSpec.post enc Tryd.prog Tryd.f3 false true false false W args v W' := by
  have hW0 := hW
  have hW1 := hW0
  obtain ⟨p, q, hA0, hV, rfl, _, _⟩ := hW1
  have hA : DataW.TrodAll enc Tryd.prog W 0 (fun _ => true) true [22] args.toList ds p := hA0
  obtain ⟨g0, g1, rfl⟩ : ∃ g0 g1, gs = [g0, g1] := vars_two hV
  obtain ⟨v0, vs0, d0, ds0, p0, q0, hargs0, hds0, _, h0, r0⟩ := trodAll_cons hA
  obtain ⟨hargsN, hdsN, _⟩ := trodAll_nil r0
  obtain rfl : args = #[v0] := by
    apply Array.toList_inj.1
    rw [hargs0, hargsN]
  obtain rfl : ds = [d0] := by rw [hds0, hdsN]
  have e0 := Rd.of_trod h0
  have k0 := hval 0 22 v0 (by rfl) (by rfl)
  obtain ⟨x0a, x0l, x0c, rfl⟩ := okWide_slice Tryd.underlying22 k0
  have f0 : Rd enc Tryd.prog W 22 [.slice x0a x0l x0c] := e0
  exact (fnStringsRaw_any x0a x0l x0c W f0 (gl_any hS (laidMet_tail (laidMet_tail (laidMet_tail hL))))).mono fun _ _ ⟨he, hb⟩ => ⟨_, he, post_of_law (tb := 4) Tryd.laidOut (by kernel_rfl) (by kernel_rfl) rfl Tryd.underlying4 hW0 hb rfl⟩

/-- A world for the witness: the settled one, the listed variables holding what their initialisers lay. -/
noncomputable def fnStringsRaw_world (os : Os) : World := { World.holding Tryd.prog os ⟨#[.cells #[.string ⟨#[115, 104, 111, 114, 116, 32, 98, 117, 102, 102, 101, 114]⟩] 114, .cells #[.string ⟨#[69, 79, 70]⟩] 114, .cells #[.string ⟨#[117, 110, 101, 120, 112, 101, 99, 116, 101, 100, 32, 69, 79, 70]⟩] 114], #[], []⟩ with heap := ((((((World.holding Tryd.prog os ⟨#[.cells #[.string ⟨#[115, 104, 111, 114, 116, 32, 98, 117, 102, 102, 101, 114]⟩] 114, .cells #[.string ⟨#[69, 79, 70]⟩] 114, .cells #[.string ⟨#[117, 110, 101, 120, 112, 101, 99, 116, 101, 100, 32, 69, 79, 70]⟩] 114], #[], []⟩).heap.modify 2 (fun | .cells _ t frozen => .cells #[.iface 112 (.pointer (some ⟨(World.settled Tryd.prog os).heap.size, 0, none⟩))] t frozen | o => o)).modify 3 (fun | .cells _ t frozen => .cells #[.iface 112 (.pointer (some ⟨(World.settled Tryd.prog os).heap.size + 1, 0, none⟩))] t frozen | o => o)).modify 4 (fun | .cells _ t frozen => .cells #[.iface 112 (.pointer (some ⟨(World.settled Tryd.prog os).heap.size + 2, 0, none⟩))] t frozen | o => o)).modify 0 (fun | .cells _ t frozen => .cells #[.int .u32 1, .int .u32 0, .int .u32 0, .int .u32 2, .int .u32 0, .int .u32 3, .int .u32 4, .int .u32 5] t frozen | o => o)).modify 1 (fun | .cells _ t frozen => .cells #[.int .u32 0, .int .u32 2, .int .u32 2, .int .u32 0, .int .u32 2, .int .u32 0, .int .u32 0, .int .u32 0] t frozen | o => o)) }
theorem fnStringsRaw_laidMet (os : Os) : laidMet Tryd.prog Rows.fnStringsRawRow.laid ((fnStringsRaw_world os).forCall (fun _ _ => 0) ⟨#[], #[.slice none 0 0], []⟩).memory :=
  laidMet_of_run' 8 (by kernel_rfl) (by kernel_rfl)
theorem fnStringsRaw_reads (os : Os) {H : Type} (enc : TypeId × Value → H) : ∃ places, DataW.whole enc Tryd.prog ((fnStringsRaw_world os).forCall (fun _ _ => 0) ⟨#[], #[.slice none 0 0], []⟩).memory Tryd.f3.params.toList Rows.fnStringsRawSpec.vars false (#[.slice none 0 0] : Array Value).toList 8 = some ([.nil], [.agg [.lit (.int .u32 1), .lit (.int .u32 0), .lit (.int .u32 0), .lit (.int .u32 2), .lit (.int .u32 0), .lit (.int .u32 3), .lit (.int .u32 4), .lit (.int .u32 5)], .agg [.lit (.int .u32 0), .lit (.int .u32 2), .lit (.int .u32 2), .lit (.int .u32 0), .lit (.int .u32 2), .lit (.int .u32 0), .lit (.int .u32 0), .lit (.int .u32 0)]], places) :=
  ⟨MemPlace.row ⟨0, 0, none⟩ 8 ++ MemPlace.row ⟨1, 0, none⟩ 8, by kernel_rfl⟩
set_option maxRecDepth 100000 in
theorem fnStringsRaw_lifted (os : Os) (started : os.Started) (H : Type) (enc : TypeId × Value → H) (F : Stop.Interp) :
    ReturnsInHanded {} Tryd.checked os 3 .any ((OpenSpec.ofChange Rows.fnStringsRawSpec).preRow enc Tryd.prog Tryd.f3 Rows.fnStringsRawRow.domain false Rows.fnStringsRawRow.laid) (((OpenSpec.ofChange Rows.fnStringsRawSpec).at F).post enc Tryd.prog Tryd.f3 false true false false) := by
  obtain ⟨places, hx⟩ := fnStringsRaw_reads os enc
  refine returnsInHanded_of_row (C := Tryd.checked) (s := OpenSpec.ofChange Rows.fnStringsRawSpec) Tryd.own started (by kernel_rfl) Tryd.func3
    (witness_row_at (enc := enc) (C := Tryd.checked) false (fnStringsRaw_world os) #[.slice none 0 0] rfl (by kernel_rfl) (by kernel_rfl) (by kernel_rfl)
      (OpenSpec.preRow_of_cond 8 hx (by kernel_rfl) (fun k hk => by cases hk) (by kernel_rfl) (fnStringsRaw_laidMet os))) ?_
  intro W base args ds gs before hval hW _ _ _ hL hS _
  exact fnStringsRaw_contract H enc W base args ds gs before hval hW hL hS

set_option maxHeartbeats 8000000 in
theorem fnStringsRaw_closed : joinedFacts Tryd.prog 3 Tryd.f3 (OpenSpec.ofChange Rows.fnStringsRawSpec).bare Rows.fnStringsRawRow = true := by
  unfold joinedFacts
  repeat (refine band_true ?_ ?_)
  all_goals first | (with_reducible exact Tryd.stopsHeard_) | (with_reducible exact Tryd.mayEnter_) | (with_reducible exact Tryd.laidOut) | (with_reducible exact Tryd.mapsRowed_) | (with_reducible refine Tryd.lifted_ _ ?_; rfl) | (as_aux_lemma => kernel_rfl)
theorem fnStringsRaw_holds : Rows.FnStringsRawSaid :=
  OpenClaim.holds_of_cond 3 Tryd.f3 rfl rfl rfl rfl rfl rfl rfl ⟨rfl, rfl, rfl, rfl, rfl⟩ rfl rfl rfl rfl rfl (by as_aux_lemma => kernel_rfl) Tryd.func3 fnStringsRaw_closed
    (of_decide_eq_true (by as_aux_lemma => kernel_rfl)) (by unfold Func.isWrapper; rw [if_neg (of_decide_eq_false (by as_aux_lemma => kernel_rfl))]; exact ⟨rfl, rfl⟩)
    (fun os started H enc _ F => by rw [OpenClaim.pre_eq_preRow]; exact fnStringsRaw_lifted os started H enc F)

theorem fnStringsRaw_plain (f : FuncId) (fn : Func) (hf : Tryd.pinned.checked.prog.funcNamed "loop.example/pub-g01454/laws.FnStringsRaw" = some f) (hfn : Tryd.pinned.checked.prog.funcs[f]? = some fn) :
    true = Tryd.pinned.checked.prog.looks [] ∧ ∀ (j : Nat) t, fn.params[j]? = some t → Tryd.pinned.checked.prog.wantsStandIn t = false := by
  obtain rfl : f = 3 := Option.some.inj ((show Tryd.prog.funcNamed "loop.example/pub-g01454/laws.FnStringsRaw" = some 3 by kernel_rfl).symm.trans hf) |>.symm
  obtain rfl : fn = Tryd.f3 := (Option.some.inj (Tryd.func3.symm.trans hfn)).symm
  refine ⟨by kernel_rfl, fun j t ht => ?_⟩
  rw [show Tryd.f3.params = #[22] by kernel_rfl] at ht
  have hm := Array.mem_of_getElem? ht
  simp only [List.mem_toArray, List.mem_cons, List.not_mem_nil, or_false] at hm
  subst hm
  exact (show Tryd.prog.wantsStandIn 22 = false by kernel_rfl)

/-- FnStringsRaw: the tied card holds: the given statement. -/
theorem fnStringsRaw_card : Rows.FnStringsRawCardSaid :=
  Claim7.holds_tied_plain_at .later [] _ _ _ _ fnStringsRaw_holds (fun _ h => by cases h) (by kernel_rfl) (fun _ h => by cases h) fnStringsRaw_row_tie rfl ⟨rfl, rfl⟩ (by kernel_rfl) rfl fnStringsRaw_plain (by kernel_rfl)

end Go.Proofs.YtedjadicdodahaaDoor
