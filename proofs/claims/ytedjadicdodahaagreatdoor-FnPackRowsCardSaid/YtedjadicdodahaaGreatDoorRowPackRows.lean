/- The tied cards of laws, out of their walks (printed by doorgen.py). -/
import Derived.Test.YtedjadicdodahaaGreatDoorPl11
import Derived.Test.YtedjadicdodahaaGreatDoorOpen
import Derived.Test.YtedjadicdodahaaGreatDoorCards
import Derived.Test.YtedjadicdodahaaGreatDoorTie
import Derived.Deep.DeepHandedRow
import Derived.Lib.LaidTab
import Derived.Test.YtedjadicdodahaaGreatDoorFacts
namespace Go.Proofs.YtedjadicdodahaaGreatDoor
open Go.ChangeShapes Go.WideShapes Go.ChangeAt Go.RowKit

set_option maxRecDepth 10000 in
theorem fnPackRows_contract (H : Type) (enc : TypeId × Value → H) (W : World) (base : Nat) (args : Array Value) (ds gs : List (DataW H)) (before : List MemPlace)
    (hval : ∀ (j : Nat) t v, Tryz.f8.params[j]? = some t → args[j]? = some v → Value.okWide Tryz.prog W .any base t v)
    (hW : DataW.Whole enc Tryz.prog Tryz.f8.params.toList Rows.fnPackRowsSpec.vars false W args.toList ds gs before) (hL : laidMetH Tryz.prog Rows.fnPackRowsRow.laid W) (hS : W.ShapedOpen Tryz.prog) :
    Calls Tryz.prog 8 args W fun e W' => ∃ v, e = .returned v ∧ Rows.fnPackRowsSpec.post enc Tryz.prog Tryz.f8 false true false false W args v W' := by
  have hW0 := hW
  have hW1 := hW0
  obtain ⟨p, q, hA0, hV, rfl, _, _⟩ := hW1
  have hA : DataW.TrodAll enc Tryz.prog W 0 (fun _ => true) true [2, 4, 24, 41] args.toList ds p := hA0
  obtain ⟨g0, g1, rfl⟩ : ∃ g0 g1, gs = [g0, g1] := vars_two hV
  obtain ⟨v0, vs0, d0, ds0, p0, q0, hargs0, hds0, _, h0, r0⟩ := trodAll_cons hA
  obtain ⟨v1, vs1, d1, ds1, p1, q1, hargs1, hds1, _, h1, r1⟩ := trodAll_cons r0
  obtain ⟨v2, vs2, d2, ds2, p2, q2, hargs2, hds2, _, h2, r2⟩ := trodAll_cons r1
  obtain ⟨v3, vs3, d3, ds3, p3, q3, hargs3, hds3, _, h3, r3⟩ := trodAll_cons r2
  obtain ⟨hargsN, hdsN, _⟩ := trodAll_nil r3
  obtain rfl : args = #[v0, v1, v2, v3] := by
    apply Array.toList_inj.1
    rw [hargs0, hargs1, hargs2, hargs3, hargsN]
  obtain rfl : ds = [d0, d1, d2, d3] := by rw [hds0, hds1, hds2, hds3, hdsN]
  have e0 := Rd.of_trod h0
  have k0 := hval 0 2 v0 (by rfl) (by rfl)
  obtain ⟨x0, rfl⟩ := okWide_int Tryz.underlying2 k0
  obtain ⟨y0, z0, b0⟩ := Rd.int Tryz.underlying2 e0
  obtain rfl : x0 = y0 := by simpa [Value.cells] using z0
  have c0 := bd_i64 b0
  have e1 := Rd.of_trod h1
  have k1 := hval 1 4 v1 (by rfl) (by rfl)
  obtain ⟨x1, rfl⟩ := okWide_bool Tryz.underlying4 k1
  have e2 := Rd.of_trod h2
  have k2 := hval 2 24 v2 (by rfl) (by rfl)
  obtain ⟨cs2, rfl, _⟩ := okWide_struct Tryz.underlying24 k2
  rw [cells_agg] at e2
  obtain ⟨x2_0, x2_1, x2_2, z2, b2_0, b2_1, b2_2⟩ := open_impl_Element e2
  obtain rfl : cs2 = #[.int .i64 x2_0, .int .i64 x2_1, x2_2] := by apply Array.toList_inj.1; rw [z2]
  have e3 := Rd.of_trod h3
  have k3 := hval 3 41 v3 (by rfl) (by rfl)
  obtain ⟨cs3, rfl, _⟩ := okWide_struct Tryz.underlying41 k3
  rw [cells_agg] at e3
  obtain ⟨x3_0, x3_1, x3_2, x3_3, x3_4, z3, b3_0, b3_1, b3_2, b3_3, b3_4⟩ := open_impl_Bit e3
  obtain rfl : cs3 = #[.int .i64 x3_0, .int .i64 x3_1, .int .i64 x3_2, .string x3_3, x3_4] := by apply Array.toList_inj.1; rw [z3]
  exact (fnPackRows_any x0 x1 x2_0 x2_1 x2_2 x3_0 x3_1 x3_2 x3_3 x3_4 W c0 b2_0 b2_1 b2_2 b3_0 b3_1 b3_2 b3_3 b3_4 (gl_any hS (laidMet_tail (laidMet_tail (laidMet_tail (laidMet_tail (laidMet_tail (laidMet_tail hL)))))))).mono fun _ _ ⟨he, hb⟩ => ⟨_, he, post_of_law (tb := 4) Tryz.laidOut (by kernel_rfl) (by kernel_rfl) rfl Tryz.underlying4 hW0 hb rfl⟩

/-- A world for the witness: the settled one, the listed variables holding what their initialisers lay. -/
noncomputable def fnPackRows_world (os : Os) : World := { World.holding Tryz.prog os ⟨#[.cells #[.string ⟨#[115, 104, 111, 114, 116, 32, 119, 114, 105, 116, 101]⟩] 191, .cells #[.string ⟨#[105, 110, 118, 97, 108, 105, 100, 32, 119, 114, 105, 116, 101, 32, 114, 101, 115, 117, 108, 116]⟩] 191, .cells #[.string ⟨#[115, 104, 111, 114, 116, 32, 98, 117, 102, 102, 101, 114]⟩] 191, .cells #[.string ⟨#[69, 79, 70]⟩] 191, .cells #[.string ⟨#[117, 110, 101, 120, 112, 101, 99, 116, 101, 100, 32, 69, 79, 70]⟩] 191, .cells #[.string ⟨#[98, 121, 116, 101, 115, 46, 66, 117, 102, 102, 101, 114, 58, 32, 116, 111, 111, 32, 108, 97, 114, 103, 101]⟩] 191], #[], []⟩ with heap := (((((((((World.holding Tryz.prog os ⟨#[.cells #[.string ⟨#[115, 104, 111, 114, 116, 32, 119, 114, 105, 116, 101]⟩] 191, .cells #[.string ⟨#[105, 110, 118, 97, 108, 105, 100, 32, 119, 114, 105, 116, 101, 32, 114, 101, 115, 117, 108, 116]⟩] 191, .cells #[.string ⟨#[115, 104, 111, 114, 116, 32, 98, 117, 102, 102, 101, 114]⟩] 191, .cells #[.string ⟨#[69, 79, 70]⟩] 191, .cells #[.string ⟨#[117, 110, 101, 120, 112, 101, 99, 116, 101, 100, 32, 69, 79, 70]⟩] 191, .cells #[.string ⟨#[98, 121, 116, 101, 115, 46, 66, 117, 102, 102, 101, 114, 58, 32, 116, 111, 111, 32, 108, 97, 114, 103, 101]⟩] 191], #[], []⟩).heap.modify 4 (fun | .cells _ t frozen => .cells #[.iface 189 (.pointer (some ⟨(World.settled Tryz.prog os).heap.size, 0, none⟩))] t frozen | o => o)).modify 3 (fun | .cells _ t frozen => .cells #[.iface 189 (.pointer (some ⟨(World.settled Tryz.prog os).heap.size + 1, 0, none⟩))] t frozen | o => o)).modify 6 (fun | .cells _ t frozen => .cells #[.iface 189 (.pointer (some ⟨(World.settled Tryz.prog os).heap.size + 2, 0, none⟩))] t frozen | o => o)).modify 5 (fun | .cells _ t frozen => .cells #[.iface 189 (.pointer (some ⟨(World.settled Tryz.prog os).heap.size + 3, 0, none⟩))] t frozen | o => o)).modify 7 (fun | .cells _ t frozen => .cells #[.iface 189 (.pointer (some ⟨(World.settled Tryz.prog os).heap.size + 4, 0, none⟩))] t frozen | o => o)).modify 2 (fun | .cells _ t frozen => .cells #[.iface 189 (.pointer (some ⟨(World.settled Tryz.prog os).heap.size + 5, 0, none⟩))] t frozen | o => o)).modify 0 (fun | .cells _ t frozen => .cells #[.int .u32 1, .int .u32 0, .int .u32 0, .int .u32 2, .int .u32 0, .int .u32 3, .int .u32 4, .int .u32 5] t frozen | o => o)).modify 1 (fun | .cells _ t frozen => .cells #[.int .u32 0, .int .u32 2, .int .u32 2, .int .u32 0, .int .u32 2, .int .u32 0, .int .u32 0, .int .u32 0] t frozen | o => o)) }
theorem fnPackRows_laidMet (os : Os) : laidMet Tryz.prog Rows.fnPackRowsRow.laid ((fnPackRows_world os).forCall (fun _ _ => 0) ⟨#[], #[.int .i64 0, .bool false, .agg #[.int .i64 0, .int .i64 0, .slice none 0 0], .agg #[.int .i64 0, .int .i64 0, .int .i64 0, .string ⟨#[]⟩, .slice none 0 0]], []⟩).memory :=
  laidMet_of_run' 8 (by kernel_rfl) (by kernel_rfl)
theorem fnPackRows_reads (os : Os) {H : Type} (enc : TypeId × Value → H) : ∃ places, DataW.whole enc Tryz.prog ((fnPackRows_world os).forCall (fun _ _ => 0) ⟨#[], #[.int .i64 0, .bool false, .agg #[.int .i64 0, .int .i64 0, .slice none 0 0], .agg #[.int .i64 0, .int .i64 0, .int .i64 0, .string ⟨#[]⟩, .slice none 0 0]], []⟩).memory Tryz.f8.params.toList Rows.fnPackRowsSpec.vars false (#[.int .i64 0, .bool false, .agg #[.int .i64 0, .int .i64 0, .slice none 0 0], .agg #[.int .i64 0, .int .i64 0, .int .i64 0, .string ⟨#[]⟩, .slice none 0 0]] : Array Value).toList 8 = some ([.lit (.int .i64 0), .lit (.bool false), .agg [.lit (.int .i64 0), .lit (.int .i64 0), .nil], .agg [.lit (.int .i64 0), .lit (.int .i64 0), .lit (.int .i64 0), .lit (.string []), .nil]], [.agg [.lit (.int .u32 1), .lit (.int .u32 0), .lit (.int .u32 0), .lit (.int .u32 2), .lit (.int .u32 0), .lit (.int .u32 3), .lit (.int .u32 4), .lit (.int .u32 5)], .agg [.lit (.int .u32 0), .lit (.int .u32 2), .lit (.int .u32 2), .lit (.int .u32 0), .lit (.int .u32 2), .lit (.int .u32 0), .lit (.int .u32 0), .lit (.int .u32 0)]], places) :=
  ⟨MemPlace.row ⟨0, 0, none⟩ 8 ++ MemPlace.row ⟨1, 0, none⟩ 8, by kernel_rfl⟩
set_option maxRecDepth 100000 in
theorem fnPackRows_lifted (os : Os) (started : os.Started) (H : Type) (enc : TypeId × Value → H) (F : Stop.Interp) :
    ReturnsInHanded {} Tryz.checked os 8 .any ((OpenSpec.ofChange Rows.fnPackRowsSpec).preRow enc Tryz.prog Tryz.f8 Rows.fnPackRowsRow.domain false Rows.fnPackRowsRow.laid) (((OpenSpec.ofChange Rows.fnPackRowsSpec).at F).post enc Tryz.prog Tryz.f8 false true false false) := by
  obtain ⟨places, hx⟩ := fnPackRows_reads os enc
  refine returnsInHanded_of_row (C := Tryz.checked) (s := OpenSpec.ofChange Rows.fnPackRowsSpec) Tryz.own started (by kernel_rfl) Tryz.func8
    (witness_row_at (enc := enc) (C := Tryz.checked) false (fnPackRows_world os) #[.int .i64 0, .bool false, .agg #[.int .i64 0, .int .i64 0, .slice none 0 0], .agg #[.int .i64 0, .int .i64 0, .int .i64 0, .string ⟨#[]⟩, .slice none 0 0]] rfl (by kernel_rfl) (by kernel_rfl) (by kernel_rfl)
      (OpenSpec.preRow_of_cond 8 hx (by kernel_rfl) (fun k hk => by cases hk) (by kernel_rfl) (fnPackRows_laidMet os))) ?_
  intro W base args ds gs before hval hW _ _ _ hL hS _
  exact fnPackRows_contract H enc W base args ds gs before hval hW hL hS

set_option maxHeartbeats 8000000 in
theorem fnPackRows_closed : joinedFacts Tryz.prog 8 Tryz.f8 (OpenSpec.ofChange Rows.fnPackRowsSpec).bare Rows.fnPackRowsRow = true := by
  unfold joinedFacts
  repeat (refine band_true ?_ ?_)
  all_goals first | (with_reducible exact Tryz.stopsHeard_) | (with_reducible exact Tryz.mayEnter_) | (with_reducible exact Tryz.laidOut) | (with_reducible exact Tryz.mapsRowed_) | (with_reducible refine Tryz.lifted_ _ ?_; rfl) | (as_aux_lemma => kernel_rfl)
theorem fnPackRows_holds : Rows.FnPackRowsSaid :=
  OpenClaim.holds_of_cond 8 Tryz.f8 rfl rfl rfl rfl rfl rfl rfl ⟨rfl, rfl, rfl, rfl, rfl⟩ rfl rfl rfl rfl rfl (by as_aux_lemma => kernel_rfl) Tryz.func8 fnPackRows_closed
    (of_decide_eq_true (by as_aux_lemma => kernel_rfl)) (by unfold Func.isWrapper; rw [if_neg (of_decide_eq_false (by as_aux_lemma => kernel_rfl))]; exact ⟨rfl, rfl⟩)
    (fun os started H enc _ F => by rw [OpenClaim.pre_eq_preRow]; exact fnPackRows_lifted os started H enc F)

theorem fnPackRows_plain (f : FuncId) (fn : Func) (hf : Tryz.pinned.checked.prog.funcNamed "loop.example/pub-g01454/laws.FnPackRows" = some f) (hfn : Tryz.pinned.checked.prog.funcs[f]? = some fn) :
    true = Tryz.pinned.checked.prog.looks [] ∧ ∀ (j : Nat) t, fn.params[j]? = some t → Tryz.pinned.checked.prog.wantsStandIn t = false := by
  obtain rfl : f = 8 := Option.some.inj ((show Tryz.prog.funcNamed "loop.example/pub-g01454/laws.FnPackRows" = some 8 by kernel_rfl).symm.trans hf) |>.symm
  obtain rfl : fn = Tryz.f8 := (Option.some.inj (Tryz.func8.symm.trans hfn)).symm
  refine ⟨by kernel_rfl, fun j t ht => ?_⟩
  rw [show Tryz.f8.params = #[2, 4, 24, 41] by kernel_rfl] at ht
  have hm := Array.mem_of_getElem? ht
  simp only [List.mem_toArray, List.mem_cons, List.not_mem_nil, or_false] at hm
  rcases hm with rfl | rfl | rfl | rfl
  · exact (show Tryz.prog.wantsStandIn 2 = false by kernel_rfl)
  · exact (show Tryz.prog.wantsStandIn 4 = false by kernel_rfl)
  · exact (show Tryz.prog.wantsStandIn 24 = false by kernel_rfl)
  · exact (show Tryz.prog.wantsStandIn 41 = false by kernel_rfl)

/-- FnPackRows: the tied card holds: the given statement. -/
theorem fnPackRows_card : Rows.FnPackRowsCardSaid :=
  Claim7.holds_tied_plain_at .later [] _ _ _ _ fnPackRows_holds (fun _ h => by cases h) (by kernel_rfl) (fun _ h => by cases h) fnPackRows_row_tie rfl ⟨rfl, rfl⟩ (by kernel_rfl) rfl fnPackRows_plain (by kernel_rfl)

end Go.Proofs.YtedjadicdodahaaGreatDoor
