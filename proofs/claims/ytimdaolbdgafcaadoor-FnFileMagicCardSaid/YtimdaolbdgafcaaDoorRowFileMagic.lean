/- The tied cards of laws, out of their walks (printed by doorgen.py). -/
import Derived.Test.YtimdaolbdgafcaaDoorFl11
import Derived.Test.YtimdaolbdgafcaaDoorOpen
import Derived.Test.YtimdaolbdgafcaaDoorCards
import Derived.Test.YtimdaolbdgafcaaDoorTie
import Derived.Deep.DeepHandedRow
import Derived.Lib.LaidTab
import Derived.Test.YtimdaolbdgafcaaDoorFacts
namespace Go.Proofs.YtimdaolbdgafcaaDoor
open Go.ChangeShapes Go.WideShapes Go.ChangeAt Go.RowKit

set_option maxRecDepth 10000 in
theorem fnFileMagic_contract (H : Type) (enc : TypeId × Value → H) (W : World) (base : Nat) (args : Array Value) (ds gs : List (DataW H)) (before : List MemPlace)
    (hval : ∀ (j : Nat) t v, Tryd.f8.params[j]? = some t → args[j]? = some v → Value.okWide Tryd.prog W .any base t v)
    (hW : DataW.Whole enc Tryd.prog Tryd.f8.params.toList Rows.fnFileMagicSpec.vars false W args.toList ds gs before) (_ : laidMetH Tryd.prog Rows.fnFileMagicRow.laid W) :
    Calls Tryd.prog 8 args W fun e W' => ∃ v, e = .returned v ∧ Rows.fnFileMagicSpec.post enc Tryd.prog Tryd.f8 false true false false W args v W' := by
  have hW0 := hW
  have hW1 := hW0
  obtain ⟨p, q, hA0, hV, rfl, _, _⟩ := hW1
  have hA : DataW.TrodAll enc Tryd.prog W 0 (fun _ => true) true [33, 3, 3] args.toList ds p := hA0
  obtain ⟨rfl, rfl⟩ := trodVars_none hV
  obtain ⟨v0, vs0, d0, ds0, p0, q0, hargs0, hds0, _, h0, r0⟩ := trodAll_cons hA
  obtain ⟨v1, vs1, d1, ds1, p1, q1, hargs1, hds1, _, h1, r1⟩ := trodAll_cons r0
  obtain ⟨v2, vs2, d2, ds2, p2, q2, hargs2, hds2, _, h2, r2⟩ := trodAll_cons r1
  obtain ⟨hargsN, hdsN, _⟩ := trodAll_nil r2
  obtain rfl : args = #[v0, v1, v2] := by
    apply Array.toList_inj.1
    rw [hargs0, hargs1, hargs2, hargsN]
  obtain rfl : ds = [d0, d1, d2] := by rw [hds0, hds1, hds2, hdsN]
  have e0 := Rd.of_trod h0
  have k0 := hval 0 33 v0 (by rfl) (by rfl)
  obtain ⟨cs0, rfl, _⟩ := okWide_struct Tryd.underlying33 k0
  rw [cells_agg] at e0
  obtain ⟨x0_0, x0_1, x0_2, x0_3, x0_4, x0_5, x0_6, x0_7, x0_8, x0_9, x0_10, x0_11, x0_12, x0_13, x0_14, x0_15, x0_16, x0_17, x0_18, x0_19, x0_20, z0, b0_0, b0_1, b0_2, b0_3, b0_4, b0_5, b0_6, b0_7, b0_8, b0_9, b0_10, b0_11, b0_12, b0_13, b0_14, b0_15, b0_16, b0_17, b0_18, b0_19, b0_20⟩ := open_impl_File e0
  obtain rfl : cs0 = #[.int .u8 x0_0, .int .u8 x0_1, .int .u8 x0_2, .int .u8 x0_3, .int .u8 x0_4, .int .u8 x0_5, .int .u8 x0_6, .int .u8 x0_7, .int .u32 x0_8, x0_9, x0_10, x0_11, x0_12, x0_13, x0_14, x0_15, x0_16, x0_17, x0_18, x0_19, x0_20] := by apply Array.toList_inj.1; rw [z0]
  have e1 := Rd.of_trod h1
  have k1 := hval 1 3 v1 (by rfl) (by rfl)
  obtain ⟨x1, rfl⟩ := okWide_int Tryd.underlying3 k1
  obtain ⟨y1, z1, b1⟩ := Rd.int Tryd.underlying3 e1
  obtain rfl : x1 = y1 := by simpa [Value.cells] using z1
  have c1 := bd_i64 b1
  have e2 := Rd.of_trod h2
  have k2 := hval 2 3 v2 (by rfl) (by rfl)
  obtain ⟨x2, rfl⟩ := okWide_int Tryd.underlying3 k2
  obtain ⟨y2, z2, b2⟩ := Rd.int Tryd.underlying3 e2
  obtain rfl : x2 = y2 := by simpa [Value.cells] using z2
  have c2 := bd_i64 b2
  exact (fnFileMagic_any x0_0 x0_1 x0_2 x0_3 x0_4 x0_5 x0_6 x0_7 x0_8 x0_9 x0_10 x0_11 x0_12 x0_13 x0_14 x0_15 x0_16 x0_17 x0_18 x0_19 x0_20 x1 x2 W b0_0 b0_1 b0_2 b0_3 b0_4 b0_5 b0_6 b0_7 b0_8 b0_9 b0_10 b0_11 b0_12 b0_13 b0_14 b0_15 b0_16 b0_17 b0_18 b0_19 b0_20 c1 c2).mono fun _ _ ⟨he, hb⟩ => ⟨_, he, post_of_law (tb := 4) Tryd.laidOut (by kernel_rfl) (by kernel_rfl) rfl Tryd.underlying4 hW0 hb rfl⟩

/-- A world for the witness: the settled one, the listed variables holding what their initialisers lay. -/
noncomputable def fnFileMagic_world (os : Os) : World := { World.holding Tryd.prog os ⟨#[.cells #[.string ⟨#[98, 121, 116, 101, 115, 46, 66, 117, 102, 102, 101, 114, 58, 32, 116, 111, 111, 32, 108, 97, 114, 103, 101]⟩] 215], #[], []⟩ with heap := ((World.holding Tryd.prog os ⟨#[.cells #[.string ⟨#[98, 121, 116, 101, 115, 46, 66, 117, 102, 102, 101, 114, 58, 32, 116, 111, 111, 32, 108, 97, 114, 103, 101]⟩] 215], #[], []⟩).heap.modify 0 (fun | .cells _ t frozen => .cells #[.iface 213 (.pointer (some ⟨(World.settled Tryd.prog os).heap.size, 0, none⟩))] t frozen | o => o)) }
theorem fnFileMagic_laidMet (os : Os) : laidMet Tryd.prog Rows.fnFileMagicRow.laid ((fnFileMagic_world os).forCall (fun _ _ => 0) ⟨#[], #[.agg #[.int .u8 0, .int .u8 0, .int .u8 0, .int .u8 0, .int .u8 0, .int .u8 0, .int .u8 0, .int .u8 0, .int .u32 0, .slice none 0 0, .slice none 0 0, .slice none 0 0, .slice none 0 0, .slice none 0 0, .slice none 0 0, .slice none 0 0, .slice none 0 0, .slice none 0 0, .slice none 0 0, .slice none 0 0, .slice none 0 0], .int .i64 0, .int .i64 0], []⟩).memory :=
  laidMet_of_run' 8 (by kernel_rfl) (by kernel_rfl)
theorem fnFileMagic_reads (os : Os) {H : Type} (enc : TypeId × Value → H) : ∃ places, DataW.whole enc Tryd.prog ((fnFileMagic_world os).forCall (fun _ _ => 0) ⟨#[], #[.agg #[.int .u8 0, .int .u8 0, .int .u8 0, .int .u8 0, .int .u8 0, .int .u8 0, .int .u8 0, .int .u8 0, .int .u32 0, .slice none 0 0, .slice none 0 0, .slice none 0 0, .slice none 0 0, .slice none 0 0, .slice none 0 0, .slice none 0 0, .slice none 0 0, .slice none 0 0, .slice none 0 0, .slice none 0 0, .slice none 0 0], .int .i64 0, .int .i64 0], []⟩).memory Tryd.f8.params.toList Rows.fnFileMagicSpec.vars false (#[.agg #[.int .u8 0, .int .u8 0, .int .u8 0, .int .u8 0, .int .u8 0, .int .u8 0, .int .u8 0, .int .u8 0, .int .u32 0, .slice none 0 0, .slice none 0 0, .slice none 0 0, .slice none 0 0, .slice none 0 0, .slice none 0 0, .slice none 0 0, .slice none 0 0, .slice none 0 0, .slice none 0 0, .slice none 0 0, .slice none 0 0], .int .i64 0, .int .i64 0] : Array Value).toList 8 = some ([.agg [.agg [.lit (.int .u8 0), .lit (.int .u8 0), .lit (.int .u8 0), .lit (.int .u8 0), .lit (.int .u8 0), .lit (.int .u8 0), .lit (.int .u8 0), .lit (.int .u8 0)], .lit (.int .u32 0), .nil, .nil, .nil, .nil, .nil, .nil, .nil, .nil, .nil, .nil, .nil, .nil], .lit (.int .i64 0), .lit (.int .i64 0)], [], places) :=
  ⟨[], by kernel_rfl⟩
set_option maxRecDepth 100000 in
theorem fnFileMagic_lifted (os : Os) (started : os.Started) (H : Type) (enc : TypeId × Value → H) (F : Stop.Interp) :
    ReturnsInHanded {} Tryd.checked os 8 .any ((OpenSpec.ofChange Rows.fnFileMagicSpec).preRow enc Tryd.prog Tryd.f8 Rows.fnFileMagicRow.domain false Rows.fnFileMagicRow.laid) (((OpenSpec.ofChange Rows.fnFileMagicSpec).at F).post enc Tryd.prog Tryd.f8 false true false false) := by
  obtain ⟨places, hx⟩ := fnFileMagic_reads os enc
  refine returnsInHanded_of_row (C := Tryd.checked) (s := OpenSpec.ofChange Rows.fnFileMagicSpec) Tryd.own started (by kernel_rfl) Tryd.func8
    (witness_row_at (enc := enc) (C := Tryd.checked) false (fnFileMagic_world os) #[.agg #[.int .u8 0, .int .u8 0, .int .u8 0, .int .u8 0, .int .u8 0, .int .u8 0, .int .u8 0, .int .u8 0, .int .u32 0, .slice none 0 0, .slice none 0 0, .slice none 0 0, .slice none 0 0, .slice none 0 0, .slice none 0 0, .slice none 0 0, .slice none 0 0, .slice none 0 0, .slice none 0 0, .slice none 0 0, .slice none 0 0], .int .i64 0, .int .i64 0] rfl (by kernel_rfl) (by kernel_rfl) (by kernel_rfl)
      (OpenSpec.preRow_of_cond 8 hx (by kernel_rfl) (fun k hk => by cases hk) (by kernel_rfl) (fnFileMagic_laidMet os))) ?_
  intro W base args ds gs before hval hW _ _ _ hL _ _
  exact fnFileMagic_contract H enc W base args ds gs before hval hW hL

set_option maxHeartbeats 8000000 in
theorem fnFileMagic_closed : joinedFacts Tryd.prog 8 Tryd.f8 (OpenSpec.ofChange Rows.fnFileMagicSpec).bare Rows.fnFileMagicRow = true := by
  unfold joinedFacts
  repeat (refine band_true ?_ ?_)
  all_goals first | (with_reducible exact Tryd.stopsHeard_) | (with_reducible exact Tryd.mayEnter_) | (with_reducible exact Tryd.laidOut) | (with_reducible exact Tryd.mapsRowed_) | (with_reducible refine Tryd.lifted_ _ ?_; rfl) | (as_aux_lemma => kernel_rfl)
theorem fnFileMagic_holds : Rows.FnFileMagicSaid :=
  OpenClaim.holds_of_cond 8 Tryd.f8 rfl rfl rfl rfl rfl rfl rfl ⟨rfl, rfl, rfl, rfl, rfl⟩ rfl rfl rfl rfl rfl (by as_aux_lemma => kernel_rfl) Tryd.func8 fnFileMagic_closed
    (of_decide_eq_true (by as_aux_lemma => kernel_rfl)) (by unfold Func.isWrapper; rw [if_neg (of_decide_eq_false (by as_aux_lemma => kernel_rfl))]; exact ⟨rfl, rfl⟩)
    (fun os started H enc _ F => by rw [OpenClaim.pre_eq_preRow]; exact fnFileMagic_lifted os started H enc F)

theorem fnFileMagic_plain (f : FuncId) (fn : Func) (hf : Tryd.pinned.checked.prog.funcNamed "loop.example/pub-g01454/laws.FnFileMagic" = some f) (hfn : Tryd.pinned.checked.prog.funcs[f]? = some fn) :
    false = Tryd.pinned.checked.prog.looks [] ∧ ∀ (j : Nat) t, fn.params[j]? = some t → Tryd.pinned.checked.prog.wantsStandIn t = false := by
  obtain rfl : f = 8 := Option.some.inj ((show Tryd.prog.funcNamed "loop.example/pub-g01454/laws.FnFileMagic" = some 8 by kernel_rfl).symm.trans hf) |>.symm
  obtain rfl : fn = Tryd.f8 := (Option.some.inj (Tryd.func8.symm.trans hfn)).symm
  refine ⟨by kernel_rfl, fun j t ht => ?_⟩
  rw [show Tryd.f8.params = #[33, 3, 3] by kernel_rfl] at ht
  have hm := Array.mem_of_getElem? ht
  simp only [List.mem_toArray, List.mem_cons, List.not_mem_nil, or_false] at hm
  rcases hm with rfl | rfl | rfl
  · exact (show Tryd.prog.wantsStandIn 33 = false by kernel_rfl)
  · exact (show Tryd.prog.wantsStandIn 3 = false by kernel_rfl)
  · exact (show Tryd.prog.wantsStandIn 3 = false by kernel_rfl)

/-- FnFileMagic: the tied card holds: the given statement. -/
theorem fnFileMagic_card : Rows.FnFileMagicCardSaid :=
  Claim7.holds_tied_plain_at .later [] _ _ _ _ fnFileMagic_holds (fun _ h => by cases h) (by kernel_rfl) (fun _ h => by cases h) fnFileMagic_row_tie rfl ⟨rfl, rfl⟩ (by kernel_rfl) rfl fnFileMagic_plain (by kernel_rfl)

end Go.Proofs.YtimdaolbdgafcaaDoor
