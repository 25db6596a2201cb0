/- The rows of laws, out of their walks (printed by lawgen.py). -/
import Derived.Test.YtnnhdoocklaeoaaBitOk
import Derived.Test.YtnnhdoocklaeoaaOpen
namespace Go.Proofs.Ytnnhdoocklaeoaa
open Go.ChangeShapes Go.WideShapes Go.ChangeAt Go.RowKit

theorem Try.own : ownKnob Try.prog.godebug = none := by kernel_rfl
theorem Try.laidOut : laidOutB Try.prog = true := by kernel_rfl

set_option maxRecDepth 100000 in
theorem fnCodes_lifted (os : Os) (started : os.Started) (H : Type) (enc : TypeId × Value → H) :
    ReturnsInHanded {} Try.checked os 5 .any (Rows.fnCodesSpec.pre6 enc Try.prog Try.f5 Rows.fnCodesRow.domain false) (Rows.fnCodesSpec.post enc Try.prog Try.f5 false true false false) := by
  refine returnsInHanded_of_change (C := Try.checked) Try.own started (by kernel_rfl) Try.func5
    (ChangeSpec.witness6 (enc := enc) (C := Try.checked) false ⟨#[], #[.int .i64 0, .int .i64 0], []⟩ 8 (by kernel_rfl) (by kernel_rfl) (by kernel_rfl) (by kernel_rfl)) ?_
  intro W base args ds gs before hval0 hW _ _
  have hval : ∀ (j : Nat) t v, Try.f5.params[j]? = some t → args[j]? = some v → Value.okWide Try.prog W .any base t v := hval0
  have hW0 : DataW.Whole enc Try.prog Try.f5.params.toList Rows.fnCodesSpec.vars false W args.toList ds gs before := hW
  have hW1 := hW0
  obtain ⟨p, q, hA0, hV, rfl, _, _⟩ := hW1
  have hA : DataW.TrodAll enc Try.prog W 0 (fun _ => true) true [2, 2] args.toList ds p := hA0
  obtain ⟨rfl, rfl⟩ := trodVars_none hV
  obtain ⟨v0, vs0, d0, ds0, p0, q0, hargs0, hds0, _, h0, r0⟩ := trodAll_cons hA
  obtain ⟨v1, vs1, d1, ds1, p1, q1, hargs1, hds1, _, h1, r1⟩ := trodAll_cons r0
  obtain ⟨hargsN, hdsN, _⟩ := trodAll_nil r1
  obtain rfl : args = #[v0, v1] := by
    apply Array.toList_inj.1
    rw [hargs0, hargs1, hargsN]
  obtain rfl : ds = [d0, d1] := by rw [hds0, hds1, hdsN]
  clear hA0 hA hV hval0 hW hargsN hdsN
  have e0 := Rd.of_trod h0
  have k0 := hval 0 2 v0 (by rfl) (by rfl)
  obtain ⟨x0, rfl⟩ := okWide_int Try.underlying2 k0
  obtain ⟨y0, z0, b0⟩ := Rd.int Try.underlying2 e0
  obtain rfl : x0 = y0 := by simpa [Value.cells] using z0
  have c0 := bd_i64 b0
  have e1 := Rd.of_trod h1
  have k1 := hval 1 2 v1 (by rfl) (by rfl)
  obtain ⟨x1, rfl⟩ := okWide_int Try.underlying2 k1
  obtain ⟨y1, z1, b1⟩ := Rd.int Try.underlying2 e1
  obtain rfl : x1 = y1 := by simpa [Value.cells] using z1
  have c1 := bd_i64 b1
  exact (fnCodes_any x0 x1 W c0 c1).mono fun _ _ ⟨he, hb⟩ => ⟨_, he, post_of_law (tb := 4) Try.laidOut (by kernel_rfl) (by kernel_rfl) rfl Try.underlying4 hW0 hb rfl⟩

/-- FnCodes holds: the given statement. -/
theorem fnCodes_holds : Rows.FnCodesSaid :=
  OpenClaim.holds_of_wide 5 Try.f5 rfl rfl rfl rfl rfl rfl rfl ⟨rfl, rfl, rfl, rfl, rfl⟩ rfl rfl rfl rfl rfl (by kernel_rfl) Try.func5 (by kernel_rfl)
    (of_decide_eq_true (by kernel_rfl)) (by unfold Func.isWrapper; rw [if_neg (of_decide_eq_false (by kernel_rfl))]; exact ⟨rfl, rfl⟩)
    (fun os started H enc _ => fnCodes_lifted os started H enc)

end Go.Proofs.Ytnnhdoocklaeoaa
