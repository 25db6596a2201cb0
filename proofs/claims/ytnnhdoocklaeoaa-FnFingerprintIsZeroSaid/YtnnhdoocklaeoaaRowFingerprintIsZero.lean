/- The rows of laws, out of their walks (printed by lawgen.py). -/
import Derived.Test.YtnnhdoocklaeoaaZero
import Derived.Test.YtnnhdoocklaeoaaOpen
namespace Go.Proofs.Ytnnhdoocklaeoaa
open Go.ChangeShapes Go.WideShapes Go.ChangeAt Go.RowKit

theorem Try.own : ownKnob Try.prog.godebug = none := by kernel_rfl
theorem Try.laidOut : laidOutB Try.prog = true := by kernel_rfl

set_option maxRecDepth 100000 in
theorem fnFingerprintIsZero_lifted (os : Os) (started : os.Started) (H : Type) (enc : TypeId × Value → H) :
    ReturnsInHanded {} Try.checked os 3 .any (Rows.fnFingerprintIsZeroSpec.pre6 enc Try.prog Try.f3 Rows.fnFingerprintIsZeroRow.domain false) (Rows.fnFingerprintIsZeroSpec.post enc Try.prog Try.f3 false true false false) := by
  refine returnsInHanded_of_change (C := Try.checked) Try.own started (by kernel_rfl) Try.func3
    (ChangeSpec.witness6 (enc := enc) (C := Try.checked) false ⟨#[], #[.agg #[.int .u8 0, .int .u8 0, .int .u8 0, .int .u8 0, .int .u8 0, .int .u8 0, .int .u8 0, .int .u8 0]], []⟩ 8 (by kernel_rfl) (by kernel_rfl) (by kernel_rfl) (by kernel_rfl)) ?_
  intro W base args ds gs before hval0 hW _ _
  have hval : ∀ (j : Nat) t v, Try.f3.params[j]? = some t → args[j]? = some v → Value.okWide Try.prog W .any base t v := hval0
  have hW0 : DataW.Whole enc Try.prog Try.f3.params.toList Rows.fnFingerprintIsZeroSpec.vars false W args.toList ds gs before := hW
  have hW1 := hW0
  obtain ⟨p, q, hA0, hV, rfl, _, _⟩ := hW1
  have hA : DataW.TrodAll enc Try.prog W 0 (fun _ => true) true [22] args.toList ds p := hA0
  obtain ⟨rfl, rfl⟩ := trodVars_none hV
  obtain ⟨v0, vs0, d0, ds0, p0, q0, hargs0, hds0, _, h0, r0⟩ := trodAll_cons hA
  obtain ⟨hargsN, hdsN, _⟩ := trodAll_nil r0
  obtain rfl : args = #[v0] := by
    apply Array.toList_inj.1
    rw [hargs0, hargsN]
  obtain rfl : ds = [d0] := by rw [hds0, hdsN]
  clear hA0 hA hV hval0 hW hargsN hdsN
  have e0 := Rd.of_trod h0
  have k0 := hval 0 22 v0 (by rfl) (by rfl)
  obtain ⟨cs0, rfl, _⟩ := okWide_arr Try.underlying22 k0
  rw [cells_agg] at e0
  obtain ⟨x0_0, x0_1, x0_2, x0_3, x0_4, x0_5, x0_6, x0_7, z0, b0_0, b0_1, b0_2, b0_3, b0_4, b0_5, b0_6, b0_7⟩ := open_8_uint8 e0
  obtain rfl : cs0 = #[.int .u8 x0_0, .int .u8 x0_1, .int .u8 x0_2, .int .u8 x0_3, .int .u8 x0_4, .int .u8 x0_5, .int .u8 x0_6, .int .u8 x0_7] := by apply Array.toList_inj.1; rw [z0]
  exact (fnFingerprintIsZero_any x0_0 x0_1 x0_2 x0_3 x0_4 x0_5 x0_6 x0_7 W b0_0 b0_1 b0_2 b0_3 b0_4 b0_5 b0_6 b0_7).mono fun _ _ ⟨he, hb⟩ => ⟨_, he, post_of_law (tb := 4) Try.laidOut (by kernel_rfl) (by kernel_rfl) rfl Try.underlying4 hW0 hb rfl⟩

/-- FnFingerprintIsZero holds: the given statement. -/
theorem fnFingerprintIsZero_holds : Rows.FnFingerprintIsZeroSaid :=
  OpenClaim.holds_of_wide 3 Try.f3 rfl rfl rfl rfl rfl rfl rfl ⟨rfl, rfl, rfl, rfl, rfl⟩ rfl rfl rfl rfl rfl (by kernel_rfl) Try.func3 (by kernel_rfl)
    (of_decide_eq_true (by kernel_rfl)) (by unfold Func.isWrapper; rw [if_neg (of_decide_eq_false (by kernel_rfl))]; exact ⟨rfl, rfl⟩)
    (fun os started H enc _ => fnFingerprintIsZero_lifted os started H enc)

end Go.Proofs.Ytnnhdoocklaeoaa
