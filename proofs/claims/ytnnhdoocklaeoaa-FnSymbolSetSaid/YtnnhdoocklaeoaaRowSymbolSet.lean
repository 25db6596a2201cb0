/- The rows of laws, out of their walks (printed by lawgen.py). -/
import Derived.Test.YtnnhdoocklaeoaaSymSet
import Derived.Test.YtnnhdoocklaeoaaOpen
namespace Go.Proofs.Ytnnhdoocklaeoaa
open Go.ChangeShapes Go.WideShapes Go.ChangeAt Go.RowKit

theorem Try.own : ownKnob Try.prog.godebug = none := by kernel_rfl
theorem Try.laidOut : laidOutB Try.prog = true := by kernel_rfl

set_option maxRecDepth 100000 in
theorem fnSymbolSet_lifted (os : Os) (started : os.Started) (H : Type) (enc : TypeId × Value → H) :
    ReturnsInHanded {} Try.checked os 9 .any (Rows.fnSymbolSetSpec.pre6 enc Try.prog Try.f9 Rows.fnSymbolSetRow.domain false) (Rows.fnSymbolSetSpec.post enc Try.prog Try.f9 false true false false) := by
  refine returnsInHanded_of_change (C := Try.checked) Try.own started (by kernel_rfl) Try.func9
    (ChangeSpec.witness6 (enc := enc) (C := Try.checked) false ⟨#[], #[.agg #[.int .u16 0, .int .u8 0, .int .u8 0, .int .u8 0, .int .u32 0, .int .u32 0], .agg #[.int .u16 0, .int .u8 0, .int .u8 0, .int .u8 0, .int .u32 0, .int .u32 0], .int .i64 0], []⟩ 8 (by kernel_rfl) (by kernel_rfl) (by kernel_rfl) (by kernel_rfl)) ?_
  intro W base args ds gs before hval0 hW _ _
  have hval : ∀ (j : Nat) t v, Try.f9.params[j]? = some t → args[j]? = some v → Value.okWide Try.prog W .any base t v := hval0
  have hW0 : DataW.Whole enc Try.prog Try.f9.params.toList Rows.fnSymbolSetSpec.vars false W args.toList ds gs before := hW
  have hW1 := hW0
  obtain ⟨p, q, hA0, hV, rfl, _, _⟩ := hW1
  have hA : DataW.TrodAll enc Try.prog W 0 (fun _ => true) true [36, 36, 2] args.toList ds p := hA0
  obtain ⟨rfl, rfl⟩ := trodVars_none hV
  obtain ⟨v0, vs0, d0, ds0, p0, q0, hargs0, hds0, _, h0, r0⟩ := trodAll_cons hA
  obtain ⟨v1, vs1, d1, ds1, p1, q1, hargs1, hds1, _, h1, r1⟩ := trodAll_cons r0
  obtain ⟨v2, vs2, d2, ds2, p2, q2, hargs2, hds2, _, h2, r2⟩ := trodAll_cons r1
  obtain ⟨hargsN, hdsN, _⟩ := trodAll_nil r2
  obtain rfl : args = #[v0, v1, v2] := by
    apply Array.toList_inj.1
    rw [hargs0, hargs1, hargs2, hargsN]
  obtain rfl : ds = [d0, d1, d2] := by rw [hds0, hds1, hds2, hdsN]
  clear hA0 hA hV hval0 hW hargsN hdsN
  have e0 := Rd.of_trod h0
  have k0 := hval 0 36 v0 (by rfl) (by rfl)
  obtain ⟨cs0, rfl, _⟩ := okWide_struct Try.underlying36 k0
  rw [cells_agg] at e0
  obtain ⟨x0_0, x0_1, x0_2, x0_3, x0_4, x0_5, z0, b0_0, b0_1, b0_2, b0_3, b0_4, b0_5⟩ := open_impl_Symbol e0
  obtain rfl : cs0 = #[.int .u16 x0_0, .int .u8 x0_1, .int .u8 x0_2, .int .u8 x0_3, .int .u32 x0_4, .int .u32 x0_5] := by apply Array.toList_inj.1; rw [z0]
  have e1 := Rd.of_trod h1
  have k1 := hval 1 36 v1 (by rfl) (by rfl)
  obtain ⟨cs1, rfl, _⟩ := okWide_struct Try.underlying36 k1
  rw [cells_agg] at e1
  obtain ⟨x1_0, x1_1, x1_2, x1_3, x1_4, x1_5, z1, b1_0, b1_1, b1_2, b1_3, b1_4, b1_5⟩ := open_impl_Symbol e1
  obtain rfl : cs1 = #[.int .u16 x1_0, .int .u8 x1_1, .int .u8 x1_2, .int .u8 x1_3, .int .u32 x1_4, .int .u32 x1_5] := by apply Array.toList_inj.1; rw [z1]
  have e2 := Rd.of_trod h2
  have k2 := hval 2 2 v2 (by rfl) (by rfl)
  obtain ⟨x2, rfl⟩ := okWide_int Try.underlying2 k2
  obtain ⟨y2, z2, b2⟩ := Rd.int Try.underlying2 e2
  obtain rfl : x2 = y2 := by simpa [Value.cells] using z2
  have c2 := bd_i64 b2
  exact (fnSymbolSet_any x0_0 x0_1 x0_2 x0_3 x0_4 x0_5 x1_0 x1_1 x1_2 x1_3 x1_4 x1_5 x2 W b0_0 b0_1 b0_2 b0_3 b0_4 b0_5 b1_0 b1_1 b1_2 b1_3 b1_4 b1_5 c2).mono fun _ _ ⟨he, hb⟩ => ⟨_, he, post_of_law (tb := 4) Try.laidOut (by kernel_rfl) (by kernel_rfl) rfl Try.underlying4 hW0 hb rfl⟩

/-- FnSymbolSet holds: the given statement. -/
theorem fnSymbolSet_holds : Rows.FnSymbolSetSaid :=
  OpenClaim.holds_of_wide 9 Try.f9 rfl rfl rfl rfl rfl rfl rfl ⟨rfl, rfl, rfl, rfl, rfl⟩ rfl rfl rfl rfl rfl (by kernel_rfl) Try.func9 (by kernel_rfl)
    (of_decide_eq_true (by kernel_rfl)) (by unfold Func.isWrapper; rw [if_neg (of_decide_eq_false (by kernel_rfl))]; exact ⟨rfl, rfl⟩)
    (fun os started H enc _ => fnSymbolSet_lifted os started H enc)

end Go.Proofs.Ytnnhdoocklaeoaa
