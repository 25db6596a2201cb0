/-
  DERIVED. GIVEN WITH THE SEED: THE CARDS: each row of YtnnhdoocklaeoaaDoorRows.lean that lists a variable, with what it lists TIED to the program's text (the seventh form; the later family's looks); each row that meets fmt, with fmt's text TOLD by the authors' own Lean function (tested against real Go, not proved from fmt's source: count such statements apart). THE CARD IS WHAT COUNTS. Prove the row's statement (the work); the ties are given (YtnnhdoocklaeoaaDoorTie.lean); close each card by the builder's one call (the guide's Derived/Test/ToyasCard.lean, 'card_holds'). Laid BY PROGRAM, IN A SANDBOX (cutbox-door.mjs). By AI agents, Wed Nov 11 2026. No macro, syntax, notation, axiom, sorry.
-/
import Derived.Test.YtnnhdoocklaeoaaDoorRows
import GoSem.ClaimSeven
namespace Go.Proofs.YtnnhdoocklaeoaaDoor
namespace Rows

/-- THE TIED CARD OF 'laws.FnVersionHas'. -/
def fnVersionHasCard : Claim7 := { stood := { row := fnVersionHasRow, standIns := [], harness := (true, "95eef8b8d77cce8e39d8649ed66616dbba7e0f8b7e16b23838273b529ec28025"), looks := false }, kinds := [], alts := [], laidByText := true, laidKinds := [.data, .data], laidTests := true, laidLooks := .later }
def FnVersionHasCardSaid : Prop := Claim7.holds Tryd.pinned (.plain (OpenSpec.ofChange fnVersionHasSpec)) fnVersionHasCard

/-- THE SECOND FORM's CARD OF 'laws.FnVersionHas'. -/
def fnVersionHasUptoCard : Claim7 := { stood := { row := fnVersionHasUptoRow, standIns := [], harness := (true, "95eef8b8d77cce8e39d8649ed66616dbba7e0f8b7e16b23838273b529ec28025"), looks := false }, kinds := [], alts := [], laidByText := true, laidKinds := [.data, .data], laidTests := true, laidLooks := .later }
def FnVersionHasUptoCardSaid : Prop := Claim7.holds Tryd.pinned (.plain (OpenSpec.upto fnVersionHasSpec)) fnVersionHasUptoCard
end Rows
end Go.Proofs.YtnnhdoocklaeoaaDoor
