/-
  DERIVED. GIVEN WITH THE SEED: THE CARDS: each row of YtedjadicdodahaaDoorRows.lean that lists a variable, with what it lists TIED to the program's text (the seventh form; the later family's looks); each row that meets fmt, with fmt's text TOLD by the authors' own Lean function (tested against real Go, not proved from fmt's source: count such statements apart). THE CARD IS WHAT COUNTS. Prove the row's statement (the work); the ties are given (YtedjadicdodahaaDoorTie.lean); close each card by the builder's one call (the guide's Derived/Test/ToyasCard.lean, 'card_holds'). Laid BY PROGRAM, IN A SANDBOX (cutbox-door.mjs). By AI agents, Wed Nov 11 2026. No macro, syntax, notation, axiom, sorry.
-/
import Derived.Test.YtedjadicdodahaaDoorRows
import GoSem.ClaimSeven
namespace Go.Proofs.YtedjadicdodahaaDoor
namespace Rows

/-- THE TIED CARD OF 'laws.FnStringsRaw'. -/
def fnStringsRawCard : Claim7 := { stood := { row := fnStringsRawRow, standIns := [], harness := (true, "49b83333854ef735843dbd768cd507aafc8ba2311520b5e292060d4420e2bd41"), looks := true }, kinds := [], alts := [], laidByText := true, laidKinds := [.sentinel, .sentinel, .sentinel, .data, .data], laidTests := true, laidLooks := .later }
def FnStringsRawCardSaid : Prop := Claim7.holds Tryd.pinned (.plain (OpenSpec.ofChange fnStringsRawSpec)) fnStringsRawCard

/-- THE TIED CARD OF 'laws.FnStrings'. -/
def fnStringsCard : Claim7 := { stood := { row := fnStringsRow, standIns := [], harness := (true, "49b83333854ef735843dbd768cd507aafc8ba2311520b5e292060d4420e2bd41"), looks := true }, kinds := [], alts := [], laidByText := true, laidKinds := [.sentinel, .sentinel, .sentinel, .data, .data], laidTests := true, laidLooks := .later }
def FnStringsCardSaid : Prop := Claim7.holds Tryd.pinned (.plain (OpenSpec.ofChange fnStringsSpec)) fnStringsCard

/-- THE SECOND FORM's CARD OF 'laws.FnStringsRaw'. -/
def fnStringsRawUptoCard : Claim7 := { stood := { row := fnStringsRawUptoRow, standIns := [], harness := (true, "49b83333854ef735843dbd768cd507aafc8ba2311520b5e292060d4420e2bd41"), looks := true }, kinds := [], alts := [], laidByText := true, laidKinds := [.sentinel, .sentinel, .sentinel, .data, .data], laidTests := true, laidLooks := .later }
def FnStringsRawUptoCardSaid : Prop := Claim7.holds Tryd.pinned (.plain (OpenSpec.upto fnStringsRawSpec)) fnStringsRawUptoCard

/-- THE SECOND FORM's CARD OF 'laws.FnStrings'. -/
def fnStringsUptoCard : Claim7 := { stood := { row := fnStringsUptoRow, standIns := [], harness := (true, "49b83333854ef735843dbd768cd507aafc8ba2311520b5e292060d4420e2bd41"), looks := true }, kinds := [], alts := [], laidByText := true, laidKinds := [.sentinel, .sentinel, .sentinel, .data, .data], laidTests := true, laidLooks := .later }
def FnStringsUptoCardSaid : Prop := Claim7.holds Tryd.pinned (.plain (OpenSpec.upto fnStringsSpec)) fnStringsUptoCard
end Rows
end Go.Proofs.YtedjadicdodahaaDoor
