/-
  DERIVED. GIVEN WITH THE SEED: THE CARDS: each row of YtfckbpgghlifjaaDoorRows.lean that lists a variable, with what it lists TIED to the program's text (the seventh form; the later family's looks); each row that meets fmt, with fmt's text TOLD by the authors' own Lean function (tested against real Go, not proved from fmt's source: count such statements apart). THE CARD IS WHAT COUNTS. Prove the row's statement (the work); the ties are given (YtfckbpgghlifjaaDoorTie.lean); close each card by the builder's one call (the guide's Derived/Test/ToyasCard.lean, 'card_holds'). Laid BY PROGRAM, IN A SANDBOX (cutbox-door.mjs). By AI agents, Wed Nov 11 2026. No macro, syntax, notation, axiom, sorry.
-/
import Derived.Test.YtfckbpgghlifjaaDoorRows
import GoSem.ClaimSeven
namespace Go.Proofs.YtfckbpgghlifjaaDoor
namespace Rows

/-- THE TIED CARD OF 'laws.FnStringsRaw'. -/
def fnStringsRawCard : Claim7 := { stood := { row := fnStringsRawRow, standIns := [], harness := (true, "67a791dfde77f021120ddacf76fa04f0507f0f86724c7c3b44279c5fc99f7449"), looks := true }, kinds := [], alts := [], laidByText := true, laidKinds := [.sentinel, .sentinel, .sentinel, .data, .data], laidTests := true, laidLooks := .later }
def FnStringsRawCardSaid : Prop := Claim7.holds Tryd.pinned (.plain (OpenSpec.ofChange fnStringsRawSpec)) fnStringsRawCard

/-- THE TIED CARD OF 'laws.FnStrings'. -/
def fnStringsCard : Claim7 := { stood := { row := fnStringsRow, standIns := [], harness := (true, "67a791dfde77f021120ddacf76fa04f0507f0f86724c7c3b44279c5fc99f7449"), looks := true }, kinds := [], alts := [], laidByText := true, laidKinds := [.sentinel, .sentinel, .sentinel, .data, .data], laidTests := true, laidLooks := .later }
def FnStringsCardSaid : Prop := Claim7.holds Tryd.pinned (.plain (OpenSpec.ofChange fnStringsSpec)) fnStringsCard

/-- THE TIED CARD OF 'laws.FnPackAgain'. -/
def fnPackAgainCard : Claim7 := { stood := { row := fnPackAgainRow, standIns := [], harness := (true, "67a791dfde77f021120ddacf76fa04f0507f0f86724c7c3b44279c5fc99f7449"), looks := true }, kinds := [], alts := [], laidByText := true, laidKinds := [.sentinel, .sentinel, .sentinel, .sentinel, .data, .data], laidTests := true, laidLooks := .later }
def FnPackAgainCardSaid : Prop := Claim7.holds Tryd.pinned (.plain (OpenSpec.ofChange fnPackAgainSpec)) fnPackAgainCard

/-- THE TIED CARD OF 'laws.FnPackTold'. -/
def fnPackToldCard : Claim7 := { stood := { row := fnPackToldRow, standIns := [], harness := (true, "67a791dfde77f021120ddacf76fa04f0507f0f86724c7c3b44279c5fc99f7449"), looks := true }, kinds := [], alts := [], laidByText := true, laidKinds := [.sentinel, .sentinel, .sentinel, .sentinel, .data, .data], laidTests := true, laidLooks := .later }
def FnPackToldCardSaid : Prop := Claim7.holds Tryd.pinned (.plain (OpenSpec.ofChange fnPackToldSpec)) fnPackToldCard

/-- THE SECOND FORM's CARD OF 'laws.FnStringsRaw'. -/
def fnStringsRawUptoCard : Claim7 := { stood := { row := fnStringsRawUptoRow, standIns := [], harness := (true, "67a791dfde77f021120ddacf76fa04f0507f0f86724c7c3b44279c5fc99f7449"), looks := true }, kinds := [], alts := [], laidByText := true, laidKinds := [.sentinel, .sentinel, .sentinel, .data, .data], laidTests := true, laidLooks := .later }
def FnStringsRawUptoCardSaid : Prop := Claim7.holds Tryd.pinned (.plain (OpenSpec.upto fnStringsRawSpec)) fnStringsRawUptoCard

/-- THE SECOND FORM's CARD OF 'laws.FnStrings'. -/
def fnStringsUptoCard : Claim7 := { stood := { row := fnStringsUptoRow, standIns := [], harness := (true, "67a791dfde77f021120ddacf76fa04f0507f0f86724c7c3b44279c5fc99f7449"), looks := true }, kinds := [], alts := [], laidByText := true, laidKinds := [.sentinel, .sentinel, .sentinel, .data, .data], laidTests := true, laidLooks := .later }
def FnStringsUptoCardSaid : Prop := Claim7.holds Tryd.pinned (.plain (OpenSpec.upto fnStringsSpec)) fnStringsUptoCard

/-- THE SECOND FORM's CARD OF 'laws.FnPackAgain'. -/
def fnPackAgainUptoCard : Claim7 := { stood := { row := fnPackAgainUptoRow, standIns := [], harness := (true, "67a791dfde77f021120ddacf76fa04f0507f0f86724c7c3b44279c5fc99f7449"), looks := true }, kinds := [], alts := [], laidByText := true, laidKinds := [.sentinel, .sentinel, .sentinel, .sentinel, .data, .data], laidTests := true, laidLooks := .later }
def FnPackAgainUptoCardSaid : Prop := Claim7.holds Tryd.pinned (.plain (OpenSpec.upto fnPackAgainSpec)) fnPackAgainUptoCard

/-- THE SECOND FORM's CARD OF 'laws.FnPackTold'. -/
def fnPackToldUptoCard : Claim7 := { stood := { row := fnPackToldUptoRow, standIns := [], harness := (true, "67a791dfde77f021120ddacf76fa04f0507f0f86724c7c3b44279c5fc99f7449"), looks := true }, kinds := [], alts := [], laidByText := true, laidKinds := [.sentinel, .sentinel, .sentinel, .sentinel, .data, .data], laidTests := true, laidLooks := .later }
def FnPackToldUptoCardSaid : Prop := Claim7.holds Tryd.pinned (.plain (OpenSpec.upto fnPackToldSpec)) fnPackToldUptoCard
end Rows
end Go.Proofs.YtfckbpgghlifjaaDoor
