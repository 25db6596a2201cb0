/-
  DERIVED. GIVEN WITH THE SEED: THE CARDS: each row of YtedjadicdodahaaGreatDoorRows.lean that lists a variable, with what it lists TIED to the program's text (the seventh form; the later family's looks); each row that meets fmt, with fmt's text TOLD by the authors' own Lean function (tested against real Go, not proved from fmt's source: count such statements apart). THE CARD IS WHAT COUNTS. Prove the row's statement (the work); the ties are given (YtedjadicdodahaaGreatDoorTie.lean); close each card by the builder's one call (the guide's Derived/Test/ToyasCard.lean, 'card_holds'). Laid BY PROGRAM, IN A SANDBOX (cutbox-door.mjs). By AI agents, Wed Nov 11 2026. No macro, syntax, notation, axiom, sorry.
-/
import Derived.Test.YtedjadicdodahaaGreatDoorRows
import GoSem.ClaimSeven
namespace Go.Proofs.YtedjadicdodahaaGreatDoor
namespace Rows

/-- THE TIED CARD OF 'laws.FnPackVersion'. -/
def fnPackVersionCard : Claim7 := { stood := { row := fnPackVersionRow, standIns := [], harness := (true, "0e02a25bdf46b318f216bfe4f653c7d6a5d5c6ab0ae4cfeb1c95e115db1bd639"), looks := true }, kinds := [], alts := [], laidByText := true, laidKinds := [.sentinel, .sentinel, .sentinel, .sentinel, .sentinel, .sentinel, .sentinel, .data, .data], laidTests := true, laidLooks := .later }
def FnPackVersionCardSaid : Prop := Claim7.holds Tryz.pinned (.plain (OpenSpec.ofChange fnPackVersionSpec)) fnPackVersionCard

/-- THE TIED CARD OF 'laws.FnPackBack'. -/
def fnPackBackCard : Claim7 := { stood := { row := fnPackBackRow, standIns := [], harness := (true, "0e02a25bdf46b318f216bfe4f653c7d6a5d5c6ab0ae4cfeb1c95e115db1bd639"), looks := true }, kinds := [], alts := [], laidByText := true, laidKinds := [.sentinel, .sentinel, .sentinel, .sentinel, .sentinel, .sentinel, .sentinel, .data, .data], laidTests := true, laidLooks := .later }
def FnPackBackCardSaid : Prop := Claim7.holds Tryz.pinned (.plain (OpenSpec.ofChange fnPackBackSpec)) fnPackBackCard

/-- THE TIED CARD OF 'laws.FnPackOne'. -/
def fnPackOneCard : Claim7 := { stood := { row := fnPackOneRow, standIns := [], harness := (true, "0e02a25bdf46b318f216bfe4f653c7d6a5d5c6ab0ae4cfeb1c95e115db1bd639"), looks := true }, kinds := [], alts := [], laidByText := true, laidKinds := [.sentinel, .sentinel, .sentinel, .sentinel, .sentinel, .sentinel, .sentinel, .data, .data], laidTests := true, laidLooks := .later }
def FnPackOneCardSaid : Prop := Claim7.holds Tryz.pinned (.plain (OpenSpec.ofChange fnPackOneSpec)) fnPackOneCard

/-- THE TIED CARD OF 'laws.FnPackFacts'. -/
def fnPackFactsCard : Claim7 := { stood := { row := fnPackFactsRow, standIns := [], harness := (true, "0e02a25bdf46b318f216bfe4f653c7d6a5d5c6ab0ae4cfeb1c95e115db1bd639"), looks := true }, kinds := [], alts := [], laidByText := true, laidKinds := [.sentinel, .sentinel, .sentinel, .sentinel, .sentinel, .sentinel, .data, .data], laidTests := true, laidLooks := .later }
def FnPackFactsCardSaid : Prop := Claim7.holds Tryz.pinned (.plain (OpenSpec.ofChange fnPackFactsSpec)) fnPackFactsCard

/-- THE TIED CARD OF 'laws.FnPackAlone'. -/
def fnPackAloneCard : Claim7 := { stood := { row := fnPackAloneRow, standIns := [], harness := (true, "0e02a25bdf46b318f216bfe4f653c7d6a5d5c6ab0ae4cfeb1c95e115db1bd639"), looks := true }, kinds := [], alts := [], laidByText := true, laidKinds := [.sentinel, .sentinel, .sentinel, .sentinel, .sentinel, .sentinel, .data, .data], laidTests := true, laidLooks := .later }
def FnPackAloneCardSaid : Prop := Claim7.holds Tryz.pinned (.plain (OpenSpec.ofChange fnPackAloneSpec)) fnPackAloneCard

/-- THE TIED CARD OF 'laws.FnPackRows'. -/
def fnPackRowsCard : Claim7 := { stood := { row := fnPackRowsRow, standIns := [], harness := (true, "0e02a25bdf46b318f216bfe4f653c7d6a5d5c6ab0ae4cfeb1c95e115db1bd639"), looks := true }, kinds := [], alts := [], laidByText := true, laidKinds := [.sentinel, .sentinel, .sentinel, .sentinel, .sentinel, .sentinel, .data, .data], laidTests := true, laidLooks := .later }
def FnPackRowsCardSaid : Prop := Claim7.holds Tryz.pinned (.plain (OpenSpec.ofChange fnPackRowsSpec)) fnPackRowsCard

/-- THE TIED CARD OF 'laws.FnPackCounts'. -/
def fnPackCountsCard : Claim7 := { stood := { row := fnPackCountsRow, standIns := [], harness := (true, "0e02a25bdf46b318f216bfe4f653c7d6a5d5c6ab0ae4cfeb1c95e115db1bd639"), looks := true }, kinds := [], alts := [], laidByText := true, laidKinds := [.sentinel, .sentinel, .sentinel, .sentinel, .sentinel, .sentinel, .data, .data], laidTests := true, laidLooks := .later }
def FnPackCountsCardSaid : Prop := Claim7.holds Tryz.pinned (.plain (OpenSpec.ofChange fnPackCountsSpec)) fnPackCountsCard

/-- THE SECOND FORM's CARD OF 'laws.FnPackVersion'. -/
def fnPackVersionUptoCard : Claim7 := { stood := { row := fnPackVersionUptoRow, standIns := [], harness := (true, "0e02a25bdf46b318f216bfe4f653c7d6a5d5c6ab0ae4cfeb1c95e115db1bd639"), looks := true }, kinds := [], alts := [], laidByText := true, laidKinds := [.sentinel, .sentinel, .sentinel, .sentinel, .sentinel, .sentinel, .sentinel, .data, .data], laidTests := true, laidLooks := .later }
def FnPackVersionUptoCardSaid : Prop := Claim7.holds Tryz.pinned (.plain (OpenSpec.upto fnPackVersionSpec)) fnPackVersionUptoCard

/-- THE SECOND FORM's CARD OF 'laws.FnPackBack'. -/
def fnPackBackUptoCard : Claim7 := { stood := { row := fnPackBackUptoRow, standIns := [], harness := (true, "0e02a25bdf46b318f216bfe4f653c7d6a5d5c6ab0ae4cfeb1c95e115db1bd639"), looks := true }, kinds := [], alts := [], laidByText := true, laidKinds := [.sentinel, .sentinel, .sentinel, .sentinel, .sentinel, .sentinel, .sentinel, .data, .data], laidTests := true, laidLooks := .later }
def FnPackBackUptoCardSaid : Prop := Claim7.holds Tryz.pinned (.plain (OpenSpec.upto fnPackBackSpec)) fnPackBackUptoCard

/-- THE SECOND FORM's CARD OF 'laws.FnPackOne'. -/
def fnPackOneUptoCard : Claim7 := { stood := { row := fnPackOneUptoRow, standIns := [], harness := (true, "0e02a25bdf46b318f216bfe4f653c7d6a5d5c6ab0ae4cfeb1c95e115db1bd639"), looks := true }, kinds := [], alts := [], laidByText := true, laidKinds := [.sentinel, .sentinel, .sentinel, .sentinel, .sentinel, .sentinel, .sentinel, .data, .data], laidTests := true, laidLooks := .later }
def FnPackOneUptoCardSaid : Prop := Claim7.holds Tryz.pinned (.plain (OpenSpec.upto fnPackOneSpec)) fnPackOneUptoCard

/-- THE SECOND FORM's CARD OF 'laws.FnPackFacts'. -/
def fnPackFactsUptoCard : Claim7 := { stood := { row := fnPackFactsUptoRow, standIns := [], harness := (true, "0e02a25bdf46b318f216bfe4f653c7d6a5d5c6ab0ae4cfeb1c95e115db1bd639"), looks := true }, kinds := [], alts := [], laidByText := true, laidKinds := [.sentinel, .sentinel, .sentinel, .sentinel, .sentinel, .sentinel, .data, .data], laidTests := true, laidLooks := .later }
def FnPackFactsUptoCardSaid : Prop := Claim7.holds Tryz.pinned (.plain (OpenSpec.upto fnPackFactsSpec)) fnPackFactsUptoCard

/-- THE SECOND FORM's CARD OF 'laws.FnPackAlone'. -/
def fnPackAloneUptoCard : Claim7 := { stood := { row := fnPackAloneUptoRow, standIns := [], harness := (true, "0e02a25bdf46b318f216bfe4f653c7d6a5d5c6ab0ae4cfeb1c95e115db1bd639"), looks := true }, kinds := [], alts := [], laidByText := true, laidKinds := [.sentinel, .sentinel, .sentinel, .sentinel, .sentinel, .sentinel, .data, .data], laidTests := true, laidLooks := .later }
def FnPackAloneUptoCardSaid : Prop := Claim7.holds Tryz.pinned (.plain (OpenSpec.upto fnPackAloneSpec)) fnPackAloneUptoCard

/-- THE SECOND FORM's CARD OF 'laws.FnPackRows'. -/
def fnPackRowsUptoCard : Claim7 := { stood := { row := fnPackRowsUptoRow, standIns := [], harness := (true, "0e02a25bdf46b318f216bfe4f653c7d6a5d5c6ab0ae4cfeb1c95e115db1bd639"), looks := true }, kinds := [], alts := [], laidByText := true, laidKinds := [.sentinel, .sentinel, .sentinel, .sentinel, .sentinel, .sentinel, .data, .data], laidTests := true, laidLooks := .later }
def FnPackRowsUptoCardSaid : Prop := Claim7.holds Tryz.pinned (.plain (OpenSpec.upto fnPackRowsSpec)) fnPackRowsUptoCard

/-- THE SECOND FORM's CARD OF 'laws.FnPackCounts'. -/
def fnPackCountsUptoCard : Claim7 := { stood := { row := fnPackCountsUptoRow, standIns := [], harness := (true, "0e02a25bdf46b318f216bfe4f653c7d6a5d5c6ab0ae4cfeb1c95e115db1bd639"), looks := true }, kinds := [], alts := [], laidByText := true, laidKinds := [.sentinel, .sentinel, .sentinel, .sentinel, .sentinel, .sentinel, .data, .data], laidTests := true, laidLooks := .later }
def FnPackCountsUptoCardSaid : Prop := Claim7.holds Tryz.pinned (.plain (OpenSpec.upto fnPackCountsSpec)) fnPackCountsUptoCard
end Rows
end Go.Proofs.YtedjadicdodahaaGreatDoor
