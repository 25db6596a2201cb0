/-
  DERIVED. GIVEN WITH THE SEED: THE CARDS: each row of YtajeinkkfggcbaaGreatDoorRows.lean that lists a variable, with what it lists TIED to the program's text (the seventh form; the later family's looks); each row that meets fmt, with fmt's text TOLD by the authors' own Lean function (tested against real Go, not proved from fmt's source: count such statements apart). THE CARD IS WHAT COUNTS. Prove the row's statement (the work); the ties are given (YtajeinkkfggcbaaGreatDoorTie.lean); close each card by the builder's one call (the guide's Derived/Test/ToyasCard.lean, 'card_holds'). Laid BY PROGRAM, IN A SANDBOX (cutbox-door.mjs). By AI agents, Wed Nov 11 2026. No macro, syntax, notation, axiom, sorry.
-/
import Derived.Test.YtajeinkkfggcbaaGreatDoorRows
import GoSem.ClaimSeven
namespace Go.Proofs.YtajeinkkfggcbaaGreatDoor
namespace Rows

/-- THE TIED CARD OF 'laws.FnFileSymbols'. -/
def fnFileSymbolsCard : Claim7 := { stood := { row := fnFileSymbolsRow, standIns := [], harness := (true, "86dc971a1ebde9280c3aa8dc54e5645894241e694f96c3214998ad81050f530c"), looks := false }, kinds := [], alts := [], laidByText := true, laidKinds := [.sentinel], laidTests := true, laidLooks := .later }
def FnFileSymbolsCardSaid : Prop := Claim7.holds Tryz.pinned (.plain (OpenSpec.ofChange fnFileSymbolsSpec)) fnFileSymbolsCard

/-- THE TIED CARD OF 'laws.FnFileRelocs'. -/
def fnFileRelocsCard : Claim7 := { stood := { row := fnFileRelocsRow, standIns := [], harness := (true, "86dc971a1ebde9280c3aa8dc54e5645894241e694f96c3214998ad81050f530c"), looks := false }, kinds := [], alts := [], laidByText := true, laidKinds := [.sentinel], laidTests := true, laidLooks := .later }
def FnFileRelocsCardSaid : Prop := Claim7.holds Tryz.pinned (.plain (OpenSpec.ofChange fnFileRelocsSpec)) fnFileRelocsCard

/-- THE SECOND FORM's CARD OF 'laws.FnFileSymbols'. -/
def fnFileSymbolsUptoCard : Claim7 := { stood := { row := fnFileSymbolsUptoRow, standIns := [], harness := (true, "86dc971a1ebde9280c3aa8dc54e5645894241e694f96c3214998ad81050f530c"), looks := false }, kinds := [], alts := [], laidByText := true, laidKinds := [.sentinel], laidTests := true, laidLooks := .later }
def FnFileSymbolsUptoCardSaid : Prop := Claim7.holds Tryz.pinned (.plain (OpenSpec.upto fnFileSymbolsSpec)) fnFileSymbolsUptoCard

/-- THE SECOND FORM's CARD OF 'laws.FnFileRelocs'. -/
def fnFileRelocsUptoCard : Claim7 := { stood := { row := fnFileRelocsUptoRow, standIns := [], harness := (true, "86dc971a1ebde9280c3aa8dc54e5645894241e694f96c3214998ad81050f530c"), looks := false }, kinds := [], alts := [], laidByText := true, laidKinds := [.sentinel], laidTests := true, laidLooks := .later }
def FnFileRelocsUptoCardSaid : Prop := Claim7.holds Tryz.pinned (.plain (OpenSpec.upto fnFileRelocsSpec)) fnFileRelocsUptoCard
end Rows
end Go.Proofs.YtajeinkkfggcbaaGreatDoor
