/-
  DERIVED. GIVEN WITH THE SEED: THE CARDS: each row of YtnbojmciolecgaaDoorRows.lean that lists a variable, with what it lists TIED to the program's text (the seventh form; the later family's looks); each row that meets fmt, with fmt's text TOLD by the authors' own Lean function (tested against real Go, not proved from fmt's source: count such statements apart). THE CARD IS WHAT COUNTS. Prove the row's statement (the work); the ties are given (YtnbojmciolecgaaDoorTie.lean); close each card by the builder's one call (the guide's Derived/Test/ToyasCard.lean, 'card_holds'). Laid BY PROGRAM, IN A SANDBOX (cutbox-door.mjs). By AI agents, Wed Nov 11 2026. No macro, syntax, notation, axiom, sorry.
-/
import Derived.Test.YtnbojmciolecgaaDoorRows
import GoSem.ClaimSeven
namespace Go.Proofs.YtnbojmciolecgaaDoor
namespace Rows

/-- THE TIED CARD OF 'laws.FnAuxiliary'. -/
def fnAuxiliaryCard : Claim7 := { stood := { row := fnAuxiliaryRow, standIns := [], harness := (true, "79b3179e7073b692e1a269d2280f6b190cc08e0ba59789235bf84d82a067e544"), looks := false }, kinds := [], alts := [], laidByText := true, laidKinds := [.sentinel], laidTests := true, laidLooks := .later }
def FnAuxiliaryCardSaid : Prop := Claim7.holds Tryd.pinned (.plain (OpenSpec.ofChange fnAuxiliarySpec)) fnAuxiliaryCard

/-- THE TIED CARD OF 'laws.FnRelocationBytes'. -/
def fnRelocationBytesCard : Claim7 := { stood := { row := fnRelocationBytesRow, standIns := [], harness := (true, "79b3179e7073b692e1a269d2280f6b190cc08e0ba59789235bf84d82a067e544"), looks := false }, kinds := [], alts := [], laidByText := true, laidKinds := [.sentinel], laidTests := true, laidLooks := .later }
def FnRelocationBytesCardSaid : Prop := Claim7.holds Tryd.pinned (.plain (OpenSpec.ofChange fnRelocationBytesSpec)) fnRelocationBytesCard

/-- THE TIED CARD OF 'laws.FnFlagged'. -/
def fnFlaggedCard : Claim7 := { stood := { row := fnFlaggedRow, standIns := [], harness := (true, "79b3179e7073b692e1a269d2280f6b190cc08e0ba59789235bf84d82a067e544"), looks := false }, kinds := [], alts := [], laidByText := true, laidKinds := [.sentinel], laidTests := true, laidLooks := .later }
def FnFlaggedCardSaid : Prop := Claim7.holds Tryd.pinned (.plain (OpenSpec.ofChange fnFlaggedSpec)) fnFlaggedCard

/-- THE TIED CARD OF 'laws.FnInlined'. -/
def fnInlinedCard : Claim7 := { stood := { row := fnInlinedRow, standIns := [], harness := (true, "79b3179e7073b692e1a269d2280f6b190cc08e0ba59789235bf84d82a067e544"), looks := false }, kinds := [], alts := [], laidByText := true, laidKinds := [.sentinel], laidTests := true, laidLooks := .later }
def FnInlinedCardSaid : Prop := Claim7.holds Tryd.pinned (.plain (OpenSpec.ofChange fnInlinedSpec)) fnInlinedCard

/-- THE TIED CARD OF 'laws.FnFunctionLength'. -/
def fnFunctionLengthCard : Claim7 := { stood := { row := fnFunctionLengthRow, standIns := [], harness := (true, "79b3179e7073b692e1a269d2280f6b190cc08e0ba59789235bf84d82a067e544"), looks := false }, kinds := [], alts := [], laidByText := true, laidKinds := [.sentinel], laidTests := true, laidLooks := .later }
def FnFunctionLengthCardSaid : Prop := Claim7.holds Tryd.pinned (.plain (OpenSpec.ofChange fnFunctionLengthSpec)) fnFunctionLengthCard

/-- THE TIED CARD OF 'laws.FnFunctionHead'. -/
def fnFunctionHeadCard : Claim7 := { stood := { row := fnFunctionHeadRow, standIns := [], harness := (true, "79b3179e7073b692e1a269d2280f6b190cc08e0ba59789235bf84d82a067e544"), looks := false }, kinds := [], alts := [], laidByText := true, laidKinds := [.sentinel], laidTests := true, laidLooks := .later }
def FnFunctionHeadCardSaid : Prop := Claim7.holds Tryd.pinned (.plain (OpenSpec.ofChange fnFunctionHeadSpec)) fnFunctionHeadCard

/-- THE TIED CARD OF 'laws.FnWrites'. -/
def fnWritesCard : Claim7 := { stood := { row := fnWritesRow, standIns := [], harness := (true, "79b3179e7073b692e1a269d2280f6b190cc08e0ba59789235bf84d82a067e544"), looks := false }, kinds := [], alts := [], laidByText := true, laidKinds := [.sentinel], laidTests := true, laidLooks := .later }
def FnWritesCardSaid : Prop := Claim7.holds Tryd.pinned (.plain (OpenSpec.ofChange fnWritesSpec)) fnWritesCard

/-- THE TIED CARD OF 'laws.FnWritesJoin'. -/
def fnWritesJoinCard : Claim7 := { stood := { row := fnWritesJoinRow, standIns := [], harness := (true, "79b3179e7073b692e1a269d2280f6b190cc08e0ba59789235bf84d82a067e544"), looks := false }, kinds := [], alts := [], laidByText := true, laidKinds := [.sentinel], laidTests := true, laidLooks := .later }
def FnWritesJoinCardSaid : Prop := Claim7.holds Tryd.pinned (.plain (OpenSpec.ofChange fnWritesJoinSpec)) fnWritesJoinCard

/-- THE TIED CARD OF 'laws.FnFunctionSizes'. -/
def fnFunctionSizesCard : Claim7 := { stood := { row := fnFunctionSizesRow, standIns := [], harness := (true, "79b3179e7073b692e1a269d2280f6b190cc08e0ba59789235bf84d82a067e544"), looks := false }, kinds := [], alts := [], laidByText := true, laidKinds := [.sentinel], laidTests := true, laidLooks := .later }
def FnFunctionSizesCardSaid : Prop := Claim7.holds Tryd.pinned (.plain (OpenSpec.ofChange fnFunctionSizesSpec)) fnFunctionSizesCard

/-- THE TIED CARD OF 'laws.FnFunctionFiles'. -/
def fnFunctionFilesCard : Claim7 := { stood := { row := fnFunctionFilesRow, standIns := [], harness := (true, "79b3179e7073b692e1a269d2280f6b190cc08e0ba59789235bf84d82a067e544"), looks := false }, kinds := [], alts := [], laidByText := true, laidKinds := [.sentinel], laidTests := true, laidLooks := .later }
def FnFunctionFilesCardSaid : Prop := Claim7.holds Tryd.pinned (.plain (OpenSpec.ofChange fnFunctionFilesSpec)) fnFunctionFilesCard

/-- THE TIED CARD OF 'laws.FnFunctionInlined'. -/
def fnFunctionInlinedCard : Claim7 := { stood := { row := fnFunctionInlinedRow, standIns := [], harness := (true, "79b3179e7073b692e1a269d2280f6b190cc08e0ba59789235bf84d82a067e544"), looks := false }, kinds := [], alts := [], laidByText := true, laidKinds := [.sentinel], laidTests := true, laidLooks := .later }
def FnFunctionInlinedCardSaid : Prop := Claim7.holds Tryd.pinned (.plain (OpenSpec.ofChange fnFunctionInlinedSpec)) fnFunctionInlinedCard

/-- THE SECOND FORM's CARD OF 'laws.FnAuxiliary'. -/
def fnAuxiliaryUptoCard : Claim7 := { stood := { row := fnAuxiliaryUptoRow, standIns := [], harness := (true, "79b3179e7073b692e1a269d2280f6b190cc08e0ba59789235bf84d82a067e544"), looks := false }, kinds := [], alts := [], laidByText := true, laidKinds := [.sentinel], laidTests := true, laidLooks := .later }
def FnAuxiliaryUptoCardSaid : Prop := Claim7.holds Tryd.pinned (.plain (OpenSpec.upto fnAuxiliarySpec)) fnAuxiliaryUptoCard

/-- THE SECOND FORM's CARD OF 'laws.FnRelocationBytes'. -/
def fnRelocationBytesUptoCard : Claim7 := { stood := { row := fnRelocationBytesUptoRow, standIns := [], harness := (true, "79b3179e7073b692e1a269d2280f6b190cc08e0ba59789235bf84d82a067e544"), looks := false }, kinds := [], alts := [], laidByText := true, laidKinds := [.sentinel], laidTests := true, laidLooks := .later }
def FnRelocationBytesUptoCardSaid : Prop := Claim7.holds Tryd.pinned (.plain (OpenSpec.upto fnRelocationBytesSpec)) fnRelocationBytesUptoCard

/-- THE SECOND FORM's CARD OF 'laws.FnFlagged'. -/
def fnFlaggedUptoCard : Claim7 := { stood := { row := fnFlaggedUptoRow, standIns := [], harness := (true, "79b3179e7073b692e1a269d2280f6b190cc08e0ba59789235bf84d82a067e544"), looks := false }, kinds := [], alts := [], laidByText := true, laidKinds := [.sentinel], laidTests := true, laidLooks := .later }
def FnFlaggedUptoCardSaid : Prop := Claim7.holds Tryd.pinned (.plain (OpenSpec.upto fnFlaggedSpec)) fnFlaggedUptoCard

/-- THE SECOND FORM's CARD OF 'laws.FnInlined'. -/
def fnInlinedUptoCard : Claim7 := { stood := { row := fnInlinedUptoRow, standIns := [], harness := (true, "79b3179e7073b692e1a269d2280f6b190cc08e0ba59789235bf84d82a067e544"), looks := false }, kinds := [], alts := [], laidByText := true, laidKinds := [.sentinel], laidTests := true, laidLooks := .later }
def FnInlinedUptoCardSaid : Prop := Claim7.holds Tryd.pinned (.plain (OpenSpec.upto fnInlinedSpec)) fnInlinedUptoCard

/-- THE SECOND FORM's CARD OF 'laws.FnFunctionLength'. -/
def fnFunctionLengthUptoCard : Claim7 := { stood := { row := fnFunctionLengthUptoRow, standIns := [], harness := (true, "79b3179e7073b692e1a269d2280f6b190cc08e0ba59789235bf84d82a067e544"), looks := false }, kinds := [], alts := [], laidByText := true, laidKinds := [.sentinel], laidTests := true, laidLooks := .later }
def FnFunctionLengthUptoCardSaid : Prop := Claim7.holds Tryd.pinned (.plain (OpenSpec.upto fnFunctionLengthSpec)) fnFunctionLengthUptoCard

/-- THE SECOND FORM's CARD OF 'laws.FnFunctionHead'. -/
def fnFunctionHeadUptoCard : Claim7 := { stood := { row := fnFunctionHeadUptoRow, standIns := [], harness := (true, "79b3179e7073b692e1a269d2280f6b190cc08e0ba59789235bf84d82a067e544"), looks := false }, kinds := [], alts := [], laidByText := true, laidKinds := [.sentinel], laidTests := true, laidLooks := .later }
def FnFunctionHeadUptoCardSaid : Prop := Claim7.holds Tryd.pinned (.plain (OpenSpec.upto fnFunctionHeadSpec)) fnFunctionHeadUptoCard

/-- THE SECOND FORM's CARD OF 'laws.FnWrites'. -/
def fnWritesUptoCard : Claim7 := { stood := { row := fnWritesUptoRow, standIns := [], harness := (true, "79b3179e7073b692e1a269d2280f6b190cc08e0ba59789235bf84d82a067e544"), looks := false }, kinds := [], alts := [], laidByText := true, laidKinds := [.sentinel], laidTests := true, laidLooks := .later }
def FnWritesUptoCardSaid : Prop := Claim7.holds Tryd.pinned (.plain (OpenSpec.upto fnWritesSpec)) fnWritesUptoCard

/-- THE SECOND FORM's CARD OF 'laws.FnWritesJoin'. -/
def fnWritesJoinUptoCard : Claim7 := { stood := { row := fnWritesJoinUptoRow, standIns := [], harness := (true, "79b3179e7073b692e1a269d2280f6b190cc08e0ba59789235bf84d82a067e544"), looks := false }, kinds := [], alts := [], laidByText := true, laidKinds := [.sentinel], laidTests := true, laidLooks := .later }
def FnWritesJoinUptoCardSaid : Prop := Claim7.holds Tryd.pinned (.plain (OpenSpec.upto fnWritesJoinSpec)) fnWritesJoinUptoCard

/-- THE SECOND FORM's CARD OF 'laws.FnFunctionSizes'. -/
def fnFunctionSizesUptoCard : Claim7 := { stood := { row := fnFunctionSizesUptoRow, standIns := [], harness := (true, "79b3179e7073b692e1a269d2280f6b190cc08e0ba59789235bf84d82a067e544"), looks := false }, kinds := [], alts := [], laidByText := true, laidKinds := [.sentinel], laidTests := true, laidLooks := .later }
def FnFunctionSizesUptoCardSaid : Prop := Claim7.holds Tryd.pinned (.plain (OpenSpec.upto fnFunctionSizesSpec)) fnFunctionSizesUptoCard

/-- THE SECOND FORM's CARD OF 'laws.FnFunctionFiles'. -/
def fnFunctionFilesUptoCard : Claim7 := { stood := { row := fnFunctionFilesUptoRow, standIns := [], harness := (true, "79b3179e7073b692e1a269d2280f6b190cc08e0ba59789235bf84d82a067e544"), looks := false }, kinds := [], alts := [], laidByText := true, laidKinds := [.sentinel], laidTests := true, laidLooks := .later }
def FnFunctionFilesUptoCardSaid : Prop := Claim7.holds Tryd.pinned (.plain (OpenSpec.upto fnFunctionFilesSpec)) fnFunctionFilesUptoCard

/-- THE SECOND FORM's CARD OF 'laws.FnFunctionInlined'. -/
def fnFunctionInlinedUptoCard : Claim7 := { stood := { row := fnFunctionInlinedUptoRow, standIns := [], harness := (true, "79b3179e7073b692e1a269d2280f6b190cc08e0ba59789235bf84d82a067e544"), looks := false }, kinds := [], alts := [], laidByText := true, laidKinds := [.sentinel], laidTests := true, laidLooks := .later }
def FnFunctionInlinedUptoCardSaid : Prop := Claim7.holds Tryd.pinned (.plain (OpenSpec.upto fnFunctionInlinedSpec)) fnFunctionInlinedUptoCard
end Rows
end Go.Proofs.YtnbojmciolecgaaDoor
