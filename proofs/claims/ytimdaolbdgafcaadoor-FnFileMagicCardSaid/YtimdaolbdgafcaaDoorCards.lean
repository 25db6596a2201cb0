/-
  DERIVED. GIVEN WITH THE SEED: THE CARDS: each row of YtimdaolbdgafcaaDoorRows.lean that lists a variable, with what it lists TIED to the program's text (the seventh form; the later family's looks); each row that meets fmt, with fmt's text TOLD by the authors' own Lean function (tested against real Go, not proved from fmt's source: count such statements apart). THE CARD IS WHAT COUNTS. Prove the row's statement (the work); the ties are given (YtimdaolbdgafcaaDoorTie.lean); close each card by the builder's one call (the guide's Derived/Test/ToyasCard.lean, 'card_holds'). Laid BY PROGRAM, IN A SANDBOX (cutbox-door.mjs). By AI agents, Wed Nov 11 2026. No macro, syntax, notation, axiom, sorry.
-/
import Derived.Test.YtimdaolbdgafcaaDoorRows
import GoSem.ClaimSeven
namespace Go.Proofs.YtimdaolbdgafcaaDoor
namespace Rows

/-- THE TIED CARD OF 'laws.FnFileAgain'. -/
def fnFileAgainCard : Claim7 := { stood := { row := fnFileAgainRow, standIns := [], harness := (true, "0c7000904f3b5e42216b74aafafd42e1176625cfe49d59fcf82dea9c881d4c61"), looks := false }, kinds := [], alts := [], laidByText := true, laidKinds := [.sentinel], laidTests := true, laidLooks := .later }
def FnFileAgainCardSaid : Prop := Claim7.holds Tryd.pinned (.plain (OpenSpec.ofChange fnFileAgainSpec)) fnFileAgainCard

/-- THE TIED CARD OF 'laws.FnFileReadOnly'. -/
def fnFileReadOnlyCard : Claim7 := { stood := { row := fnFileReadOnlyRow, standIns := [], harness := (true, "0c7000904f3b5e42216b74aafafd42e1176625cfe49d59fcf82dea9c881d4c61"), looks := false }, kinds := [], alts := [], laidByText := true, laidKinds := [.sentinel], laidTests := true, laidLooks := .later }
def FnFileReadOnlyCardSaid : Prop := Claim7.holds Tryd.pinned (.plain (OpenSpec.ofChange fnFileReadOnlySpec)) fnFileReadOnlyCard

/-- THE TIED CARD OF 'laws.FnFileOffsets'. -/
def fnFileOffsetsCard : Claim7 := { stood := { row := fnFileOffsetsRow, standIns := [], harness := (true, "0c7000904f3b5e42216b74aafafd42e1176625cfe49d59fcf82dea9c881d4c61"), looks := false }, kinds := [], alts := [], laidByText := true, laidKinds := [.sentinel], laidTests := true, laidLooks := .later }
def FnFileOffsetsCardSaid : Prop := Claim7.holds Tryd.pinned (.plain (OpenSpec.ofChange fnFileOffsetsSpec)) fnFileOffsetsCard

/-- THE TIED CARD OF 'laws.FnFileBytes'. -/
def fnFileBytesCard : Claim7 := { stood := { row := fnFileBytesRow, standIns := [], harness := (true, "0c7000904f3b5e42216b74aafafd42e1176625cfe49d59fcf82dea9c881d4c61"), looks := false }, kinds := [], alts := [], laidByText := true, laidKinds := [.sentinel], laidTests := true, laidLooks := .later }
def FnFileBytesCardSaid : Prop := Claim7.holds Tryd.pinned (.plain (OpenSpec.ofChange fnFileBytesSpec)) fnFileBytesCard

/-- THE TIED CARD OF 'laws.FnFileHead'. -/
def fnFileHeadCard : Claim7 := { stood := { row := fnFileHeadRow, standIns := [], harness := (true, "0c7000904f3b5e42216b74aafafd42e1176625cfe49d59fcf82dea9c881d4c61"), looks := false }, kinds := [], alts := [], laidByText := true, laidKinds := [.sentinel], laidTests := true, laidLooks := .later }
def FnFileHeadCardSaid : Prop := Claim7.holds Tryd.pinned (.plain (OpenSpec.ofChange fnFileHeadSpec)) fnFileHeadCard

/-- THE TIED CARD OF 'laws.FnFileMagic'. -/
def fnFileMagicCard : Claim7 := { stood := { row := fnFileMagicRow, standIns := [], harness := (true, "0c7000904f3b5e42216b74aafafd42e1176625cfe49d59fcf82dea9c881d4c61"), looks := false }, kinds := [], alts := [], laidByText := true, laidKinds := [.sentinel], laidTests := true, laidLooks := .later }
def FnFileMagicCardSaid : Prop := Claim7.holds Tryd.pinned (.plain (OpenSpec.ofChange fnFileMagicSpec)) fnFileMagicCard

/-- THE TIED CARD OF 'laws.FnFileHashes'. -/
def fnFileHashesCard : Claim7 := { stood := { row := fnFileHashesRow, standIns := [], harness := (true, "0c7000904f3b5e42216b74aafafd42e1176625cfe49d59fcf82dea9c881d4c61"), looks := false }, kinds := [], alts := [], laidByText := true, laidKinds := [.sentinel], laidTests := true, laidLooks := .later }
def FnFileHashesCardSaid : Prop := Claim7.holds Tryd.pinned (.plain (OpenSpec.ofChange fnFileHashesSpec)) fnFileHashesCard

/-- THE TIED CARD OF 'laws.FnFileSizes'. -/
def fnFileSizesCard : Claim7 := { stood := { row := fnFileSizesRow, standIns := [], harness := (true, "0c7000904f3b5e42216b74aafafd42e1176625cfe49d59fcf82dea9c881d4c61"), looks := false }, kinds := [], alts := [], laidByText := true, laidKinds := [.sentinel], laidTests := true, laidLooks := .later }
def FnFileSizesCardSaid : Prop := Claim7.holds Tryd.pinned (.plain (OpenSpec.ofChange fnFileSizesSpec)) fnFileSizesCard

/-- THE TIED CARD OF 'laws.FnFilePlaces'. -/
def fnFilePlacesCard : Claim7 := { stood := { row := fnFilePlacesRow, standIns := [], harness := (true, "0c7000904f3b5e42216b74aafafd42e1176625cfe49d59fcf82dea9c881d4c61"), looks := false }, kinds := [], alts := [], laidByText := true, laidKinds := [.sentinel], laidTests := true, laidLooks := .later }
def FnFilePlacesCardSaid : Prop := Claim7.holds Tryd.pinned (.plain (OpenSpec.ofChange fnFilePlacesSpec)) fnFilePlacesCard

/-- THE TIED CARD OF 'laws.FnFileImports'. -/
def fnFileImportsCard : Claim7 := { stood := { row := fnFileImportsRow, standIns := [], harness := (true, "0c7000904f3b5e42216b74aafafd42e1176625cfe49d59fcf82dea9c881d4c61"), looks := false }, kinds := [], alts := [], laidByText := true, laidKinds := [.sentinel], laidTests := true, laidLooks := .later }
def FnFileImportsCardSaid : Prop := Claim7.holds Tryd.pinned (.plain (OpenSpec.ofChange fnFileImportsSpec)) fnFileImportsCard

/-- THE TIED CARD OF 'laws.FnFileData'. -/
def fnFileDataCard : Claim7 := { stood := { row := fnFileDataRow, standIns := [], harness := (true, "0c7000904f3b5e42216b74aafafd42e1176625cfe49d59fcf82dea9c881d4c61"), looks := false }, kinds := [], alts := [], laidByText := true, laidKinds := [.sentinel], laidTests := true, laidLooks := .later }
def FnFileDataCardSaid : Prop := Claim7.holds Tryd.pinned (.plain (OpenSpec.ofChange fnFileDataSpec)) fnFileDataCard

/-- THE TIED CARD OF 'laws.FnFileAuxs'. -/
def fnFileAuxsCard : Claim7 := { stood := { row := fnFileAuxsRow, standIns := [], harness := (true, "0c7000904f3b5e42216b74aafafd42e1176625cfe49d59fcf82dea9c881d4c61"), looks := false }, kinds := [], alts := [], laidByText := true, laidKinds := [.sentinel], laidTests := true, laidLooks := .later }
def FnFileAuxsCardSaid : Prop := Claim7.holds Tryd.pinned (.plain (OpenSpec.ofChange fnFileAuxsSpec)) fnFileAuxsCard

/-- THE TIED CARD OF 'laws.FnFileRefs'. -/
def fnFileRefsCard : Claim7 := { stood := { row := fnFileRefsRow, standIns := [], harness := (true, "0c7000904f3b5e42216b74aafafd42e1176625cfe49d59fcf82dea9c881d4c61"), looks := false }, kinds := [], alts := [], laidByText := true, laidKinds := [.sentinel], laidTests := true, laidLooks := .later }
def FnFileRefsCardSaid : Prop := Claim7.holds Tryd.pinned (.plain (OpenSpec.ofChange fnFileRefsSpec)) fnFileRefsCard

/-- THE TIED CARD OF 'laws.FnFilePackages'. -/
def fnFilePackagesCard : Claim7 := { stood := { row := fnFilePackagesRow, standIns := [], harness := (true, "0c7000904f3b5e42216b74aafafd42e1176625cfe49d59fcf82dea9c881d4c61"), looks := false }, kinds := [], alts := [], laidByText := true, laidKinds := [.sentinel], laidTests := true, laidLooks := .later }
def FnFilePackagesCardSaid : Prop := Claim7.holds Tryd.pinned (.plain (OpenSpec.ofChange fnFilePackagesSpec)) fnFilePackagesCard

/-- THE SECOND FORM's CARD OF 'laws.FnFileAgain'. -/
def fnFileAgainUptoCard : Claim7 := { stood := { row := fnFileAgainUptoRow, standIns := [], harness := (true, "0c7000904f3b5e42216b74aafafd42e1176625cfe49d59fcf82dea9c881d4c61"), looks := false }, kinds := [], alts := [], laidByText := true, laidKinds := [.sentinel], laidTests := true, laidLooks := .later }
def FnFileAgainUptoCardSaid : Prop := Claim7.holds Tryd.pinned (.plain (OpenSpec.upto fnFileAgainSpec)) fnFileAgainUptoCard

/-- THE SECOND FORM's CARD OF 'laws.FnFileReadOnly'. -/
def fnFileReadOnlyUptoCard : Claim7 := { stood := { row := fnFileReadOnlyUptoRow, standIns := [], harness := (true, "0c7000904f3b5e42216b74aafafd42e1176625cfe49d59fcf82dea9c881d4c61"), looks := false }, kinds := [], alts := [], laidByText := true, laidKinds := [.sentinel], laidTests := true, laidLooks := .later }
def FnFileReadOnlyUptoCardSaid : Prop := Claim7.holds Tryd.pinned (.plain (OpenSpec.upto fnFileReadOnlySpec)) fnFileReadOnlyUptoCard

/-- THE SECOND FORM's CARD OF 'laws.FnFileOffsets'. -/
def fnFileOffsetsUptoCard : Claim7 := { stood := { row := fnFileOffsetsUptoRow, standIns := [], harness := (true, "0c7000904f3b5e42216b74aafafd42e1176625cfe49d59fcf82dea9c881d4c61"), looks := false }, kinds := [], alts := [], laidByText := true, laidKinds := [.sentinel], laidTests := true, laidLooks := .later }
def FnFileOffsetsUptoCardSaid : Prop := Claim7.holds Tryd.pinned (.plain (OpenSpec.upto fnFileOffsetsSpec)) fnFileOffsetsUptoCard

/-- THE SECOND FORM's CARD OF 'laws.FnFileBytes'. -/
def fnFileBytesUptoCard : Claim7 := { stood := { row := fnFileBytesUptoRow, standIns := [], harness := (true, "0c7000904f3b5e42216b74aafafd42e1176625cfe49d59fcf82dea9c881d4c61"), looks := false }, kinds := [], alts := [], laidByText := true, laidKinds := [.sentinel], laidTests := true, laidLooks := .later }
def FnFileBytesUptoCardSaid : Prop := Claim7.holds Tryd.pinned (.plain (OpenSpec.upto fnFileBytesSpec)) fnFileBytesUptoCard

/-- THE SECOND FORM's CARD OF 'laws.FnFileHead'. -/
def fnFileHeadUptoCard : Claim7 := { stood := { row := fnFileHeadUptoRow, standIns := [], harness := (true, "0c7000904f3b5e42216b74aafafd42e1176625cfe49d59fcf82dea9c881d4c61"), looks := false }, kinds := [], alts := [], laidByText := true, laidKinds := [.sentinel], laidTests := true, laidLooks := .later }
def FnFileHeadUptoCardSaid : Prop := Claim7.holds Tryd.pinned (.plain (OpenSpec.upto fnFileHeadSpec)) fnFileHeadUptoCard

/-- THE SECOND FORM's CARD OF 'laws.FnFileMagic'. -/
def fnFileMagicUptoCard : Claim7 := { stood := { row := fnFileMagicUptoRow, standIns := [], harness := (true, "0c7000904f3b5e42216b74aafafd42e1176625cfe49d59fcf82dea9c881d4c61"), looks := false }, kinds := [], alts := [], laidByText := true, laidKinds := [.sentinel], laidTests := true, laidLooks := .later }
def FnFileMagicUptoCardSaid : Prop := Claim7.holds Tryd.pinned (.plain (OpenSpec.upto fnFileMagicSpec)) fnFileMagicUptoCard

/-- THE SECOND FORM's CARD OF 'laws.FnFileHashes'. -/
def fnFileHashesUptoCard : Claim7 := { stood := { row := fnFileHashesUptoRow, standIns := [], harness := (true, "0c7000904f3b5e42216b74aafafd42e1176625cfe49d59fcf82dea9c881d4c61"), looks := false }, kinds := [], alts := [], laidByText := true, laidKinds := [.sentinel], laidTests := true, laidLooks := .later }
def FnFileHashesUptoCardSaid : Prop := Claim7.holds Tryd.pinned (.plain (OpenSpec.upto fnFileHashesSpec)) fnFileHashesUptoCard

/-- THE SECOND FORM's CARD OF 'laws.FnFileSizes'. -/
def fnFileSizesUptoCard : Claim7 := { stood := { row := fnFileSizesUptoRow, standIns := [], harness := (true, "0c7000904f3b5e42216b74aafafd42e1176625cfe49d59fcf82dea9c881d4c61"), looks := false }, kinds := [], alts := [], laidByText := true, laidKinds := [.sentinel], laidTests := true, laidLooks := .later }
def FnFileSizesUptoCardSaid : Prop := Claim7.holds Tryd.pinned (.plain (OpenSpec.upto fnFileSizesSpec)) fnFileSizesUptoCard

/-- THE SECOND FORM's CARD OF 'laws.FnFilePlaces'. -/
def fnFilePlacesUptoCard : Claim7 := { stood := { row := fnFilePlacesUptoRow, standIns := [], harness := (true, "0c7000904f3b5e42216b74aafafd42e1176625cfe49d59fcf82dea9c881d4c61"), looks := false }, kinds := [], alts := [], laidByText := true, laidKinds := [.sentinel], laidTests := true, laidLooks := .later }
def FnFilePlacesUptoCardSaid : Prop := Claim7.holds Tryd.pinned (.plain (OpenSpec.upto fnFilePlacesSpec)) fnFilePlacesUptoCard

/-- THE SECOND FORM's CARD OF 'laws.FnFileImports'. -/
def fnFileImportsUptoCard : Claim7 := { stood := { row := fnFileImportsUptoRow, standIns := [], harness := (true, "0c7000904f3b5e42216b74aafafd42e1176625cfe49d59fcf82dea9c881d4c61"), looks := false }, kinds := [], alts := [], laidByText := true, laidKinds := [.sentinel], laidTests := true, laidLooks := .later }
def FnFileImportsUptoCardSaid : Prop := Claim7.holds Tryd.pinned (.plain (OpenSpec.upto fnFileImportsSpec)) fnFileImportsUptoCard

/-- THE SECOND FORM's CARD OF 'laws.FnFileData'. -/
def fnFileDataUptoCard : Claim7 := { stood := { row := fnFileDataUptoRow, standIns := [], harness := (true, "0c7000904f3b5e42216b74aafafd42e1176625cfe49d59fcf82dea9c881d4c61"), looks := false }, kinds := [], alts := [], laidByText := true, laidKinds := [.sentinel], laidTests := true, laidLooks := .later }
def FnFileDataUptoCardSaid : Prop := Claim7.holds Tryd.pinned (.plain (OpenSpec.upto fnFileDataSpec)) fnFileDataUptoCard

/-- THE SECOND FORM's CARD OF 'laws.FnFileAuxs'. -/
def fnFileAuxsUptoCard : Claim7 := { stood := { row := fnFileAuxsUptoRow, standIns := [], harness := (true, "0c7000904f3b5e42216b74aafafd42e1176625cfe49d59fcf82dea9c881d4c61"), looks := false }, kinds := [], alts := [], laidByText := true, laidKinds := [.sentinel], laidTests := true, laidLooks := .later }
def FnFileAuxsUptoCardSaid : Prop := Claim7.holds Tryd.pinned (.plain (OpenSpec.upto fnFileAuxsSpec)) fnFileAuxsUptoCard

/-- THE SECOND FORM's CARD OF 'laws.FnFileRefs'. -/
def fnFileRefsUptoCard : Claim7 := { stood := { row := fnFileRefsUptoRow, standIns := [], harness := (true, "0c7000904f3b5e42216b74aafafd42e1176625cfe49d59fcf82dea9c881d4c61"), looks := false }, kinds := [], alts := [], laidByText := true, laidKinds := [.sentinel], laidTests := true, laidLooks := .later }
def FnFileRefsUptoCardSaid : Prop := Claim7.holds Tryd.pinned (.plain (OpenSpec.upto fnFileRefsSpec)) fnFileRefsUptoCard

/-- THE SECOND FORM's CARD OF 'laws.FnFilePackages'. -/
def fnFilePackagesUptoCard : Claim7 := { stood := { row := fnFilePackagesUptoRow, standIns := [], harness := (true, "0c7000904f3b5e42216b74aafafd42e1176625cfe49d59fcf82dea9c881d4c61"), looks := false }, kinds := [], alts := [], laidByText := true, laidKinds := [.sentinel], laidTests := true, laidLooks := .later }
def FnFilePackagesUptoCardSaid : Prop := Claim7.holds Tryd.pinned (.plain (OpenSpec.upto fnFilePackagesSpec)) fnFilePackagesUptoCard
end Rows
end Go.Proofs.YtimdaolbdgafcaaDoor
