/-
  NARROWER THAN 'FOR EVERY INPUT', by the rows' own cells (each row's printed sentence says how): FnFileAgain: laid · FnFileReadOnly: laid · FnFileOffsets: laid · FnFileBytes: laid · FnFileHead: laid · FnFileMagic: laid · FnFileHashes: laid · FnFileSizes: laid · FnFilePlaces: laid · FnFileImports: laid · FnFileData: laid · FnFileAuxs: laid · FnFileRefs: laid · FnFilePackages: laid.
  DERIVED. THE GIVEN ROWS OF THIS SEAT. 14 by the template 'for every input the law returns true; each argument reads behind the call as it read before'; 0 by the template 'total and deterministic' (their statements: YtimdaolbdgafcaaDoorTotals.lean).
  GIVEN WITH THE SEED: the statements are not yours to turn. If you find one false, say at which input.
  Laid BY PROGRAM, IN A SANDBOX (cutbox-rows.mjs): the forced cells as the released guide's own fill.sh prints them over the translation 792ce0cc53137b3c… (all of the seat's roots in one cut). By AI agents, Wed Nov 11 2026. No macro, syntax, notation, axiom, sorry.
-/
import Derived.Test.YtimdaolbdgafcaaDoorChecked
import GoSem.Claim
import GoSem.ClaimJoined
import GoSem.ClaimMapViews
import Derived.JoinedTies
import Derived.KernelRfl
namespace Go.Proofs.YtimdaolbdgafcaaDoor
/- THE CELL 'sum', in the pinned program and in every row, IS THE sha256 OF THE DUMP (.gsa) THAT YtimdaolbdgafcaaDoorProg.lean LOADS. Nothing in Lean hashes anything: it is a label: what it is worth is what the hold of that sum in a sandbox is worth. -/
noncomputable def Tryd.pinned : Pinned := { name := "ytimdaolbdgafcaadoor", sum := "792ce0cc53137b3c09d29ba0258c5576cf6ae213685c57852be2dbefacbc73c8", checked := Tryd.checked }
namespace Rows
def none {H : Type} : Left H := { results := [], args := [] }

/- WHAT THE LISTED PACKAGE-LEVEL VARIABLES READ AS WHEN THE CALL BEGINS. Each datum BY PROGRAM (the guide's laid-datum.mjs) off the statement by which the dump's own 'gosem.cut.vars' lays the variable. In a bare row this is a premise. The card (YtimdaolbdgafcaaDoorCards.lean) ties it to the program's text. -/
def laid_bytes_ErrTooLarge {H : Type} : DataW H := .iface "*errors.errorString" (.ptr (.agg [.lit (.string [98, 121, 116, 101, 115, 46, 66, 117, 102, 102, 101, 114, 58, 32, 116, 111, 111, 32, 108, 97, 114, 103, 101])]))

/-- 'laws.FnFileAgain': WHATEVER THE INPUT: true; the input reads as it did. -/
def fnFileAgainSpec : ChangeSpec := { name := "fnFileAgain", fn := fun _ => fun
  | [d] => { results := [.lit (.bool true)], args := [d] }
  | _ => none }
def fnFileAgainRow : OpenClaim := { program := "ytimdaolbdgafcaadoor", sum := "792ce0cc53137b3c09d29ba0258c5576cf6ae213685c57852be2dbefacbc73c8", func := "loop.example/pub-g01454/laws.FnFileAgain", spec := "fnFileAgain", named := ["bytes.ErrTooLarge"], apart := false, laid := [("bytes.ErrTooLarge", laid_bytes_ErrTooLarge)] }
def FnFileAgainSaid : Prop := fnFileAgainRow.holds Tryd.pinned (OpenSpec.ofChange fnFileAgainSpec)

/-- ITS FALSE NEIGHBOUR: 'it returns false'. Refute it at one input. -/
def fnFileAgainWrong : ChangeSpec := { name := "fnFileAgain", fn := fun _ => fun
  | [d] => { results := [.lit (.bool false)], args := [d] }
  | _ => none }
def FnFileAgainWrongFalsely : Prop := fnFileAgainRow.holds Tryd.pinned (OpenSpec.ofChange fnFileAgainWrong)

/-- 'laws.FnFileReadOnly': WHATEVER THE INPUT: true; the input reads as it did. -/
def fnFileReadOnlySpec : ChangeSpec := { name := "fnFileReadOnly", fn := fun _ => fun
  | [d1, d2] => { results := [.lit (.bool true)], args := [d1, d2] }
  | _ => none }
def fnFileReadOnlyRow : OpenClaim := { program := "ytimdaolbdgafcaadoor", sum := "792ce0cc53137b3c09d29ba0258c5576cf6ae213685c57852be2dbefacbc73c8", func := "loop.example/pub-g01454/laws.FnFileReadOnly", spec := "fnFileReadOnly", named := ["bytes.ErrTooLarge"], apart := false, laid := [("bytes.ErrTooLarge", laid_bytes_ErrTooLarge)] }
def FnFileReadOnlySaid : Prop := fnFileReadOnlyRow.holds Tryd.pinned (OpenSpec.ofChange fnFileReadOnlySpec)

/-- ITS FALSE NEIGHBOUR: 'it returns false'. Refute it at one input. -/
def fnFileReadOnlyWrong : ChangeSpec := { name := "fnFileReadOnly", fn := fun _ => fun
  | [d1, d2] => { results := [.lit (.bool false)], args := [d1, d2] }
  | _ => none }
def FnFileReadOnlyWrongFalsely : Prop := fnFileReadOnlyRow.holds Tryd.pinned (OpenSpec.ofChange fnFileReadOnlyWrong)

/-- 'laws.FnFileOffsets': WHATEVER THE INPUT: true; the input reads as it did. -/
def fnFileOffsetsSpec : ChangeSpec := { name := "fnFileOffsets", fn := fun _ => fun
  | [d] => { results := [.lit (.bool true)], args := [d] }
  | _ => none }
def fnFileOffsetsRow : OpenClaim := { program := "ytimdaolbdgafcaadoor", sum := "792ce0cc53137b3c09d29ba0258c5576cf6ae213685c57852be2dbefacbc73c8", func := "loop.example/pub-g01454/laws.FnFileOffsets", spec := "fnFileOffsets", named := ["bytes.ErrTooLarge"], apart := false, laid := [("bytes.ErrTooLarge", laid_bytes_ErrTooLarge)] }
def FnFileOffsetsSaid : Prop := fnFileOffsetsRow.holds Tryd.pinned (OpenSpec.ofChange fnFileOffsetsSpec)

/-- ITS FALSE NEIGHBOUR: 'it returns false'. Refute it at one input. -/
def fnFileOffsetsWrong : ChangeSpec := { name := "fnFileOffsets", fn := fun _ => fun
  | [d] => { results := [.lit (.bool false)], args := [d] }
  | _ => none }
def FnFileOffsetsWrongFalsely : Prop := fnFileOffsetsRow.holds Tryd.pinned (OpenSpec.ofChange fnFileOffsetsWrong)

/-- 'laws.FnFileBytes': WHATEVER THE INPUT: true; the input reads as it did. -/
def fnFileBytesSpec : ChangeSpec := { name := "fnFileBytes", fn := fun _ => fun
  | [d1, d2, d3] => { results := [.lit (.bool true)], args := [d1, d2, d3] }
  | _ => none }
def fnFileBytesRow : OpenClaim := { program := "ytimdaolbdgafcaadoor", sum := "792ce0cc53137b3c09d29ba0258c5576cf6ae213685c57852be2dbefacbc73c8", func := "loop.example/pub-g01454/laws.FnFileBytes", spec := "fnFileBytes", named := ["bytes.ErrTooLarge"], apart := false, laid := [("bytes.ErrTooLarge", laid_bytes_ErrTooLarge)] }
def FnFileBytesSaid : Prop := fnFileBytesRow.holds Tryd.pinned (OpenSpec.ofChange fnFileBytesSpec)

/-- ITS FALSE NEIGHBOUR: 'it returns false'. Refute it at one input. -/
def fnFileBytesWrong : ChangeSpec := { name := "fnFileBytes", fn := fun _ => fun
  | [d1, d2, d3] => { results := [.lit (.bool false)], args := [d1, d2, d3] }
  | _ => none }
def FnFileBytesWrongFalsely : Prop := fnFileBytesRow.holds Tryd.pinned (OpenSpec.ofChange fnFileBytesWrong)

/-- 'laws.FnFileHead': WHATEVER THE INPUT: true; the input reads as it did. -/
def fnFileHeadSpec : ChangeSpec := { name := "fnFileHead", fn := fun _ => fun
  | [d] => { results := [.lit (.bool true)], args := [d] }
  | _ => none }
def fnFileHeadRow : OpenClaim := { program := "ytimdaolbdgafcaadoor", sum := "792ce0cc53137b3c09d29ba0258c5576cf6ae213685c57852be2dbefacbc73c8", func := "loop.example/pub-g01454/laws.FnFileHead", spec := "fnFileHead", named := ["bytes.ErrTooLarge"], apart := false, laid := [("bytes.ErrTooLarge", laid_bytes_ErrTooLarge)] }
def FnFileHeadSaid : Prop := fnFileHeadRow.holds Tryd.pinned (OpenSpec.ofChange fnFileHeadSpec)

/-- ITS FALSE NEIGHBOUR: 'it returns false'. Refute it at one input. -/
def fnFileHeadWrong : ChangeSpec := { name := "fnFileHead", fn := fun _ => fun
  | [d] => { results := [.lit (.bool false)], args := [d] }
  | _ => none }
def FnFileHeadWrongFalsely : Prop := fnFileHeadRow.holds Tryd.pinned (OpenSpec.ofChange fnFileHeadWrong)

/-- 'laws.FnFileMagic': WHATEVER THE INPUT: true; the input reads as it did. -/
def fnFileMagicSpec : ChangeSpec := { name := "fnFileMagic", fn := fun _ => fun
  | [d1, d2, d3] => { results := [.lit (.bool true)], args := [d1, d2, d3] }
  | _ => none }
def fnFileMagicRow : OpenClaim := { program := "ytimdaolbdgafcaadoor", sum := "792ce0cc53137b3c09d29ba0258c5576cf6ae213685c57852be2dbefacbc73c8", func := "loop.example/pub-g01454/laws.FnFileMagic", spec := "fnFileMagic", named := ["bytes.ErrTooLarge"], apart := false, laid := [("bytes.ErrTooLarge", laid_bytes_ErrTooLarge)] }
def FnFileMagicSaid : Prop := fnFileMagicRow.holds Tryd.pinned (OpenSpec.ofChange fnFileMagicSpec)

/-- ITS FALSE NEIGHBOUR: 'it returns false'. Refute it at one input. -/
def fnFileMagicWrong : ChangeSpec := { name := "fnFileMagic", fn := fun _ => fun
  | [d1, d2, d3] => { results := [.lit (.bool false)], args := [d1, d2, d3] }
  | _ => none }
def FnFileMagicWrongFalsely : Prop := fnFileMagicRow.holds Tryd.pinned (OpenSpec.ofChange fnFileMagicWrong)

/-- 'laws.FnFileHashes': WHATEVER THE INPUT: true; the input reads as it did. -/
def fnFileHashesSpec : ChangeSpec := { name := "fnFileHashes", fn := fun _ => fun
  | [d] => { results := [.lit (.bool true)], args := [d] }
  | _ => none }
def fnFileHashesRow : OpenClaim := { program := "ytimdaolbdgafcaadoor", sum := "792ce0cc53137b3c09d29ba0258c5576cf6ae213685c57852be2dbefacbc73c8", func := "loop.example/pub-g01454/laws.FnFileHashes", spec := "fnFileHashes", named := ["bytes.ErrTooLarge"], apart := false, laid := [("bytes.ErrTooLarge", laid_bytes_ErrTooLarge)] }
def FnFileHashesSaid : Prop := fnFileHashesRow.holds Tryd.pinned (OpenSpec.ofChange fnFileHashesSpec)

/-- ITS FALSE NEIGHBOUR: 'it returns false'. Refute it at one input. -/
def fnFileHashesWrong : ChangeSpec := { name := "fnFileHashes", fn := fun _ => fun
  | [d] => { results := [.lit (.bool false)], args := [d] }
  | _ => none }
def FnFileHashesWrongFalsely : Prop := fnFileHashesRow.holds Tryd.pinned (OpenSpec.ofChange fnFileHashesWrong)

/-- 'laws.FnFileSizes': WHATEVER THE INPUT: true; the input reads as it did. -/
def fnFileSizesSpec : ChangeSpec := { name := "fnFileSizes", fn := fun _ => fun
  | [d] => { results := [.lit (.bool true)], args := [d] }
  | _ => none }
def fnFileSizesRow : OpenClaim := { program := "ytimdaolbdgafcaadoor", sum := "792ce0cc53137b3c09d29ba0258c5576cf6ae213685c57852be2dbefacbc73c8", func := "loop.example/pub-g01454/laws.FnFileSizes", spec := "fnFileSizes", named := ["bytes.ErrTooLarge"], apart := false, laid := [("bytes.ErrTooLarge", laid_bytes_ErrTooLarge)] }
def FnFileSizesSaid : Prop := fnFileSizesRow.holds Tryd.pinned (OpenSpec.ofChange fnFileSizesSpec)

/-- ITS FALSE NEIGHBOUR: 'it returns false'. Refute it at one input. -/
def fnFileSizesWrong : ChangeSpec := { name := "fnFileSizes", fn := fun _ => fun
  | [d] => { results := [.lit (.bool false)], args := [d] }
  | _ => none }
def FnFileSizesWrongFalsely : Prop := fnFileSizesRow.holds Tryd.pinned (OpenSpec.ofChange fnFileSizesWrong)

/-- 'laws.FnFilePlaces': WHATEVER THE INPUT: true; the input reads as it did. -/
def fnFilePlacesSpec : ChangeSpec := { name := "fnFilePlaces", fn := fun _ => fun
  | [d] => { results := [.lit (.bool true)], args := [d] }
  | _ => none }
def fnFilePlacesRow : OpenClaim := { program := "ytimdaolbdgafcaadoor", sum := "792ce0cc53137b3c09d29ba0258c5576cf6ae213685c57852be2dbefacbc73c8", func := "loop.example/pub-g01454/laws.FnFilePlaces", spec := "fnFilePlaces", named := ["bytes.ErrTooLarge"], apart := false, laid := [("bytes.ErrTooLarge", laid_bytes_ErrTooLarge)] }
def FnFilePlacesSaid : Prop := fnFilePlacesRow.holds Tryd.pinned (OpenSpec.ofChange fnFilePlacesSpec)

/-- ITS FALSE NEIGHBOUR: 'it returns false'. Refute it at one input. -/
def fnFilePlacesWrong : ChangeSpec := { name := "fnFilePlaces", fn := fun _ => fun
  | [d] => { results := [.lit (.bool false)], args := [d] }
  | _ => none }
def FnFilePlacesWrongFalsely : Prop := fnFilePlacesRow.holds Tryd.pinned (OpenSpec.ofChange fnFilePlacesWrong)

/-- 'laws.FnFileImports': WHATEVER THE INPUT: true; the input reads as it did. -/
def fnFileImportsSpec : ChangeSpec := { name := "fnFileImports", fn := fun _ => fun
  | [d] => { results := [.lit (.bool true)], args := [d] }
  | _ => none }
def fnFileImportsRow : OpenClaim := { program := "ytimdaolbdgafcaadoor", sum := "792ce0cc53137b3c09d29ba0258c5576cf6ae213685c57852be2dbefacbc73c8", func := "loop.example/pub-g01454/laws.FnFileImports", spec := "fnFileImports", named := ["bytes.ErrTooLarge"], apart := false, laid := [("bytes.ErrTooLarge", laid_bytes_ErrTooLarge)] }
def FnFileImportsSaid : Prop := fnFileImportsRow.holds Tryd.pinned (OpenSpec.ofChange fnFileImportsSpec)

/-- ITS FALSE NEIGHBOUR: 'it returns false'. Refute it at one input. -/
def fnFileImportsWrong : ChangeSpec := { name := "fnFileImports", fn := fun _ => fun
  | [d] => { results := [.lit (.bool false)], args := [d] }
  | _ => none }
def FnFileImportsWrongFalsely : Prop := fnFileImportsRow.holds Tryd.pinned (OpenSpec.ofChange fnFileImportsWrong)

/-- 'laws.FnFileData': WHATEVER THE INPUT: true; the input reads as it did. -/
def fnFileDataSpec : ChangeSpec := { name := "fnFileData", fn := fun _ => fun
  | [d] => { results := [.lit (.bool true)], args := [d] }
  | _ => none }
def fnFileDataRow : OpenClaim := { program := "ytimdaolbdgafcaadoor", sum := "792ce0cc53137b3c09d29ba0258c5576cf6ae213685c57852be2dbefacbc73c8", func := "loop.example/pub-g01454/laws.FnFileData", spec := "fnFileData", named := ["bytes.ErrTooLarge"], apart := false, laid := [("bytes.ErrTooLarge", laid_bytes_ErrTooLarge)] }
def FnFileDataSaid : Prop := fnFileDataRow.holds Tryd.pinned (OpenSpec.ofChange fnFileDataSpec)

/-- ITS FALSE NEIGHBOUR: 'it returns false'. Refute it at one input. -/
def fnFileDataWrong : ChangeSpec := { name := "fnFileData", fn := fun _ => fun
  | [d] => { results := [.lit (.bool false)], args := [d] }
  | _ => none }
def FnFileDataWrongFalsely : Prop := fnFileDataRow.holds Tryd.pinned (OpenSpec.ofChange fnFileDataWrong)

/-- 'laws.FnFileAuxs': WHATEVER THE INPUT: true; the input reads as it did. -/
def fnFileAuxsSpec : ChangeSpec := { name := "fnFileAuxs", fn := fun _ => fun
  | [d] => { results := [.lit (.bool true)], args := [d] }
  | _ => none }
def fnFileAuxsRow : OpenClaim := { program := "ytimdaolbdgafcaadoor", sum := "792ce0cc53137b3c09d29ba0258c5576cf6ae213685c57852be2dbefacbc73c8", func := "loop.example/pub-g01454/laws.FnFileAuxs", spec := "fnFileAuxs", named := ["bytes.ErrTooLarge"], apart := false, laid := [("bytes.ErrTooLarge", laid_bytes_ErrTooLarge)] }
def FnFileAuxsSaid : Prop := fnFileAuxsRow.holds Tryd.pinned (OpenSpec.ofChange fnFileAuxsSpec)

/-- ITS FALSE NEIGHBOUR: 'it returns false'. Refute it at one input. -/
def fnFileAuxsWrong : ChangeSpec := { name := "fnFileAuxs", fn := fun _ => fun
  | [d] => { results := [.lit (.bool false)], args := [d] }
  | _ => none }
def FnFileAuxsWrongFalsely : Prop := fnFileAuxsRow.holds Tryd.pinned (OpenSpec.ofChange fnFileAuxsWrong)

/-- 'laws.FnFileRefs': WHATEVER THE INPUT: true; the input reads as it did. -/
def fnFileRefsSpec : ChangeSpec := { name := "fnFileRefs", fn := fun _ => fun
  | [d] => { results := [.lit (.bool true)], args := [d] }
  | _ => none }
def fnFileRefsRow : OpenClaim := { program := "ytimdaolbdgafcaadoor", sum := "792ce0cc53137b3c09d29ba0258c5576cf6ae213685c57852be2dbefacbc73c8", func := "loop.example/pub-g01454/laws.FnFileRefs", spec := "fnFileRefs", named := ["bytes.ErrTooLarge"], apart := false, laid := [("bytes.ErrTooLarge", laid_bytes_ErrTooLarge)] }
def FnFileRefsSaid : Prop := fnFileRefsRow.holds Tryd.pinned (OpenSpec.ofChange fnFileRefsSpec)

/-- ITS FALSE NEIGHBOUR: 'it returns false'. Refute it at one input. -/
def fnFileRefsWrong : ChangeSpec := { name := "fnFileRefs", fn := fun _ => fun
  | [d] => { results := [.lit (.bool false)], args := [d] }
  | _ => none }
def FnFileRefsWrongFalsely : Prop := fnFileRefsRow.holds Tryd.pinned (OpenSpec.ofChange fnFileRefsWrong)

/-- 'laws.FnFilePackages': WHATEVER THE INPUT: true; the input reads as it did. -/
def fnFilePackagesSpec : ChangeSpec := { name := "fnFilePackages", fn := fun _ => fun
  | [d] => { results := [.lit (.bool true)], args := [d] }
  | _ => none }
def fnFilePackagesRow : OpenClaim := { program := "ytimdaolbdgafcaadoor", sum := "792ce0cc53137b3c09d29ba0258c5576cf6ae213685c57852be2dbefacbc73c8", func := "loop.example/pub-g01454/laws.FnFilePackages", spec := "fnFilePackages", named := ["bytes.ErrTooLarge"], apart := false, laid := [("bytes.ErrTooLarge", laid_bytes_ErrTooLarge)] }
def FnFilePackagesSaid : Prop := fnFilePackagesRow.holds Tryd.pinned (OpenSpec.ofChange fnFilePackagesSpec)

/-- ITS FALSE NEIGHBOUR: 'it returns false'. Refute it at one input. -/
def fnFilePackagesWrong : ChangeSpec := { name := "fnFilePackages", fn := fun _ => fun
  | [d] => { results := [.lit (.bool false)], args := [d] }
  | _ => none }
def FnFilePackagesWrongFalsely : Prop := fnFilePackagesRow.holds Tryd.pinned (OpenSpec.ofChange fnFilePackagesWrong)

/- THE SECOND FORM. 'bulk': how many values and letters a reading holds, each counted each time it is reached (what is shared counts as often as it is met; a slice's spare places count too). A statement '..UptoSaid' is the law's where the arguments, and the package variables that the reading takes, are together of bulk at most 1048576: NARROWER than '..Said'. Prove '..Said' where nothing that the law and all that it calls make is longer than what came in: it says more and counts as full. Else prove '..UptoSaid'. A law counts once. -/
mutual
def uptoBulk {H : Type} : DataW H → Nat
  | .lit (.string bytes) => bytes.length + 1
  | .lit _ => 1
  | .nil => 1
  | .ptr d => uptoBulk d + 1
  | .slice elems spare => uptoBulkAll elems + uptoBulkAll spare + 1
  | .agg parts => uptoBulkAll parts + 1
  | .iface _ d => uptoBulk d + 1
  | .map entries => uptoBulkEntries entries + 1
  | .held _ => 1
def uptoBulkAll {H : Type} : List (DataW H) → Nat
  | [] => 0
  | d :: r => uptoBulk d + uptoBulkAll r
def uptoBulkEntries {H : Type} : List (Lit × DataW H) → Nat
  | [] => 0
  | x :: r => uptoBulkEntry x + uptoBulkEntries r
def uptoBulkEntry {H : Type} : Lit × DataW H → Nat
  | (.string bytes, d) => bytes.length + uptoBulk d + 1
  | (_, d) => uptoBulk d + 1
 end
def uptoSmall : (H : Type) → List (DataW H) → Bool := fun _ ds => decide (uptoBulkAll ds ≤ 1048576)
def OpenSpec.upto (s : _root_.Go.ChangeSpec) : _root_.Go.OpenSpec := { _root_.Go.OpenSpec.ofChange s with cond := some uptoSmall }

/-- 'laws.FnFileAgain', WHERE WHAT IT READS IS OF BULK AT MOST 1048576: true; the input reads as it did. -/
def fnFileAgainUptoRow : OpenClaim := { program := "ytimdaolbdgafcaadoor", sum := "792ce0cc53137b3c09d29ba0258c5576cf6ae213685c57852be2dbefacbc73c8", func := "loop.example/pub-g01454/laws.FnFileAgain", spec := "fnFileAgain", named := ["bytes.ErrTooLarge"], apart := false, laid := [("bytes.ErrTooLarge", laid_bytes_ErrTooLarge)], narrowed := true }
def FnFileAgainUptoSaid : Prop := fnFileAgainUptoRow.holds Tryd.pinned (OpenSpec.upto fnFileAgainSpec)

/-- 'laws.FnFileReadOnly', WHERE WHAT IT READS IS OF BULK AT MOST 1048576: true; the input reads as it did. -/
def fnFileReadOnlyUptoRow : OpenClaim := { program := "ytimdaolbdgafcaadoor", sum := "792ce0cc53137b3c09d29ba0258c5576cf6ae213685c57852be2dbefacbc73c8", func := "loop.example/pub-g01454/laws.FnFileReadOnly", spec := "fnFileReadOnly", named := ["bytes.ErrTooLarge"], apart := false, laid := [("bytes.ErrTooLarge", laid_bytes_ErrTooLarge)], narrowed := true }
def FnFileReadOnlyUptoSaid : Prop := fnFileReadOnlyUptoRow.holds Tryd.pinned (OpenSpec.upto fnFileReadOnlySpec)

/-- 'laws.FnFileOffsets', WHERE WHAT IT READS IS OF BULK AT MOST 1048576: true; the input reads as it did. -/
def fnFileOffsetsUptoRow : OpenClaim := { program := "ytimdaolbdgafcaadoor", sum := "792ce0cc53137b3c09d29ba0258c5576cf6ae213685c57852be2dbefacbc73c8", func := "loop.example/pub-g01454/laws.FnFileOffsets", spec := "fnFileOffsets", named := ["bytes.ErrTooLarge"], apart := false, laid := [("bytes.ErrTooLarge", laid_bytes_ErrTooLarge)], narrowed := true }
def FnFileOffsetsUptoSaid : Prop := fnFileOffsetsUptoRow.holds Tryd.pinned (OpenSpec.upto fnFileOffsetsSpec)

/-- 'laws.FnFileBytes', WHERE WHAT IT READS IS OF BULK AT MOST 1048576: true; the input reads as it did. -/
def fnFileBytesUptoRow : OpenClaim := { program := "ytimdaolbdgafcaadoor", sum := "792ce0cc53137b3c09d29ba0258c5576cf6ae213685c57852be2dbefacbc73c8", func := "loop.example/pub-g01454/laws.FnFileBytes", spec := "fnFileBytes", named := ["bytes.ErrTooLarge"], apart := false, laid := [("bytes.ErrTooLarge", laid_bytes_ErrTooLarge)], narrowed := true }
def FnFileBytesUptoSaid : Prop := fnFileBytesUptoRow.holds Tryd.pinned (OpenSpec.upto fnFileBytesSpec)

/-- 'laws.FnFileHead', WHERE WHAT IT READS IS OF BULK AT MOST 1048576: true; the input reads as it did. -/
def fnFileHeadUptoRow : OpenClaim := { program := "ytimdaolbdgafcaadoor", sum := "792ce0cc53137b3c09d29ba0258c5576cf6ae213685c57852be2dbefacbc73c8", func := "loop.example/pub-g01454/laws.FnFileHead", spec := "fnFileHead", named := ["bytes.ErrTooLarge"], apart := false, laid := [("bytes.ErrTooLarge", laid_bytes_ErrTooLarge)], narrowed := true }
def FnFileHeadUptoSaid : Prop := fnFileHeadUptoRow.holds Tryd.pinned (OpenSpec.upto fnFileHeadSpec)

/-- 'laws.FnFileMagic', WHERE WHAT IT READS IS OF BULK AT MOST 1048576: true; the input reads as it did. -/
def fnFileMagicUptoRow : OpenClaim := { program := "ytimdaolbdgafcaadoor", sum := "792ce0cc53137b3c09d29ba0258c5576cf6ae213685c57852be2dbefacbc73c8", func := "loop.example/pub-g01454/laws.FnFileMagic", spec := "fnFileMagic", named := ["bytes.ErrTooLarge"], apart := false, laid := [("bytes.ErrTooLarge", laid_bytes_ErrTooLarge)], narrowed := true }
def FnFileMagicUptoSaid : Prop := fnFileMagicUptoRow.holds Tryd.pinned (OpenSpec.upto fnFileMagicSpec)

/-- 'laws.FnFileHashes', WHERE WHAT IT READS IS OF BULK AT MOST 1048576: true; the input reads as it did. -/
def fnFileHashesUptoRow : OpenClaim := { program := "ytimdaolbdgafcaadoor", sum := "792ce0cc53137b3c09d29ba0258c5576cf6ae213685c57852be2dbefacbc73c8", func := "loop.example/pub-g01454/laws.FnFileHashes", spec := "fnFileHashes", named := ["bytes.ErrTooLarge"], apart := false, laid := [("bytes.ErrTooLarge", laid_bytes_ErrTooLarge)], narrowed := true }
def FnFileHashesUptoSaid : Prop := fnFileHashesUptoRow.holds Tryd.pinned (OpenSpec.upto fnFileHashesSpec)

/-- 'laws.FnFileSizes', WHERE WHAT IT READS IS OF BULK AT MOST 1048576: true; the input reads as it did. -/
def fnFileSizesUptoRow : OpenClaim := { program := "ytimdaolbdgafcaadoor", sum := "792ce0cc53137b3c09d29ba0258c5576cf6ae213685c57852be2dbefacbc73c8", func := "loop.example/pub-g01454/laws.FnFileSizes", spec := "fnFileSizes", named := ["bytes.ErrTooLarge"], apart := false, laid := [("bytes.ErrTooLarge", laid_bytes_ErrTooLarge)], narrowed := true }
def FnFileSizesUptoSaid : Prop := fnFileSizesUptoRow.holds Tryd.pinned (OpenSpec.upto fnFileSizesSpec)

/-- 'laws.FnFilePlaces', WHERE WHAT IT READS IS OF BULK AT MOST 1048576: true; the input reads as it did. -/
def fnFilePlacesUptoRow : OpenClaim := { program := "ytimdaolbdgafcaadoor", sum := "792ce0cc53137b3c09d29ba0258c5576cf6ae213685c57852be2dbefacbc73c8", func := "loop.example/pub-g01454/laws.FnFilePlaces", spec := "fnFilePlaces", named := ["bytes.ErrTooLarge"], apart := false, laid := [("bytes.ErrTooLarge", laid_bytes_ErrTooLarge)], narrowed := true }
def FnFilePlacesUptoSaid : Prop := fnFilePlacesUptoRow.holds Tryd.pinned (OpenSpec.upto fnFilePlacesSpec)

/-- 'laws.FnFileImports', WHERE WHAT IT READS IS OF BULK AT MOST 1048576: true; the input reads as it did. -/
def fnFileImportsUptoRow : OpenClaim := { program := "ytimdaolbdgafcaadoor", sum := "792ce0cc53137b3c09d29ba0258c5576cf6ae213685c57852be2dbefacbc73c8", func := "loop.example/pub-g01454/laws.FnFileImports", spec := "fnFileImports", named := ["bytes.ErrTooLarge"], apart := false, laid := [("bytes.ErrTooLarge", laid_bytes_ErrTooLarge)], narrowed := true }
def FnFileImportsUptoSaid : Prop := fnFileImportsUptoRow.holds Tryd.pinned (OpenSpec.upto fnFileImportsSpec)

/-- 'laws.FnFileData', WHERE WHAT IT READS IS OF BULK AT MOST 1048576: true; the input reads as it did. -/
def fnFileDataUptoRow : OpenClaim := { program := "ytimdaolbdgafcaadoor", sum := "792ce0cc53137b3c09d29ba0258c5576cf6ae213685c57852be2dbefacbc73c8", func := "loop.example/pub-g01454/laws.FnFileData", spec := "fnFileData", named := ["bytes.ErrTooLarge"], apart := false, laid := [("bytes.ErrTooLarge", laid_bytes_ErrTooLarge)], narrowed := true }
def FnFileDataUptoSaid : Prop := fnFileDataUptoRow.holds Tryd.pinned (OpenSpec.upto fnFileDataSpec)

/-- 'laws.FnFileAuxs', WHERE WHAT IT READS IS OF BULK AT MOST 1048576: true; the input reads as it did. -/
def fnFileAuxsUptoRow : OpenClaim := { program := "ytimdaolbdgafcaadoor", sum := "792ce0cc53137b3c09d29ba0258c5576cf6ae213685c57852be2dbefacbc73c8", func := "loop.example/pub-g01454/laws.FnFileAuxs", spec := "fnFileAuxs", named := ["bytes.ErrTooLarge"], apart := false, laid := [("bytes.ErrTooLarge", laid_bytes_ErrTooLarge)], narrowed := true }
def FnFileAuxsUptoSaid : Prop := fnFileAuxsUptoRow.holds Tryd.pinned (OpenSpec.upto fnFileAuxsSpec)

/-- 'laws.FnFileRefs', WHERE WHAT IT READS IS OF BULK AT MOST 1048576: true; the input reads as it did. -/
def fnFileRefsUptoRow : OpenClaim := { program := "ytimdaolbdgafcaadoor", sum := "792ce0cc53137b3c09d29ba0258c5576cf6ae213685c57852be2dbefacbc73c8", func := "loop.example/pub-g01454/laws.FnFileRefs", spec := "fnFileRefs", named := ["bytes.ErrTooLarge"], apart := false, laid := [("bytes.ErrTooLarge", laid_bytes_ErrTooLarge)], narrowed := true }
def FnFileRefsUptoSaid : Prop := fnFileRefsUptoRow.holds Tryd.pinned (OpenSpec.upto fnFileRefsSpec)

/-- 'laws.FnFilePackages', WHERE WHAT IT READS IS OF BULK AT MOST 1048576: true; the input reads as it did. -/
def fnFilePackagesUptoRow : OpenClaim := { program := "ytimdaolbdgafcaadoor", sum := "792ce0cc53137b3c09d29ba0258c5576cf6ae213685c57852be2dbefacbc73c8", func := "loop.example/pub-g01454/laws.FnFilePackages", spec := "fnFilePackages", named := ["bytes.ErrTooLarge"], apart := false, laid := [("bytes.ErrTooLarge", laid_bytes_ErrTooLarge)], narrowed := true }
def FnFilePackagesUptoSaid : Prop := fnFilePackagesUptoRow.holds Tryd.pinned (OpenSpec.upto fnFilePackagesSpec)

end Rows
end Go.Proofs.YtimdaolbdgafcaaDoor
