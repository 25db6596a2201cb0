/-
  NARROWER THAN 'FOR EVERY INPUT', by the rows' own cells (each row's printed sentence says how): FnAuxiliary: laid · FnRelocationBytes: laid · FnFlagged: laid · FnInlined: laid · FnFunctionLength: laid · FnFunctionHead: laid · FnWrites: laid · FnWritesJoin: laid · FnFunctionSizes: laid · FnFunctionFiles: laid · FnFunctionInlined: laid.
  DERIVED. THE GIVEN ROWS OF THIS SEAT. 11 by the template 'for every input the law returns true; each argument reads behind the call as it read before'; 0 by the template 'total and deterministic' (their statements: YtnbojmciolecgaaDoorTotals.lean).
  GIVEN WITH THE SEED: the statements are not yours to turn. If you find one false, say at which input.
  Laid BY PROGRAM, IN A SANDBOX (cutbox-rows.mjs): the forced cells as the released guide's own fill.sh prints them over the translation 27c5001a4604b016… (all of the seat's roots in one cut). By AI agents, Wed Nov 11 2026. No macro, syntax, notation, axiom, sorry.
-/
import Derived.Test.YtnbojmciolecgaaDoorChecked
import GoSem.Claim
import GoSem.ClaimJoined
import GoSem.ClaimMapViews
import Derived.JoinedTies
import Derived.KernelRfl
namespace Go.Proofs.YtnbojmciolecgaaDoor
/- THE CELL 'sum', in the pinned program and in every row, IS THE sha256 OF THE DUMP (.gsa) THAT YtnbojmciolecgaaDoorProg.lean LOADS. Nothing in Lean hashes anything: it is a label: what it is worth is what the hold of that sum in a sandbox is worth. -/
noncomputable def Tryd.pinned : Pinned := { name := "ytnbojmciolecgaadoor", sum := "27c5001a4604b0162583afcca8e5b706d93c578ece223dd6f1da8385667e9c49", checked := Tryd.checked }
namespace Rows
def none {H : Type} : Left H := { results := [], args := [] }

/- WHAT THE LISTED PACKAGE-LEVEL VARIABLES READ AS WHEN THE CALL BEGINS. Each datum BY PROGRAM (the guide's laid-datum.mjs) off the statement by which the dump's own 'gosem.cut.vars' lays the variable. In a bare row this is a premise. The card (YtnbojmciolecgaaDoorCards.lean) ties it to the program's text. -/
def laid_bytes_ErrTooLarge {H : Type} : DataW H := .iface "*errors.errorString" (.ptr (.agg [.lit (.string [98, 121, 116, 101, 115, 46, 66, 117, 102, 102, 101, 114, 58, 32, 116, 111, 111, 32, 108, 97, 114, 103, 101])]))

/-- 'laws.FnAuxiliary': WHATEVER THE INPUT: true; the input reads as it did. -/
def fnAuxiliarySpec : ChangeSpec := { name := "fnAuxiliary", fn := fun _ => fun
  | [d] => { results := [.lit (.bool true)], args := [d] }
  | _ => none }
def fnAuxiliaryRow : OpenClaim := { program := "ytnbojmciolecgaadoor", sum := "27c5001a4604b0162583afcca8e5b706d93c578ece223dd6f1da8385667e9c49", func := "loop.example/pub-g01454/laws.FnAuxiliary", spec := "fnAuxiliary", named := ["bytes.ErrTooLarge"], apart := false, laid := [("bytes.ErrTooLarge", laid_bytes_ErrTooLarge)] }
def FnAuxiliarySaid : Prop := fnAuxiliaryRow.holds Tryd.pinned (OpenSpec.ofChange fnAuxiliarySpec)

/-- ITS FALSE NEIGHBOUR: 'it returns false'. Refute it at one input. -/
def fnAuxiliaryWrong : ChangeSpec := { name := "fnAuxiliary", fn := fun _ => fun
  | [d] => { results := [.lit (.bool false)], args := [d] }
  | _ => none }
def FnAuxiliaryWrongFalsely : Prop := fnAuxiliaryRow.holds Tryd.pinned (OpenSpec.ofChange fnAuxiliaryWrong)

/-- 'laws.FnRelocationBytes': WHATEVER THE INPUT: true; the input reads as it did. -/
def fnRelocationBytesSpec : ChangeSpec := { name := "fnRelocationBytes", fn := fun _ => fun
  | [d] => { results := [.lit (.bool true)], args := [d] }
  | _ => none }
def fnRelocationBytesRow : OpenClaim := { program := "ytnbojmciolecgaadoor", sum := "27c5001a4604b0162583afcca8e5b706d93c578ece223dd6f1da8385667e9c49", func := "loop.example/pub-g01454/laws.FnRelocationBytes", spec := "fnRelocationBytes", named := ["bytes.ErrTooLarge"], apart := false, laid := [("bytes.ErrTooLarge", laid_bytes_ErrTooLarge)] }
def FnRelocationBytesSaid : Prop := fnRelocationBytesRow.holds Tryd.pinned (OpenSpec.ofChange fnRelocationBytesSpec)

/-- ITS FALSE NEIGHBOUR: 'it returns false'. Refute it at one input. -/
def fnRelocationBytesWrong : ChangeSpec := { name := "fnRelocationBytes", fn := fun _ => fun
  | [d] => { results := [.lit (.bool false)], args := [d] }
  | _ => none }
def FnRelocationBytesWrongFalsely : Prop := fnRelocationBytesRow.holds Tryd.pinned (OpenSpec.ofChange fnRelocationBytesWrong)

/-- 'laws.FnFlagged': WHATEVER THE INPUT: true; the input reads as it did. -/
def fnFlaggedSpec : ChangeSpec := { name := "fnFlagged", fn := fun _ => fun
  | [d] => { results := [.lit (.bool true)], args := [d] }
  | _ => none }
def fnFlaggedRow : OpenClaim := { program := "ytnbojmciolecgaadoor", sum := "27c5001a4604b0162583afcca8e5b706d93c578ece223dd6f1da8385667e9c49", func := "loop.example/pub-g01454/laws.FnFlagged", spec := "fnFlagged", named := ["bytes.ErrTooLarge"], apart := false, laid := [("bytes.ErrTooLarge", laid_bytes_ErrTooLarge)] }
def FnFlaggedSaid : Prop := fnFlaggedRow.holds Tryd.pinned (OpenSpec.ofChange fnFlaggedSpec)

/-- ITS FALSE NEIGHBOUR: 'it returns false'. Refute it at one input. -/
def fnFlaggedWrong : ChangeSpec := { name := "fnFlagged", fn := fun _ => fun
  | [d] => { results := [.lit (.bool false)], args := [d] }
  | _ => none }
def FnFlaggedWrongFalsely : Prop := fnFlaggedRow.holds Tryd.pinned (OpenSpec.ofChange fnFlaggedWrong)

/-- 'laws.FnInlined': WHATEVER THE INPUT: true; the input reads as it did. -/
def fnInlinedSpec : ChangeSpec := { name := "fnInlined", fn := fun _ => fun
  | [d1, d2] => { results := [.lit (.bool true)], args := [d1, d2] }
  | _ => none }
def fnInlinedRow : OpenClaim := { program := "ytnbojmciolecgaadoor", sum := "27c5001a4604b0162583afcca8e5b706d93c578ece223dd6f1da8385667e9c49", func := "loop.example/pub-g01454/laws.FnInlined", spec := "fnInlined", unfollowed := true, recurses := true, named := ["bytes.ErrTooLarge"], apart := false, laid := [("bytes.ErrTooLarge", laid_bytes_ErrTooLarge)] }
def FnInlinedSaid : Prop := fnInlinedRow.holds Tryd.pinned (OpenSpec.ofChange fnInlinedSpec)

/-- ITS FALSE NEIGHBOUR: 'it returns false'. Refute it at one input. -/
def fnInlinedWrong : ChangeSpec := { name := "fnInlined", fn := fun _ => fun
  | [d1, d2] => { results := [.lit (.bool false)], args := [d1, d2] }
  | _ => none }
def FnInlinedWrongFalsely : Prop := fnInlinedRow.holds Tryd.pinned (OpenSpec.ofChange fnInlinedWrong)

/-- 'laws.FnFunctionLength': WHATEVER THE INPUT: true; the input reads as it did. -/
def fnFunctionLengthSpec : ChangeSpec := { name := "fnFunctionLength", fn := fun _ => fun
  | [d1, d2, d3] => { results := [.lit (.bool true)], args := [d1, d2, d3] }
  | _ => none }
def fnFunctionLengthRow : OpenClaim := { program := "ytnbojmciolecgaadoor", sum := "27c5001a4604b0162583afcca8e5b706d93c578ece223dd6f1da8385667e9c49", func := "loop.example/pub-g01454/laws.FnFunctionLength", spec := "fnFunctionLength", unfollowed := true, recurses := true, named := ["bytes.ErrTooLarge"], apart := false, laid := [("bytes.ErrTooLarge", laid_bytes_ErrTooLarge)] }
def FnFunctionLengthSaid : Prop := fnFunctionLengthRow.holds Tryd.pinned (OpenSpec.ofChange fnFunctionLengthSpec)

/-- ITS FALSE NEIGHBOUR: 'it returns false'. Refute it at one input. -/
def fnFunctionLengthWrong : ChangeSpec := { name := "fnFunctionLength", fn := fun _ => fun
  | [d1, d2, d3] => { results := [.lit (.bool false)], args := [d1, d2, d3] }
  | _ => none }
def FnFunctionLengthWrongFalsely : Prop := fnFunctionLengthRow.holds Tryd.pinned (OpenSpec.ofChange fnFunctionLengthWrong)

/-- 'laws.FnFunctionHead': WHATEVER THE INPUT: true; the input reads as it did. -/
def fnFunctionHeadSpec : ChangeSpec := { name := "fnFunctionHead", fn := fun _ => fun
  | [d1, d2] => { results := [.lit (.bool true)], args := [d1, d2] }
  | _ => none }
def fnFunctionHeadRow : OpenClaim := { program := "ytnbojmciolecgaadoor", sum := "27c5001a4604b0162583afcca8e5b706d93c578ece223dd6f1da8385667e9c49", func := "loop.example/pub-g01454/laws.FnFunctionHead", spec := "fnFunctionHead", unfollowed := true, recurses := true, named := ["bytes.ErrTooLarge"], apart := false, laid := [("bytes.ErrTooLarge", laid_bytes_ErrTooLarge)] }
def FnFunctionHeadSaid : Prop := fnFunctionHeadRow.holds Tryd.pinned (OpenSpec.ofChange fnFunctionHeadSpec)

/-- ITS FALSE NEIGHBOUR: 'it returns false'. Refute it at one input. -/
def fnFunctionHeadWrong : ChangeSpec := { name := "fnFunctionHead", fn := fun _ => fun
  | [d1, d2] => { results := [.lit (.bool false)], args := [d1, d2] }
  | _ => none }
def FnFunctionHeadWrongFalsely : Prop := fnFunctionHeadRow.holds Tryd.pinned (OpenSpec.ofChange fnFunctionHeadWrong)

/-- 'laws.FnWrites': WHATEVER THE INPUT: true; the input reads as it did. -/
def fnWritesSpec : ChangeSpec := { name := "fnWrites", fn := fun _ => fun
  | [d] => { results := [.lit (.bool true)], args := [d] }
  | _ => none }
def fnWritesRow : OpenClaim := { program := "ytnbojmciolecgaadoor", sum := "27c5001a4604b0162583afcca8e5b706d93c578ece223dd6f1da8385667e9c49", func := "loop.example/pub-g01454/laws.FnWrites", spec := "fnWrites", named := ["bytes.ErrTooLarge"], apart := false, laid := [("bytes.ErrTooLarge", laid_bytes_ErrTooLarge)] }
def FnWritesSaid : Prop := fnWritesRow.holds Tryd.pinned (OpenSpec.ofChange fnWritesSpec)

/-- ITS FALSE NEIGHBOUR: 'it returns false'. Refute it at one input. -/
def fnWritesWrong : ChangeSpec := { name := "fnWrites", fn := fun _ => fun
  | [d] => { results := [.lit (.bool false)], args := [d] }
  | _ => none }
def FnWritesWrongFalsely : Prop := fnWritesRow.holds Tryd.pinned (OpenSpec.ofChange fnWritesWrong)

/-- 'laws.FnWritesJoin': WHATEVER THE INPUT: true; the input reads as it did. -/
def fnWritesJoinSpec : ChangeSpec := { name := "fnWritesJoin", fn := fun _ => fun
  | [d1, d2] => { results := [.lit (.bool true)], args := [d1, d2] }
  | _ => none }
def fnWritesJoinRow : OpenClaim := { program := "ytnbojmciolecgaadoor", sum := "27c5001a4604b0162583afcca8e5b706d93c578ece223dd6f1da8385667e9c49", func := "loop.example/pub-g01454/laws.FnWritesJoin", spec := "fnWritesJoin", named := ["bytes.ErrTooLarge"], apart := false, laid := [("bytes.ErrTooLarge", laid_bytes_ErrTooLarge)] }
def FnWritesJoinSaid : Prop := fnWritesJoinRow.holds Tryd.pinned (OpenSpec.ofChange fnWritesJoinSpec)

/-- ITS FALSE NEIGHBOUR: 'it returns false'. Refute it at one input. -/
def fnWritesJoinWrong : ChangeSpec := { name := "fnWritesJoin", fn := fun _ => fun
  | [d1, d2] => { results := [.lit (.bool false)], args := [d1, d2] }
  | _ => none }
def FnWritesJoinWrongFalsely : Prop := fnWritesJoinRow.holds Tryd.pinned (OpenSpec.ofChange fnWritesJoinWrong)

/-- 'laws.FnFunctionSizes': WHATEVER THE INPUT: true; the input reads as it did. -/
def fnFunctionSizesSpec : ChangeSpec := { name := "fnFunctionSizes", fn := fun _ => fun
  | [d] => { results := [.lit (.bool true)], args := [d] }
  | _ => none }
def fnFunctionSizesRow : OpenClaim := { program := "ytnbojmciolecgaadoor", sum := "27c5001a4604b0162583afcca8e5b706d93c578ece223dd6f1da8385667e9c49", func := "loop.example/pub-g01454/laws.FnFunctionSizes", spec := "fnFunctionSizes", unfollowed := true, recurses := true, named := ["bytes.ErrTooLarge"], apart := false, laid := [("bytes.ErrTooLarge", laid_bytes_ErrTooLarge)] }
def FnFunctionSizesSaid : Prop := fnFunctionSizesRow.holds Tryd.pinned (OpenSpec.ofChange fnFunctionSizesSpec)

/-- ITS FALSE NEIGHBOUR: 'it returns false'. Refute it at one input. -/
def fnFunctionSizesWrong : ChangeSpec := { name := "fnFunctionSizes", fn := fun _ => fun
  | [d] => { results := [.lit (.bool false)], args := [d] }
  | _ => none }
def FnFunctionSizesWrongFalsely : Prop := fnFunctionSizesRow.holds Tryd.pinned (OpenSpec.ofChange fnFunctionSizesWrong)

/-- 'laws.FnFunctionFiles': WHATEVER THE INPUT: true; the input reads as it did. -/
def fnFunctionFilesSpec : ChangeSpec := { name := "fnFunctionFiles", fn := fun _ => fun
  | [d] => { results := [.lit (.bool true)], args := [d] }
  | _ => none }
def fnFunctionFilesRow : OpenClaim := { program := "ytnbojmciolecgaadoor", sum := "27c5001a4604b0162583afcca8e5b706d93c578ece223dd6f1da8385667e9c49", func := "loop.example/pub-g01454/laws.FnFunctionFiles", spec := "fnFunctionFiles", unfollowed := true, recurses := true, named := ["bytes.ErrTooLarge"], apart := false, laid := [("bytes.ErrTooLarge", laid_bytes_ErrTooLarge)] }
def FnFunctionFilesSaid : Prop := fnFunctionFilesRow.holds Tryd.pinned (OpenSpec.ofChange fnFunctionFilesSpec)

/-- ITS FALSE NEIGHBOUR: 'it returns false'. Refute it at one input. -/
def fnFunctionFilesWrong : ChangeSpec := { name := "fnFunctionFiles", fn := fun _ => fun
  | [d] => { results := [.lit (.bool false)], args := [d] }
  | _ => none }
def FnFunctionFilesWrongFalsely : Prop := fnFunctionFilesRow.holds Tryd.pinned (OpenSpec.ofChange fnFunctionFilesWrong)

/-- 'laws.FnFunctionInlined': WHATEVER THE INPUT: true; the input reads as it did. -/
def fnFunctionInlinedSpec : ChangeSpec := { name := "fnFunctionInlined", fn := fun _ => fun
  | [d] => { results := [.lit (.bool true)], args := [d] }
  | _ => none }
def fnFunctionInlinedRow : OpenClaim := { program := "ytnbojmciolecgaadoor", sum := "27c5001a4604b0162583afcca8e5b706d93c578ece223dd6f1da8385667e9c49", func := "loop.example/pub-g01454/laws.FnFunctionInlined", spec := "fnFunctionInlined", unfollowed := true, recurses := true, named := ["bytes.ErrTooLarge"], apart := false, laid := [("bytes.ErrTooLarge", laid_bytes_ErrTooLarge)] }
def FnFunctionInlinedSaid : Prop := fnFunctionInlinedRow.holds Tryd.pinned (OpenSpec.ofChange fnFunctionInlinedSpec)

/-- ITS FALSE NEIGHBOUR: 'it returns false'. Refute it at one input. -/
def fnFunctionInlinedWrong : ChangeSpec := { name := "fnFunctionInlined", fn := fun _ => fun
  | [d] => { results := [.lit (.bool false)], args := [d] }
  | _ => none }
def FnFunctionInlinedWrongFalsely : Prop := fnFunctionInlinedRow.holds Tryd.pinned (OpenSpec.ofChange fnFunctionInlinedWrong)

/- THE SECOND FORM. 'bulk': how many values and letters a reading holds, each counted each time it is reached (what is shared counts as often as it is met; a slice's spare places count too). A statement '..UptoSaid' is the law's where the arguments, and the package variables that the reading takes, are together of bulk at most 1048576: NARROWER than '..Said'. Prove '..Said' where nothing that the law and all that it calls make is longer than what came in: it says more and counts as full. Else prove '..UptoSaid'. A law counts once. -/
mutual
def uptoBulk {H : Type} : DataW H → Nat
  | .lit (.string bytes) => bytes.length + 1
  | .lit _ => 1
  | .nil => 1
  | .ptr d => uptoBulk d + 1
  | .slice elems spare => uptoBulkAll elems + uptoBulkAll spare + 1
  | .agg parts => uptoBulkAll parts + 1
  | .iface _ d => uptoBulk d + 1
  | .map entries => uptoBulkEntries entries + 1
  | .held _ => 1
def uptoBulkAll {H : Type} : List (DataW H) → Nat
  | [] => 0
  | d :: r => uptoBulk d + uptoBulkAll r
def uptoBulkEntries {H : Type} : List (Lit × DataW H) → Nat
  | [] => 0
  | x :: r => uptoBulkEntry x + uptoBulkEntries r
def uptoBulkEntry {H : Type} : Lit × DataW H → Nat
  | (.string bytes, d) => bytes.length + uptoBulk d + 1
  | (_, d) => uptoBulk d + 1
 end
def uptoSmall : (H : Type) → List (DataW H) → Bool := fun _ ds => decide (uptoBulkAll ds ≤ 1048576)
def OpenSpec.upto (s : _root_.Go.ChangeSpec) : _root_.Go.OpenSpec := { _root_.Go.OpenSpec.ofChange s with cond := some uptoSmall }

/-- 'laws.FnAuxiliary', WHERE WHAT IT READS IS OF BULK AT MOST 1048576: true; the input reads as it did. -/
def fnAuxiliaryUptoRow : OpenClaim := { program := "ytnbojmciolecgaadoor", sum := "27c5001a4604b0162583afcca8e5b706d93c578ece223dd6f1da8385667e9c49", func := "loop.example/pub-g01454/laws.FnAuxiliary", spec := "fnAuxiliary", named := ["bytes.ErrTooLarge"], apart := false, laid := [("bytes.ErrTooLarge", laid_bytes_ErrTooLarge)], narrowed := true }
def FnAuxiliaryUptoSaid : Prop := fnAuxiliaryUptoRow.holds Tryd.pinned (OpenSpec.upto fnAuxiliarySpec)

/-- 'laws.FnRelocationBytes', WHERE WHAT IT READS IS OF BULK AT MOST 1048576: true; the input reads as it did. -/
def fnRelocationBytesUptoRow : OpenClaim := { program := "ytnbojmciolecgaadoor", sum := "27c5001a4604b0162583afcca8e5b706d93c578ece223dd6f1da8385667e9c49", func := "loop.example/pub-g01454/laws.FnRelocationBytes", spec := "fnRelocationBytes", named := ["bytes.ErrTooLarge"], apart := false, laid := [("bytes.ErrTooLarge", laid_bytes_ErrTooLarge)], narrowed := true }
def FnRelocationBytesUptoSaid : Prop := fnRelocationBytesUptoRow.holds Tryd.pinned (OpenSpec.upto fnRelocationBytesSpec)

/-- 'laws.FnFlagged', WHERE WHAT IT READS IS OF BULK AT MOST 1048576: true; the input reads as it did. -/
def fnFlaggedUptoRow : OpenClaim := { program := "ytnbojmciolecgaadoor", sum := "27c5001a4604b0162583afcca8e5b706d93c578ece223dd6f1da8385667e9c49", func := "loop.example/pub-g01454/laws.FnFlagged", spec := "fnFlagged", named := ["bytes.ErrTooLarge"], apart := false, laid := [("bytes.ErrTooLarge", laid_bytes_ErrTooLarge)], narrowed := true }
def FnFlaggedUptoSaid : Prop := fnFlaggedUptoRow.holds Tryd.pinned (OpenSpec.upto fnFlaggedSpec)

/-- 'laws.FnInlined', WHERE WHAT IT READS IS OF BULK AT MOST 1048576: true; the input reads as it did. -/
def fnInlinedUptoRow : OpenClaim := { program := "ytnbojmciolecgaadoor", sum := "27c5001a4604b0162583afcca8e5b706d93c578ece223dd6f1da8385667e9c49", func := "loop.example/pub-g01454/laws.FnInlined", spec := "fnInlined", unfollowed := true, recurses := true, named := ["bytes.ErrTooLarge"], apart := false, laid := [("bytes.ErrTooLarge", laid_bytes_ErrTooLarge)], narrowed := true }
def FnInlinedUptoSaid : Prop := fnInlinedUptoRow.holds Tryd.pinned (OpenSpec.upto fnInlinedSpec)

/-- 'laws.FnFunctionLength', WHERE WHAT IT READS IS OF BULK AT MOST 1048576: true; the input reads as it did. -/
def fnFunctionLengthUptoRow : OpenClaim := { program := "ytnbojmciolecgaadoor", sum := "27c5001a4604b0162583afcca8e5b706d93c578ece223dd6f1da8385667e9c49", func := "loop.example/pub-g01454/laws.FnFunctionLength", spec := "fnFunctionLength", unfollowed := true, recurses := true, named := ["bytes.ErrTooLarge"], apart := false, laid := [("bytes.ErrTooLarge", laid_bytes_ErrTooLarge)], narrowed := true }
def FnFunctionLengthUptoSaid : Prop := fnFunctionLengthUptoRow.holds Tryd.pinned (OpenSpec.upto fnFunctionLengthSpec)

/-- 'laws.FnFunctionHead', WHERE WHAT IT READS IS OF BULK AT MOST 1048576: true; the input reads as it did. -/
def fnFunctionHeadUptoRow : OpenClaim := { program := "ytnbojmciolecgaadoor", sum := "27c5001a4604b0162583afcca8e5b706d93c578ece223dd6f1da8385667e9c49", func := "loop.example/pub-g01454/laws.FnFunctionHead", spec := "fnFunctionHead", unfollowed := true, recurses := true, named := ["bytes.ErrTooLarge"], apart := false, laid := [("bytes.ErrTooLarge", laid_bytes_ErrTooLarge)], narrowed := true }
def FnFunctionHeadUptoSaid : Prop := fnFunctionHeadUptoRow.holds Tryd.pinned (OpenSpec.upto fnFunctionHeadSpec)

/-- 'laws.FnWrites', WHERE WHAT IT READS IS OF BULK AT MOST 1048576: true; the input reads as it did. -/
def fnWritesUptoRow : OpenClaim := { program := "ytnbojmciolecgaadoor", sum := "27c5001a4604b0162583afcca8e5b706d93c578ece223dd6f1da8385667e9c49", func := "loop.example/pub-g01454/laws.FnWrites", spec := "fnWrites", named := ["bytes.ErrTooLarge"], apart := false, laid := [("bytes.ErrTooLarge", laid_bytes_ErrTooLarge)], narrowed := true }
def FnWritesUptoSaid : Prop := fnWritesUptoRow.holds Tryd.pinned (OpenSpec.upto fnWritesSpec)

/-- 'laws.FnWritesJoin', WHERE WHAT IT READS IS OF BULK AT MOST 1048576: true; the input reads as it did. -/
def fnWritesJoinUptoRow : OpenClaim := { program := "ytnbojmciolecgaadoor", sum := "27c5001a4604b0162583afcca8e5b706d93c578ece223dd6f1da8385667e9c49", func := "loop.example/pub-g01454/laws.FnWritesJoin", spec := "fnWritesJoin", named := ["bytes.ErrTooLarge"], apart := false, laid := [("bytes.ErrTooLarge", laid_bytes_ErrTooLarge)], narrowed := true }
def FnWritesJoinUptoSaid : Prop := fnWritesJoinUptoRow.holds Tryd.pinned (OpenSpec.upto fnWritesJoinSpec)

/-- 'laws.FnFunctionSizes', WHERE WHAT IT READS IS OF BULK AT MOST 1048576: true; the input reads as it did. -/
def fnFunctionSizesUptoRow : OpenClaim := { program := "ytnbojmciolecgaadoor", sum := "27c5001a4604b0162583afcca8e5b706d93c578ece223dd6f1da8385667e9c49", func := "loop.example/pub-g01454/laws.FnFunctionSizes", spec := "fnFunctionSizes", unfollowed := true, recurses := true, named := ["bytes.ErrTooLarge"], apart := false, laid := [("bytes.ErrTooLarge", laid_bytes_ErrTooLarge)], narrowed := true }
def FnFunctionSizesUptoSaid : Prop := fnFunctionSizesUptoRow.holds Tryd.pinned (OpenSpec.upto fnFunctionSizesSpec)

/-- 'laws.FnFunctionFiles', WHERE WHAT IT READS IS OF BULK AT MOST 1048576: true; the input reads as it did. -/
def fnFunctionFilesUptoRow : OpenClaim := { program := "ytnbojmciolecgaadoor", sum := "27c5001a4604b0162583afcca8e5b706d93c578ece223dd6f1da8385667e9c49", func := "loop.example/pub-g01454/laws.FnFunctionFiles", spec := "fnFunctionFiles", unfollowed := true, recurses := true, named := ["bytes.ErrTooLarge"], apart := false, laid := [("bytes.ErrTooLarge", laid_bytes_ErrTooLarge)], narrowed := true }
def FnFunctionFilesUptoSaid : Prop := fnFunctionFilesUptoRow.holds Tryd.pinned (OpenSpec.upto fnFunctionFilesSpec)

/-- 'laws.FnFunctionInlined', WHERE WHAT IT READS IS OF BULK AT MOST 1048576: true; the input reads as it did. -/
def fnFunctionInlinedUptoRow : OpenClaim := { program := "ytnbojmciolecgaadoor", sum := "27c5001a4604b0162583afcca8e5b706d93c578ece223dd6f1da8385667e9c49", func := "loop.example/pub-g01454/laws.FnFunctionInlined", spec := "fnFunctionInlined", unfollowed := true, recurses := true, named := ["bytes.ErrTooLarge"], apart := false, laid := [("bytes.ErrTooLarge", laid_bytes_ErrTooLarge)], narrowed := true }
def FnFunctionInlinedUptoSaid : Prop := fnFunctionInlinedUptoRow.holds Tryd.pinned (OpenSpec.upto fnFunctionInlinedSpec)

end Rows
end Go.Proofs.YtnbojmciolecgaaDoor
