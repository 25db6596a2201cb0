/-
  NARROWER THAN 'FOR EVERY INPUT', by the rows' own cells (each row's printed sentence says how): FnPackVersion: ifaces, laid · FnPackBack: ifaces, laid · FnPackOne: ifaces, laid · FnPackFacts: laid · FnPackAlone: laid · FnPackRows: laid · FnPackCounts: laid.
  DERIVED. THE GIVEN ROWS OF THIS SEAT. 7 by the template 'for every input the law returns true; each argument reads behind the call as it read before'; 0 by the template 'total and deterministic' (their statements: YtedjadicdodahaaGreatDoorTotals.lean).
  GIVEN WITH THE SEED: the statements are not yours to turn. If you find one false, say at which input.
  Laid BY PROGRAM, IN A SANDBOX (cutbox-rows.mjs): the forced cells as the released guide's own fill.sh prints them over the translation 17e4ac8fe4f01cec… (all of the seat's roots in one cut). By AI agents, Wed Nov 11 2026. No macro, syntax, notation, axiom, sorry.
-/
import Derived.Test.YtedjadicdodahaaGreatDoorChecked
import GoSem.Claim
import GoSem.ClaimJoined
import GoSem.ClaimMapViews
import Derived.JoinedTies
import Derived.KernelRfl
namespace Go.Proofs.YtedjadicdodahaaGreatDoor
/- THE CELL 'sum', in the pinned program and in every row, IS THE sha256 OF THE DUMP (.gsa) THAT YtedjadicdodahaaGreatDoorProg.lean LOADS. Nothing in Lean hashes anything: it is a label: what it is worth is what the hold of that sum in a sandbox is worth. -/
noncomputable def Tryz.pinned : Pinned := { name := "ytedjadicdodahaagreatdoor", sum := "17e4ac8fe4f01cec73ca74968a0711ed59a858d4fb1af256aa288296dd26eac2", checked := Tryz.checked }
namespace Rows
def none {H : Type} : Left H := { results := [], args := [] }

/- WHAT THE LISTED PACKAGE-LEVEL VARIABLES READ AS WHEN THE CALL BEGINS. Each datum BY PROGRAM (the guide's laid-datum.mjs) off the statement by which the dump's own 'gosem.cut.vars' lays the variable. In a bare row this is a premise. The card (YtedjadicdodahaaGreatDoorCards.lean) ties it to the program's text. -/
def laid_io_ErrShortWrite {H : Type} : DataW H := .iface "*errors.errorString" (.ptr (.agg [.lit (.string [115, 104, 111, 114, 116, 32, 119, 114, 105, 116, 101])]))
def laid_io_errInvalidWrite {H : Type} : DataW H := .iface "*errors.errorString" (.ptr (.agg [.lit (.string [105, 110, 118, 97, 108, 105, 100, 32, 119, 114, 105, 116, 101, 32, 114, 101, 115, 117, 108, 116])]))
def laid_io_ErrShortBuffer {H : Type} : DataW H := .iface "*errors.errorString" (.ptr (.agg [.lit (.string [115, 104, 111, 114, 116, 32, 98, 117, 102, 102, 101, 114])]))
def laid_io_EOF {H : Type} : DataW H := .iface "*errors.errorString" (.ptr (.agg [.lit (.string [69, 79, 70])]))
def laid_io_ErrUnexpectedEOF {H : Type} : DataW H := .iface "*errors.errorString" (.ptr (.agg [.lit (.string [117, 110, 101, 120, 112, 101, 99, 116, 101, 100, 32, 69, 79, 70])]))
def laid_bytes_ErrTooLarge {H : Type} : DataW H := .iface "*errors.errorString" (.ptr (.agg [.lit (.string [98, 121, 116, 101, 115, 46, 66, 117, 102, 102, 101, 114, 58, 32, 116, 111, 111, 32, 108, 97, 114, 103, 101])]))
def laid_loop_example_pub_g01454_pub_pkgbits_overflow {H : Type} : DataW H := .iface "*errors.errorString" (.ptr (.agg [.lit (.string [112, 107, 103, 98, 105, 116, 115, 58, 32, 114, 101, 97, 100, 85, 118, 97, 114, 105, 110, 116, 32, 111, 118, 101, 114, 102, 108, 111, 119, 115, 32, 97, 32, 54, 52, 45, 98, 105, 116, 32, 105, 110, 116, 101, 103, 101, 114])]))
def laid_loop_example_pub_g01454_pub_pkgbits_introduced {H : Type} : DataW H := .agg [.lit (.int .u32 1), .lit (.int .u32 0), .lit (.int .u32 0), .lit (.int .u32 2), .lit (.int .u32 0), .lit (.int .u32 3), .lit (.int .u32 4), .lit (.int .u32 5)]
def laid_loop_example_pub_g01454_pub_pkgbits_removed {H : Type} : DataW H := .agg [.lit (.int .u32 0), .lit (.int .u32 2), .lit (.int .u32 2), .lit (.int .u32 0), .lit (.int .u32 2), .lit (.int .u32 0), .lit (.int .u32 0), .lit (.int .u32 0)]

/-- 'laws.FnPackVersion': WHATEVER THE INPUT: true; the input reads as it did. -/
def fnPackVersionSpec : ChangeSpec := { name := "fnPackVersion", vars := ["loop.example/pub-g01454/pub/pkgbits.introduced", "loop.example/pub-g01454/pub/pkgbits.removed", "loop.example/pub-g01454/pub/pkgbits.overflow"], fn := fun _ => fun
  | [d1, d2, d3, g1, g2, g3] => { results := [.lit (.bool true)], args := [d1, d2, d3], vars := [g1, g2, g3] }
  | _ => none }
def fnPackVersionRow : OpenClaim := { program := "ytedjadicdodahaagreatdoor", sum := "17e4ac8fe4f01cec73ca74968a0711ed59a858d4fb1af256aa288296dd26eac2", func := "loop.example/pub-g01454/laws.FnPackVersion", spec := "fnPackVersion", unfollowed := true, recurses := true, named := ["bytes.ErrTooLarge", "io.errInvalidWrite", "io.ErrShortWrite", "io.EOF", "loop.example/pub-g01454/pub/pkgbits.introduced", "loop.example/pub-g01454/pub/pkgbits.removed", "io.ErrShortBuffer", "io.ErrUnexpectedEOF", "loop.example/pub-g01454/pub/pkgbits.overflow"], ifaces := true, plainKeys := false, apart := false, laid := [("io.ErrShortWrite", laid_io_ErrShortWrite), ("io.errInvalidWrite", laid_io_errInvalidWrite), ("io.ErrShortBuffer", laid_io_ErrShortBuffer), ("io.EOF", laid_io_EOF), ("io.ErrUnexpectedEOF", laid_io_ErrUnexpectedEOF), ("bytes.ErrTooLarge", laid_bytes_ErrTooLarge), ("loop.example/pub-g01454/pub/pkgbits.overflow", laid_loop_example_pub_g01454_pub_pkgbits_overflow), ("loop.example/pub-g01454/pub/pkgbits.introduced", laid_loop_example_pub_g01454_pub_pkgbits_introduced), ("loop.example/pub-g01454/pub/pkgbits.removed", laid_loop_example_pub_g01454_pub_pkgbits_removed)] }
def FnPackVersionSaid : Prop := fnPackVersionRow.holds Tryz.pinned (OpenSpec.ofChange fnPackVersionSpec)

/-- ITS FALSE NEIGHBOUR: 'it returns false'. Refute it at one input. -/
def fnPackVersionWrong : ChangeSpec := { name := "fnPackVersion", vars := ["loop.example/pub-g01454/pub/pkgbits.introduced", "loop.example/pub-g01454/pub/pkgbits.removed", "loop.example/pub-g01454/pub/pkgbits.overflow"], fn := fun _ => fun
  | [d1, d2, d3, g1, g2, g3] => { results := [.lit (.bool false)], args := [d1, d2, d3], vars := [g1, g2, g3] }
  | _ => none }
def FnPackVersionWrongFalsely : Prop := fnPackVersionRow.holds Tryz.pinned (OpenSpec.ofChange fnPackVersionWrong)

/-- 'laws.FnPackBack': WHATEVER THE INPUT: true; the input reads as it did. -/
def fnPackBackSpec : ChangeSpec := { name := "fnPackBack", vars := ["loop.example/pub-g01454/pub/pkgbits.introduced", "loop.example/pub-g01454/pub/pkgbits.removed", "loop.example/pub-g01454/pub/pkgbits.overflow"], fn := fun _ => fun
  | [d1, d2, d3, d4, d5, g1, g2, g3] => { results := [.lit (.bool true)], args := [d1, d2, d3, d4, d5], vars := [g1, g2, g3] }
  | _ => none }
def fnPackBackRow : OpenClaim := { program := "ytedjadicdodahaagreatdoor", sum := "17e4ac8fe4f01cec73ca74968a0711ed59a858d4fb1af256aa288296dd26eac2", func := "loop.example/pub-g01454/laws.FnPackBack", spec := "fnPackBack", unfollowed := true, recurses := true, named := ["bytes.ErrTooLarge", "io.errInvalidWrite", "io.ErrShortWrite", "io.EOF", "loop.example/pub-g01454/pub/pkgbits.introduced", "loop.example/pub-g01454/pub/pkgbits.removed", "io.ErrShortBuffer", "io.ErrUnexpectedEOF", "loop.example/pub-g01454/pub/pkgbits.overflow"], ifaces := true, plainKeys := false, apart := false, laid := [("io.ErrShortWrite", laid_io_ErrShortWrite), ("io.errInvalidWrite", laid_io_errInvalidWrite), ("io.ErrShortBuffer", laid_io_ErrShortBuffer), ("io.EOF", laid_io_EOF), ("io.ErrUnexpectedEOF", laid_io_ErrUnexpectedEOF), ("bytes.ErrTooLarge", laid_bytes_ErrTooLarge), ("loop.example/pub-g01454/pub/pkgbits.overflow", laid_loop_example_pub_g01454_pub_pkgbits_overflow), ("loop.example/pub-g01454/pub/pkgbits.introduced", laid_loop_example_pub_g01454_pub_pkgbits_introduced), ("loop.example/pub-g01454/pub/pkgbits.removed", laid_loop_example_pub_g01454_pub_pkgbits_removed)] }
def FnPackBackSaid : Prop := fnPackBackRow.holds Tryz.pinned (OpenSpec.ofChange fnPackBackSpec)

/-- ITS FALSE NEIGHBOUR: 'it returns false'. Refute it at one input. -/
def fnPackBackWrong : ChangeSpec := { name := "fnPackBack", vars := ["loop.example/pub-g01454/pub/pkgbits.introduced", "loop.example/pub-g01454/pub/pkgbits.removed", "loop.example/pub-g01454/pub/pkgbits.overflow"], fn := fun _ => fun
  | [d1, d2, d3, d4, d5, g1, g2, g3] => { results := [.lit (.bool false)], args := [d1, d2, d3, d4, d5], vars := [g1, g2, g3] }
  | _ => none }
def FnPackBackWrongFalsely : Prop := fnPackBackRow.holds Tryz.pinned (OpenSpec.ofChange fnPackBackWrong)

/-- 'laws.FnPackOne': WHATEVER THE INPUT: true; the input reads as it did. -/
def fnPackOneSpec : ChangeSpec := { name := "fnPackOne", vars := ["loop.example/pub-g01454/pub/pkgbits.introduced", "loop.example/pub-g01454/pub/pkgbits.removed", "loop.example/pub-g01454/pub/pkgbits.overflow"], fn := fun _ => fun
  | [d1, d2, d3, d4, g1, g2, g3] => { results := [.lit (.bool true)], args := [d1, d2, d3, d4], vars := [g1, g2, g3] }
  | _ => none }
def fnPackOneRow : OpenClaim := { program := "ytedjadicdodahaagreatdoor", sum := "17e4ac8fe4f01cec73ca74968a0711ed59a858d4fb1af256aa288296dd26eac2", func := "loop.example/pub-g01454/laws.FnPackOne", spec := "fnPackOne", unfollowed := true, recurses := true, named := ["bytes.ErrTooLarge", "io.errInvalidWrite", "io.ErrShortWrite", "io.EOF", "loop.example/pub-g01454/pub/pkgbits.introduced", "loop.example/pub-g01454/pub/pkgbits.removed", "io.ErrShortBuffer", "io.ErrUnexpectedEOF", "loop.example/pub-g01454/pub/pkgbits.overflow"], ifaces := true, plainKeys := false, apart := false, laid := [("io.ErrShortWrite", laid_io_ErrShortWrite), ("io.errInvalidWrite", laid_io_errInvalidWrite), ("io.ErrShortBuffer", laid_io_ErrShortBuffer), ("io.EOF", laid_io_EOF), ("io.ErrUnexpectedEOF", laid_io_ErrUnexpectedEOF), ("bytes.ErrTooLarge", laid_bytes_ErrTooLarge), ("loop.example/pub-g01454/pub/pkgbits.overflow", laid_loop_example_pub_g01454_pub_pkgbits_overflow), ("loop.example/pub-g01454/pub/pkgbits.introduced", laid_loop_example_pub_g01454_pub_pkgbits_introduced), ("loop.example/pub-g01454/pub/pkgbits.removed", laid_loop_example_pub_g01454_pub_pkgbits_removed)] }
def FnPackOneSaid : Prop := fnPackOneRow.holds Tryz.pinned (OpenSpec.ofChange fnPackOneSpec)

/-- ITS FALSE NEIGHBOUR: 'it returns false'. Refute it at one input. -/
def fnPackOneWrong : ChangeSpec := { name := "fnPackOne", vars := ["loop.example/pub-g01454/pub/pkgbits.introduced", "loop.example/pub-g01454/pub/pkgbits.removed", "loop.example/pub-g01454/pub/pkgbits.overflow"], fn := fun _ => fun
  | [d1, d2, d3, d4, g1, g2, g3] => { results := [.lit (.bool false)], args := [d1, d2, d3, d4], vars := [g1, g2, g3] }
  | _ => none }
def FnPackOneWrongFalsely : Prop := fnPackOneRow.holds Tryz.pinned (OpenSpec.ofChange fnPackOneWrong)

/-- 'laws.FnPackFacts': WHATEVER THE INPUT: true; the input reads as it did. -/
def fnPackFactsSpec : ChangeSpec := { name := "fnPackFacts", vars := ["loop.example/pub-g01454/pub/pkgbits.introduced", "loop.example/pub-g01454/pub/pkgbits.removed"], fn := fun _ => fun
  | [d1, d2, d3, d4, g1, g2] => { results := [.lit (.bool true)], args := [d1, d2, d3, d4], vars := [g1, g2] }
  | _ => none }
def fnPackFactsRow : OpenClaim := { program := "ytedjadicdodahaagreatdoor", sum := "17e4ac8fe4f01cec73ca74968a0711ed59a858d4fb1af256aa288296dd26eac2", func := "loop.example/pub-g01454/laws.FnPackFacts", spec := "fnPackFacts", unfollowed := true, recurses := true, named := ["bytes.ErrTooLarge", "io.errInvalidWrite", "io.ErrShortWrite", "io.EOF", "loop.example/pub-g01454/pub/pkgbits.introduced", "loop.example/pub-g01454/pub/pkgbits.removed", "io.ErrShortBuffer", "io.ErrUnexpectedEOF"], plainKeys := false, apart := false, laid := [("io.ErrShortWrite", laid_io_ErrShortWrite), ("io.errInvalidWrite", laid_io_errInvalidWrite), ("io.ErrShortBuffer", laid_io_ErrShortBuffer), ("io.EOF", laid_io_EOF), ("io.ErrUnexpectedEOF", laid_io_ErrUnexpectedEOF), ("bytes.ErrTooLarge", laid_bytes_ErrTooLarge), ("loop.example/pub-g01454/pub/pkgbits.introduced", laid_loop_example_pub_g01454_pub_pkgbits_introduced), ("loop.example/pub-g01454/pub/pkgbits.removed", laid_loop_example_pub_g01454_pub_pkgbits_removed)] }
def FnPackFactsSaid : Prop := fnPackFactsRow.holds Tryz.pinned (OpenSpec.ofChange fnPackFactsSpec)

/-- ITS FALSE NEIGHBOUR: 'it returns false'. Refute it at one input. -/
def fnPackFactsWrong : ChangeSpec := { name := "fnPackFacts", vars := ["loop.example/pub-g01454/pub/pkgbits.introduced", "loop.example/pub-g01454/pub/pkgbits.removed"], fn := fun _ => fun
  | [d1, d2, d3, d4, g1, g2] => { results := [.lit (.bool false)], args := [d1, d2, d3, d4], vars := [g1, g2] }
  | _ => none }
def FnPackFactsWrongFalsely : Prop := fnPackFactsRow.holds Tryz.pinned (OpenSpec.ofChange fnPackFactsWrong)

/-- 'laws.FnPackAlone': WHATEVER THE INPUT: true; the input reads as it did. -/
def fnPackAloneSpec : ChangeSpec := { name := "fnPackAlone", vars := ["loop.example/pub-g01454/pub/pkgbits.introduced", "loop.example/pub-g01454/pub/pkgbits.removed"], fn := fun _ => fun
  | [d1, d2, d3, d4, g1, g2] => { results := [.lit (.bool true)], args := [d1, d2, d3, d4], vars := [g1, g2] }
  | _ => none }
def fnPackAloneRow : OpenClaim := { program := "ytedjadicdodahaagreatdoor", sum := "17e4ac8fe4f01cec73ca74968a0711ed59a858d4fb1af256aa288296dd26eac2", func := "loop.example/pub-g01454/laws.FnPackAlone", spec := "fnPackAlone", unfollowed := true, recurses := true, named := ["bytes.ErrTooLarge", "io.errInvalidWrite", "io.ErrShortWrite", "io.EOF", "loop.example/pub-g01454/pub/pkgbits.introduced", "loop.example/pub-g01454/pub/pkgbits.removed", "io.ErrShortBuffer", "io.ErrUnexpectedEOF"], plainKeys := false, apart := false, laid := [("io.ErrShortWrite", laid_io_ErrShortWrite), ("io.errInvalidWrite", laid_io_errInvalidWrite), ("io.ErrShortBuffer", laid_io_ErrShortBuffer), ("io.EOF", laid_io_EOF), ("io.ErrUnexpectedEOF", laid_io_ErrUnexpectedEOF), ("bytes.ErrTooLarge", laid_bytes_ErrTooLarge), ("loop.example/pub-g01454/pub/pkgbits.introduced", laid_loop_example_pub_g01454_pub_pkgbits_introduced), ("loop.example/pub-g01454/pub/pkgbits.removed", laid_loop_example_pub_g01454_pub_pkgbits_removed)] }
def FnPackAloneSaid : Prop := fnPackAloneRow.holds Tryz.pinned (OpenSpec.ofChange fnPackAloneSpec)

/-- ITS FALSE NEIGHBOUR: 'it returns false'. Refute it at one input. -/
def fnPackAloneWrong : ChangeSpec := { name := "fnPackAlone", vars := ["loop.example/pub-g01454/pub/pkgbits.introduced", "loop.example/pub-g01454/pub/pkgbits.removed"], fn := fun _ => fun
  | [d1, d2, d3, d4, g1, g2] => { results := [.lit (.bool false)], args := [d1, d2, d3, d4], vars := [g1, g2] }
  | _ => none }
def FnPackAloneWrongFalsely : Prop := fnPackAloneRow.holds Tryz.pinned (OpenSpec.ofChange fnPackAloneWrong)

/-- 'laws.FnPackRows': WHATEVER THE INPUT: true; the input reads as it did. -/
def fnPackRowsSpec : ChangeSpec := { name := "fnPackRows", vars := ["loop.example/pub-g01454/pub/pkgbits.introduced", "loop.example/pub-g01454/pub/pkgbits.removed"], fn := fun _ => fun
  | [d1, d2, d3, d4, g1, g2] => { results := [.lit (.bool true)], args := [d1, d2, d3, d4], vars := [g1, g2] }
  | _ => none }
def fnPackRowsRow : OpenClaim := { program := "ytedjadicdodahaagreatdoor", sum := "17e4ac8fe4f01cec73ca74968a0711ed59a858d4fb1af256aa288296dd26eac2", func := "loop.example/pub-g01454/laws.FnPackRows", spec := "fnPackRows", unfollowed := true, recurses := true, named := ["bytes.ErrTooLarge", "io.errInvalidWrite", "io.ErrShortWrite", "io.EOF", "loop.example/pub-g01454/pub/pkgbits.introduced", "loop.example/pub-g01454/pub/pkgbits.removed", "io.ErrShortBuffer", "io.ErrUnexpectedEOF"], plainKeys := false, apart := false, laid := [("io.ErrShortWrite", laid_io_ErrShortWrite), ("io.errInvalidWrite", laid_io_errInvalidWrite), ("io.ErrShortBuffer", laid_io_ErrShortBuffer), ("io.EOF", laid_io_EOF), ("io.ErrUnexpectedEOF", laid_io_ErrUnexpectedEOF), ("bytes.ErrTooLarge", laid_bytes_ErrTooLarge), ("loop.example/pub-g01454/pub/pkgbits.introduced", laid_loop_example_pub_g01454_pub_pkgbits_introduced), ("loop.example/pub-g01454/pub/pkgbits.removed", laid_loop_example_pub_g01454_pub_pkgbits_removed)] }
def FnPackRowsSaid : Prop := fnPackRowsRow.holds Tryz.pinned (OpenSpec.ofChange fnPackRowsSpec)

/-- ITS FALSE NEIGHBOUR: 'it returns false'. Refute it at one input. -/
def fnPackRowsWrong : ChangeSpec := { name := "fnPackRows", vars := ["loop.example/pub-g01454/pub/pkgbits.introduced", "loop.example/pub-g01454/pub/pkgbits.removed"], fn := fun _ => fun
  | [d1, d2, d3, d4, g1, g2] => { results := [.lit (.bool false)], args := [d1, d2, d3, d4], vars := [g1, g2] }
  | _ => none }
def FnPackRowsWrongFalsely : Prop := fnPackRowsRow.holds Tryz.pinned (OpenSpec.ofChange fnPackRowsWrong)

/-- 'laws.FnPackCounts': WHATEVER THE INPUT: true; the input reads as it did. -/
def fnPackCountsSpec : ChangeSpec := { name := "fnPackCounts", vars := ["loop.example/pub-g01454/pub/pkgbits.introduced", "loop.example/pub-g01454/pub/pkgbits.removed"], fn := fun _ => fun
  | [d1, d2, d3, g1, g2] => { results := [.lit (.bool true)], args := [d1, d2, d3], vars := [g1, g2] }
  | _ => none }
def fnPackCountsRow : OpenClaim := { program := "ytedjadicdodahaagreatdoor", sum := "17e4ac8fe4f01cec73ca74968a0711ed59a858d4fb1af256aa288296dd26eac2", func := "loop.example/pub-g01454/laws.FnPackCounts", spec := "fnPackCounts", unfollowed := true, recurses := true, named := ["bytes.ErrTooLarge", "io.errInvalidWrite", "io.ErrShortWrite", "io.EOF", "loop.example/pub-g01454/pub/pkgbits.introduced", "loop.example/pub-g01454/pub/pkgbits.removed", "io.ErrShortBuffer", "io.ErrUnexpectedEOF"], plainKeys := false, apart := false, laid := [("io.ErrShortWrite", laid_io_ErrShortWrite), ("io.errInvalidWrite", laid_io_errInvalidWrite), ("io.ErrShortBuffer", laid_io_ErrShortBuffer), ("io.EOF", laid_io_EOF), ("io.ErrUnexpectedEOF", laid_io_ErrUnexpectedEOF), ("bytes.ErrTooLarge", laid_bytes_ErrTooLarge), ("loop.example/pub-g01454/pub/pkgbits.introduced", laid_loop_example_pub_g01454_pub_pkgbits_introduced), ("loop.example/pub-g01454/pub/pkgbits.removed", laid_loop_example_pub_g01454_pub_pkgbits_removed)] }
def FnPackCountsSaid : Prop := fnPackCountsRow.holds Tryz.pinned (OpenSpec.ofChange fnPackCountsSpec)

/-- ITS FALSE NEIGHBOUR: 'it returns false'. Refute it at one input. -/
def fnPackCountsWrong : ChangeSpec := { name := "fnPackCounts", vars := ["loop.example/pub-g01454/pub/pkgbits.introduced", "loop.example/pub-g01454/pub/pkgbits.removed"], fn := fun _ => fun
  | [d1, d2, d3, g1, g2] => { results := [.lit (.bool false)], args := [d1, d2, d3], vars := [g1, g2] }
  | _ => none }
def FnPackCountsWrongFalsely : Prop := fnPackCountsRow.holds Tryz.pinned (OpenSpec.ofChange fnPackCountsWrong)

/- THE SECOND FORM. 'bulk': how many values and letters a reading holds, each counted each time it is reached (what is shared counts as often as it is met; a slice's spare places count too). A statement '..UptoSaid' is the law's where the arguments, and the package variables that the reading takes, are together of bulk at most 1048576: NARROWER than '..Said'. Prove '..Said' where nothing that the law and all that it calls make is longer than what came in: it says more and counts as full. Else prove '..UptoSaid'. A law counts once. -/
mutual
def uptoBulk {H : Type} : DataW H → Nat
  | .lit (.string bytes) => bytes.length + 1
  | .lit _ => 1
  | .nil => 1
  | .ptr d => uptoBulk d + 1
  | .slice elems spare => uptoBulkAll elems + uptoBulkAll spare + 1
  | .agg parts => uptoBulkAll parts + 1
  | .iface _ d => uptoBulk d + 1
  | .map entries => uptoBulkEntries entries + 1
  | .held _ => 1
def uptoBulkAll {H : Type} : List (DataW H) → Nat
  | [] => 0
  | d :: r => uptoBulk d + uptoBulkAll r
def uptoBulkEntries {H : Type} : List (Lit × DataW H) → Nat
  | [] => 0
  | x :: r => uptoBulkEntry x + uptoBulkEntries r
def uptoBulkEntry {H : Type} : Lit × DataW H → Nat
  | (.string bytes, d) => bytes.length + uptoBulk d + 1
  | (_, d) => uptoBulk d + 1
 end
def uptoSmall : (H : Type) → List (DataW H) → Bool := fun _ ds => decide (uptoBulkAll ds ≤ 1048576)
def OpenSpec.upto (s : _root_.Go.ChangeSpec) : _root_.Go.OpenSpec := { _root_.Go.OpenSpec.ofChange s with cond := some uptoSmall }

/-- 'laws.FnPackVersion', WHERE WHAT IT READS IS OF BULK AT MOST 1048576: true; the input reads as it did. -/
def fnPackVersionUptoRow : OpenClaim := { program := "ytedjadicdodahaagreatdoor", sum := "17e4ac8fe4f01cec73ca74968a0711ed59a858d4fb1af256aa288296dd26eac2", func := "loop.example/pub-g01454/laws.FnPackVersion", spec := "fnPackVersion", unfollowed := true, recurses := true, named := ["bytes.ErrTooLarge", "io.errInvalidWrite", "io.ErrShortWrite", "io.EOF", "loop.example/pub-g01454/pub/pkgbits.introduced", "loop.example/pub-g01454/pub/pkgbits.removed", "io.ErrShortBuffer", "io.ErrUnexpectedEOF", "loop.example/pub-g01454/pub/pkgbits.overflow"], ifaces := true, plainKeys := false, apart := false, laid := [("io.ErrShortWrite", laid_io_ErrShortWrite), ("io.errInvalidWrite", laid_io_errInvalidWrite), ("io.ErrShortBuffer", laid_io_ErrShortBuffer), ("io.EOF", laid_io_EOF), ("io.ErrUnexpectedEOF", laid_io_ErrUnexpectedEOF), ("bytes.ErrTooLarge", laid_bytes_ErrTooLarge), ("loop.example/pub-g01454/pub/pkgbits.overflow", laid_loop_example_pub_g01454_pub_pkgbits_overflow), ("loop.example/pub-g01454/pub/pkgbits.introduced", laid_loop_example_pub_g01454_pub_pkgbits_introduced), ("loop.example/pub-g01454/pub/pkgbits.removed", laid_loop_example_pub_g01454_pub_pkgbits_removed)], narrowed := true }
def FnPackVersionUptoSaid : Prop := fnPackVersionUptoRow.holds Tryz.pinned (OpenSpec.upto fnPackVersionSpec)

/-- 'laws.FnPackBack', WHERE WHAT IT READS IS OF BULK AT MOST 1048576: true; the input reads as it did. -/
def fnPackBackUptoRow : OpenClaim := { program := "ytedjadicdodahaagreatdoor", sum := "17e4ac8fe4f01cec73ca74968a0711ed59a858d4fb1af256aa288296dd26eac2", func := "loop.example/pub-g01454/laws.FnPackBack", spec := "fnPackBack", unfollowed := true, recurses := true, named := ["bytes.ErrTooLarge", "io.errInvalidWrite", "io.ErrShortWrite", "io.EOF", "loop.example/pub-g01454/pub/pkgbits.introduced", "loop.example/pub-g01454/pub/pkgbits.removed", "io.ErrShortBuffer", "io.ErrUnexpectedEOF", "loop.example/pub-g01454/pub/pkgbits.overflow"], ifaces := true, plainKeys := false, apart := false, laid := [("io.ErrShortWrite", laid_io_ErrShortWrite), ("io.errInvalidWrite", laid_io_errInvalidWrite), ("io.ErrShortBuffer", laid_io_ErrShortBuffer), ("io.EOF", laid_io_EOF), ("io.ErrUnexpectedEOF", laid_io_ErrUnexpectedEOF), ("bytes.ErrTooLarge", laid_bytes_ErrTooLarge), ("loop.example/pub-g01454/pub/pkgbits.overflow", laid_loop_example_pub_g01454_pub_pkgbits_overflow), ("loop.example/pub-g01454/pub/pkgbits.introduced", laid_loop_example_pub_g01454_pub_pkgbits_introduced), ("loop.example/pub-g01454/pub/pkgbits.removed", laid_loop_example_pub_g01454_pub_pkgbits_removed)], narrowed := true }
def FnPackBackUptoSaid : Prop := fnPackBackUptoRow.holds Tryz.pinned (OpenSpec.upto fnPackBackSpec)

/-- 'laws.FnPackOne', WHERE WHAT IT READS IS OF BULK AT MOST 1048576: true; the input reads as it did. -/
def fnPackOneUptoRow : OpenClaim := { program := "ytedjadicdodahaagreatdoor", sum := "17e4ac8fe4f01cec73ca74968a0711ed59a858d4fb1af256aa288296dd26eac2", func := "loop.example/pub-g01454/laws.FnPackOne", spec := "fnPackOne", unfollowed := true, recurses := true, named := ["bytes.ErrTooLarge", "io.errInvalidWrite", "io.ErrShortWrite", "io.EOF", "loop.example/pub-g01454/pub/pkgbits.introduced", "loop.example/pub-g01454/pub/pkgbits.removed", "io.ErrShortBuffer", "io.ErrUnexpectedEOF", "loop.example/pub-g01454/pub/pkgbits.overflow"], ifaces := true, plainKeys := false, apart := false, laid := [("io.ErrShortWrite", laid_io_ErrShortWrite), ("io.errInvalidWrite", laid_io_errInvalidWrite), ("io.ErrShortBuffer", laid_io_ErrShortBuffer), ("io.EOF", laid_io_EOF), ("io.ErrUnexpectedEOF", laid_io_ErrUnexpectedEOF), ("bytes.ErrTooLarge", laid_bytes_ErrTooLarge), ("loop.example/pub-g01454/pub/pkgbits.overflow", laid_loop_example_pub_g01454_pub_pkgbits_overflow), ("loop.example/pub-g01454/pub/pkgbits.introduced", laid_loop_example_pub_g01454_pub_pkgbits_introduced), ("loop.example/pub-g01454/pub/pkgbits.removed", laid_loop_example_pub_g01454_pub_pkgbits_removed)], narrowed := true }
def FnPackOneUptoSaid : Prop := fnPackOneUptoRow.holds Tryz.pinned (OpenSpec.upto fnPackOneSpec)

/-- 'laws.FnPackFacts', WHERE WHAT IT READS IS OF BULK AT MOST 1048576: true; the input reads as it did. -/
def fnPackFactsUptoRow : OpenClaim := { program := "ytedjadicdodahaagreatdoor", sum := "17e4ac8fe4f01cec73ca74968a0711ed59a858d4fb1af256aa288296dd26eac2", func := "loop.example/pub-g01454/laws.FnPackFacts", spec := "fnPackFacts", unfollowed := true, recurses := true, named := ["bytes.ErrTooLarge", "io.errInvalidWrite", "io.ErrShortWrite", "io.EOF", "loop.example/pub-g01454/pub/pkgbits.introduced", "loop.example/pub-g01454/pub/pkgbits.removed", "io.ErrShortBuffer", "io.ErrUnexpectedEOF"], plainKeys := false, apart := false, laid := [("io.ErrShortWrite", laid_io_ErrShortWrite), ("io.errInvalidWrite", laid_io_errInvalidWrite), ("io.ErrShortBuffer", laid_io_ErrShortBuffer), ("io.EOF", laid_io_EOF), ("io.ErrUnexpectedEOF", laid_io_ErrUnexpectedEOF), ("bytes.ErrTooLarge", laid_bytes_ErrTooLarge), ("loop.example/pub-g01454/pub/pkgbits.introduced", laid_loop_example_pub_g01454_pub_pkgbits_introduced), ("loop.example/pub-g01454/pub/pkgbits.removed", laid_loop_example_pub_g01454_pub_pkgbits_removed)], narrowed := true }
def FnPackFactsUptoSaid : Prop := fnPackFactsUptoRow.holds Tryz.pinned (OpenSpec.upto fnPackFactsSpec)

/-- 'laws.FnPackAlone', WHERE WHAT IT READS IS OF BULK AT MOST 1048576: true; the input reads as it did. -/
def fnPackAloneUptoRow : OpenClaim := { program := "ytedjadicdodahaagreatdoor", sum := "17e4ac8fe4f01cec73ca74968a0711ed59a858d4fb1af256aa288296dd26eac2", func := "loop.example/pub-g01454/laws.FnPackAlone", spec := "fnPackAlone", unfollowed := true, recurses := true, named := ["bytes.ErrTooLarge", "io.errInvalidWrite", "io.ErrShortWrite", "io.EOF", "loop.example/pub-g01454/pub/pkgbits.introduced", "loop.example/pub-g01454/pub/pkgbits.removed", "io.ErrShortBuffer", "io.ErrUnexpectedEOF"], plainKeys := false, apart := false, laid := [("io.ErrShortWrite", laid_io_ErrShortWrite), ("io.errInvalidWrite", laid_io_errInvalidWrite), ("io.ErrShortBuffer", laid_io_ErrShortBuffer), ("io.EOF", laid_io_EOF), ("io.ErrUnexpectedEOF", laid_io_ErrUnexpectedEOF), ("bytes.ErrTooLarge", laid_bytes_ErrTooLarge), ("loop.example/pub-g01454/pub/pkgbits.introduced", laid_loop_example_pub_g01454_pub_pkgbits_introduced), ("loop.example/pub-g01454/pub/pkgbits.removed", laid_loop_example_pub_g01454_pub_pkgbits_removed)], narrowed := true }
def FnPackAloneUptoSaid : Prop := fnPackAloneUptoRow.holds Tryz.pinned (OpenSpec.upto fnPackAloneSpec)

/-- 'laws.FnPackRows', WHERE WHAT IT READS IS OF BULK AT MOST 1048576: true; the input reads as it did. -/
def fnPackRowsUptoRow : OpenClaim := { program := "ytedjadicdodahaagreatdoor", sum := "17e4ac8fe4f01cec73ca74968a0711ed59a858d4fb1af256aa288296dd26eac2", func := "loop.example/pub-g01454/laws.FnPackRows", spec := "fnPackRows", unfollowed := true, recurses := true, named := ["bytes.ErrTooLarge", "io.errInvalidWrite", "io.ErrShortWrite", "io.EOF", "loop.example/pub-g01454/pub/pkgbits.introduced", "loop.example/pub-g01454/pub/pkgbits.removed", "io.ErrShortBuffer", "io.ErrUnexpectedEOF"], plainKeys := false, apart := false, laid := [("io.ErrShortWrite", laid_io_ErrShortWrite), ("io.errInvalidWrite", laid_io_errInvalidWrite), ("io.ErrShortBuffer", laid_io_ErrShortBuffer), ("io.EOF", laid_io_EOF), ("io.ErrUnexpectedEOF", laid_io_ErrUnexpectedEOF), ("bytes.ErrTooLarge", laid_bytes_ErrTooLarge), ("loop.example/pub-g01454/pub/pkgbits.introduced", laid_loop_example_pub_g01454_pub_pkgbits_introduced), ("loop.example/pub-g01454/pub/pkgbits.removed", laid_loop_example_pub_g01454_pub_pkgbits_removed)], narrowed := true }
def FnPackRowsUptoSaid : Prop := fnPackRowsUptoRow.holds Tryz.pinned (OpenSpec.upto fnPackRowsSpec)

/-- 'laws.FnPackCounts', WHERE WHAT IT READS IS OF BULK AT MOST 1048576: true; the input reads as it did. -/
def fnPackCountsUptoRow : OpenClaim := { program := "ytedjadicdodahaagreatdoor", sum := "17e4ac8fe4f01cec73ca74968a0711ed59a858d4fb1af256aa288296dd26eac2", func := "loop.example/pub-g01454/laws.FnPackCounts", spec := "fnPackCounts", unfollowed := true, recurses := true, named := ["bytes.ErrTooLarge", "io.errInvalidWrite", "io.ErrShortWrite", "io.EOF", "loop.example/pub-g01454/pub/pkgbits.introduced", "loop.example/pub-g01454/pub/pkgbits.removed", "io.ErrShortBuffer", "io.ErrUnexpectedEOF"], plainKeys := false, apart := false, laid := [("io.ErrShortWrite", laid_io_ErrShortWrite), ("io.errInvalidWrite", laid_io_errInvalidWrite), ("io.ErrShortBuffer", laid_io_ErrShortBuffer), ("io.EOF", laid_io_EOF), ("io.ErrUnexpectedEOF", laid_io_ErrUnexpectedEOF), ("bytes.ErrTooLarge", laid_bytes_ErrTooLarge), ("loop.example/pub-g01454/pub/pkgbits.introduced", laid_loop_example_pub_g01454_pub_pkgbits_introduced), ("loop.example/pub-g01454/pub/pkgbits.removed", laid_loop_example_pub_g01454_pub_pkgbits_removed)], narrowed := true }
def FnPackCountsUptoSaid : Prop := fnPackCountsUptoRow.holds Tryz.pinned (OpenSpec.upto fnPackCountsSpec)

end Rows
end Go.Proofs.YtedjadicdodahaaGreatDoor
