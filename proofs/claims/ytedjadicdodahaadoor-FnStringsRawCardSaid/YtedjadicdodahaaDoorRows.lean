/-
  NARROWER THAN 'FOR EVERY INPUT', by the rows' own cells (each row's printed sentence says how): FnStringsRaw: laid · FnStrings: laid.
  DERIVED. THE GIVEN ROWS OF THIS SEAT. 2 by the template 'for every input the law returns true; each argument reads behind the call as it read before'; 0 by the template 'total and deterministic' (their statements: YtedjadicdodahaaDoorTotals.lean).
  GIVEN WITH THE SEED: the statements are not yours to turn. If you find one false, say at which input.
  Laid BY PROGRAM, IN A SANDBOX (cutbox-rows.mjs): the forced cells as the released guide's own fill.sh prints them over the translation dcda0569e43fa9d8… (all of the seat's roots in one cut). By AI agents, Wed Nov 11 2026. No macro, syntax, notation, axiom, sorry.
-/
import Derived.Test.YtedjadicdodahaaDoorChecked
import GoSem.Claim
import GoSem.ClaimJoined
import GoSem.ClaimMapViews
import Derived.JoinedTies
import Derived.KernelRfl
namespace Go.Proofs.YtedjadicdodahaaDoor
/- THE CELL 'sum', in the pinned program and in every row, IS THE sha256 OF THE DUMP (.gsa) THAT YtedjadicdodahaaDoorProg.lean LOADS. Nothing in Lean hashes anything: it is a label: what it is worth is what the hold of that sum in a sandbox is worth. -/
noncomputable def Tryd.pinned : Pinned := { name := "ytedjadicdodahaadoor", sum := "dcda0569e43fa9d861cbec063a53e5025bcc6dc9cd91ca0b964a6f8b809a1092", checked := Tryd.checked }
namespace Rows
def none {H : Type} : Left H := { results := [], args := [] }

/- WHAT THE LISTED PACKAGE-LEVEL VARIABLES READ AS WHEN THE CALL BEGINS. Each datum BY PROGRAM (the guide's laid-datum.mjs) off the statement by which the dump's own 'gosem.cut.vars' lays the variable. In a bare row this is a premise. The card (YtedjadicdodahaaDoorCards.lean) ties it to the program's text. -/
def laid_io_ErrShortBuffer {H : Type} : DataW H := .iface "*errors.errorString" (.ptr (.agg [.lit (.string [115, 104, 111, 114, 116, 32, 98, 117, 102, 102, 101, 114])]))
def laid_io_EOF {H : Type} : DataW H := .iface "*errors.errorString" (.ptr (.agg [.lit (.string [69, 79, 70])]))
def laid_io_ErrUnexpectedEOF {H : Type} : DataW H := .iface "*errors.errorString" (.ptr (.agg [.lit (.string [117, 110, 101, 120, 112, 101, 99, 116, 101, 100, 32, 69, 79, 70])]))
def laid_loop_example_pub_g01454_pub_pkgbits_introduced {H : Type} : DataW H := .agg [.lit (.int .u32 1), .lit (.int .u32 0), .lit (.int .u32 0), .lit (.int .u32 2), .lit (.int .u32 0), .lit (.int .u32 3), .lit (.int .u32 4), .lit (.int .u32 5)]
def laid_loop_example_pub_g01454_pub_pkgbits_removed {H : Type} : DataW H := .agg [.lit (.int .u32 0), .lit (.int .u32 2), .lit (.int .u32 2), .lit (.int .u32 0), .lit (.int .u32 2), .lit (.int .u32 0), .lit (.int .u32 0), .lit (.int .u32 0)]

/-- 'laws.FnStringsRaw': WHATEVER THE INPUT: true; the input reads as it did. -/
def fnStringsRawSpec : ChangeSpec := { name := "fnStringsRaw", vars := ["loop.example/pub-g01454/pub/pkgbits.introduced", "loop.example/pub-g01454/pub/pkgbits.removed"], fn := fun _ => fun
  | [d, g1, g2] => { results := [.lit (.bool true)], args := [d], vars := [g1, g2] }
  | _ => none }
def fnStringsRawRow : OpenClaim := { program := "ytedjadicdodahaadoor", sum := "dcda0569e43fa9d861cbec063a53e5025bcc6dc9cd91ca0b964a6f8b809a1092", func := "loop.example/pub-g01454/laws.FnStringsRaw", spec := "fnStringsRaw", unfollowed := true, recurses := true, named := ["loop.example/pub-g01454/pub/pkgbits.introduced", "loop.example/pub-g01454/pub/pkgbits.removed", "io.ErrShortBuffer", "io.EOF", "io.ErrUnexpectedEOF"], apart := false, laid := [("io.ErrShortBuffer", laid_io_ErrShortBuffer), ("io.EOF", laid_io_EOF), ("io.ErrUnexpectedEOF", laid_io_ErrUnexpectedEOF), ("loop.example/pub-g01454/pub/pkgbits.introduced", laid_loop_example_pub_g01454_pub_pkgbits_introduced), ("loop.example/pub-g01454/pub/pkgbits.removed", laid_loop_example_pub_g01454_pub_pkgbits_removed)] }
def FnStringsRawSaid : Prop := fnStringsRawRow.holds Tryd.pinned (OpenSpec.ofChange fnStringsRawSpec)

/-- ITS FALSE NEIGHBOUR: 'it returns false'. Refute it at one input. -/
def fnStringsRawWrong : ChangeSpec := { name := "fnStringsRaw", vars := ["loop.example/pub-g01454/pub/pkgbits.introduced", "loop.example/pub-g01454/pub/pkgbits.removed"], fn := fun _ => fun
  | [d, g1, g2] => { results := [.lit (.bool false)], args := [d], vars := [g1, g2] }
  | _ => none }
def FnStringsRawWrongFalsely : Prop := fnStringsRawRow.holds Tryd.pinned (OpenSpec.ofChange fnStringsRawWrong)

/-- 'laws.FnStrings': WHATEVER THE INPUT: true; the input reads as it did. -/
def fnStringsSpec : ChangeSpec := { name := "fnStrings", vars := ["loop.example/pub-g01454/pub/pkgbits.introduced", "loop.example/pub-g01454/pub/pkgbits.removed"], fn := fun _ => fun
  | [d, g1, g2] => { results := [.lit (.bool true)], args := [d], vars := [g1, g2] }
  | _ => none }
def fnStringsRow : OpenClaim := { program := "ytedjadicdodahaadoor", sum := "dcda0569e43fa9d861cbec063a53e5025bcc6dc9cd91ca0b964a6f8b809a1092", func := "loop.example/pub-g01454/laws.FnStrings", spec := "fnStrings", unfollowed := true, recurses := true, named := ["loop.example/pub-g01454/pub/pkgbits.introduced", "loop.example/pub-g01454/pub/pkgbits.removed", "io.ErrShortBuffer", "io.EOF", "io.ErrUnexpectedEOF"], apart := false, laid := [("io.ErrShortBuffer", laid_io_ErrShortBuffer), ("io.EOF", laid_io_EOF), ("io.ErrUnexpectedEOF", laid_io_ErrUnexpectedEOF), ("loop.example/pub-g01454/pub/pkgbits.introduced", laid_loop_example_pub_g01454_pub_pkgbits_introduced), ("loop.example/pub-g01454/pub/pkgbits.removed", laid_loop_example_pub_g01454_pub_pkgbits_removed)] }
def FnStringsSaid : Prop := fnStringsRow.holds Tryd.pinned (OpenSpec.ofChange fnStringsSpec)

/-- ITS FALSE NEIGHBOUR: 'it returns false'. Refute it at one input. -/
def fnStringsWrong : ChangeSpec := { name := "fnStrings", vars := ["loop.example/pub-g01454/pub/pkgbits.introduced", "loop.example/pub-g01454/pub/pkgbits.removed"], fn := fun _ => fun
  | [d, g1, g2] => { results := [.lit (.bool false)], args := [d], vars := [g1, g2] }
  | _ => none }
def FnStringsWrongFalsely : Prop := fnStringsRow.holds Tryd.pinned (OpenSpec.ofChange fnStringsWrong)

/- THE SECOND FORM. 'bulk': how many values and letters a reading holds, each counted each time it is reached (what is shared counts as often as it is met; a slice's spare places count too). A statement '..UptoSaid' is the law's where the arguments, and the package variables that the reading takes, are together of bulk at most 1048576: NARROWER than '..Said'. Prove '..Said' where nothing that the law and all that it calls make is longer than what came in: it says more and counts as full. Else prove '..UptoSaid'. A law counts once. -/
mutual
def uptoBulk {H : Type} : DataW H → Nat
  | .lit (.string bytes) => bytes.length + 1
  | .lit _ => 1
  | .nil => 1
  | .ptr d => uptoBulk d + 1
  | .slice elems spare => uptoBulkAll elems + uptoBulkAll spare + 1
  | .agg parts => uptoBulkAll parts + 1
  | .iface _ d => uptoBulk d + 1
  | .map entries => uptoBulkEntries entries + 1
  | .held _ => 1
def uptoBulkAll {H : Type} : List (DataW H) → Nat
  | [] => 0
  | d :: r => uptoBulk d + uptoBulkAll r
def uptoBulkEntries {H : Type} : List (Lit × DataW H) → Nat
  | [] => 0
  | x :: r => uptoBulkEntry x + uptoBulkEntries r
def uptoBulkEntry {H : Type} : Lit × DataW H → Nat
  | (.string bytes, d) => bytes.length + uptoBulk d + 1
  | (_, d) => uptoBulk d + 1
 end
def uptoSmall : (H : Type) → List (DataW H) → Bool := fun _ ds => decide (uptoBulkAll ds ≤ 1048576)
def OpenSpec.upto (s : _root_.Go.ChangeSpec) : _root_.Go.OpenSpec := { _root_.Go.OpenSpec.ofChange s with cond := some uptoSmall }

/-- 'laws.FnStringsRaw', WHERE WHAT IT READS IS OF BULK AT MOST 1048576: true; the input reads as it did. -/
def fnStringsRawUptoRow : OpenClaim := { program := "ytedjadicdodahaadoor", sum := "dcda0569e43fa9d861cbec063a53e5025bcc6dc9cd91ca0b964a6f8b809a1092", func := "loop.example/pub-g01454/laws.FnStringsRaw", spec := "fnStringsRaw", unfollowed := true, recurses := true, named := ["loop.example/pub-g01454/pub/pkgbits.introduced", "loop.example/pub-g01454/pub/pkgbits.removed", "io.ErrShortBuffer", "io.EOF", "io.ErrUnexpectedEOF"], apart := false, laid := [("io.ErrShortBuffer", laid_io_ErrShortBuffer), ("io.EOF", laid_io_EOF), ("io.ErrUnexpectedEOF", laid_io_ErrUnexpectedEOF), ("loop.example/pub-g01454/pub/pkgbits.introduced", laid_loop_example_pub_g01454_pub_pkgbits_introduced), ("loop.example/pub-g01454/pub/pkgbits.removed", laid_loop_example_pub_g01454_pub_pkgbits_removed)], narrowed := true }
def FnStringsRawUptoSaid : Prop := fnStringsRawUptoRow.holds Tryd.pinned (OpenSpec.upto fnStringsRawSpec)

/-- 'laws.FnStrings', WHERE WHAT IT READS IS OF BULK AT MOST 1048576: true; the input reads as it did. -/
def fnStringsUptoRow : OpenClaim := { program := "ytedjadicdodahaadoor", sum := "dcda0569e43fa9d861cbec063a53e5025bcc6dc9cd91ca0b964a6f8b809a1092", func := "loop.example/pub-g01454/laws.FnStrings", spec := "fnStrings", unfollowed := true, recurses := true, named := ["loop.example/pub-g01454/pub/pkgbits.introduced", "loop.example/pub-g01454/pub/pkgbits.removed", "io.ErrShortBuffer", "io.EOF", "io.ErrUnexpectedEOF"], apart := false, laid := [("io.ErrShortBuffer", laid_io_ErrShortBuffer), ("io.EOF", laid_io_EOF), ("io.ErrUnexpectedEOF", laid_io_ErrUnexpectedEOF), ("loop.example/pub-g01454/pub/pkgbits.introduced", laid_loop_example_pub_g01454_pub_pkgbits_introduced), ("loop.example/pub-g01454/pub/pkgbits.removed", laid_loop_example_pub_g01454_pub_pkgbits_removed)], narrowed := true }
def FnStringsUptoSaid : Prop := fnStringsUptoRow.holds Tryd.pinned (OpenSpec.upto fnStringsSpec)

end Rows
end Go.Proofs.YtedjadicdodahaaDoor
