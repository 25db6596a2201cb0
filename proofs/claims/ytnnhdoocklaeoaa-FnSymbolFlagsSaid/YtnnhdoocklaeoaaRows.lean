/-
  No cell of these rows narrows 'for every input' (looked for: loops, veiled, ifaces, maps, wideKeys, modest, calm, conditions, laid).
  DERIVED. THE GIVEN ROWS OF THIS SEAT. 9 by the template 'for every input the law returns true; each argument reads behind the call as it read before'; 0 by the template 'total and deterministic' (their statements: YtnnhdoocklaeoaaTotals.lean).
  GIVEN WITH THE SEED: the statements are not yours to turn. If you find one false, say at which input.
  Laid BY PROGRAM, IN A SANDBOX (cutbox-rows.mjs): the forced cells as the released guide's own fill.sh prints them over the translation 9dbbb9ed1ba840a7… (all of the seat's roots in one cut). By AI agents, Wed Nov 11 2026. No macro, syntax, notation, axiom, sorry.
-/
import Derived.Test.YtnnhdoocklaeoaaChecked
import GoSem.Claim
import GoSem.ClaimJoined
import GoSem.ClaimMapViews
import Derived.JoinedTies
import Derived.KernelRfl
namespace Go.Proofs.Ytnnhdoocklaeoaa
/- THE CELL 'sum', in the pinned program and in every row, IS THE sha256 OF THE DUMP (.gsa) THAT YtnnhdoocklaeoaaProg.lean LOADS. Nothing in Lean hashes anything: it is a label: what it is worth is what the hold of that sum in a sandbox is worth. -/
noncomputable def Try.pinned : Pinned := { name := "ytnnhdoocklaeoaa", sum := "9dbbb9ed1ba840a7f284dad752284ee4e2041204444d0cde87d8e4bbce89afa8", checked := Try.checked }
namespace Rows
def none {H : Type} : Left H := { results := [], args := [] }

/-- 'laws.FnFingerprintIsZero': WHATEVER THE INPUT: true; the input reads as it did. -/
def fnFingerprintIsZeroSpec : ChangeSpec := { name := "fnFingerprintIsZero", fn := fun _ => fun
  | [d] => { results := [.lit (.bool true)], args := [d] }
  | _ => none }
def fnFingerprintIsZeroRow : OpenClaim := { program := "ytnnhdoocklaeoaa", sum := "9dbbb9ed1ba840a7f284dad752284ee4e2041204444d0cde87d8e4bbce89afa8", func := "loop.example/pub-g01454/laws.FnFingerprintIsZero", spec := "fnFingerprintIsZero", apart := false }
def FnFingerprintIsZeroSaid : Prop := fnFingerprintIsZeroRow.holds Try.pinned (OpenSpec.ofChange fnFingerprintIsZeroSpec)

/-- ITS FALSE NEIGHBOUR: 'it returns false'. Refute it at one input. -/
def fnFingerprintIsZeroWrong : ChangeSpec := { name := "fnFingerprintIsZero", fn := fun _ => fun
  | [d] => { results := [.lit (.bool false)], args := [d] }
  | _ => none }
def FnFingerprintIsZeroWrongFalsely : Prop := fnFingerprintIsZeroRow.holds Try.pinned (OpenSpec.ofChange fnFingerprintIsZeroWrong)

/-- 'laws.FnRefIsZero': WHATEVER THE INPUT: true; the input reads as it did. -/
def fnRefIsZeroSpec : ChangeSpec := { name := "fnRefIsZero", fn := fun _ => fun
  | [d] => { results := [.lit (.bool true)], args := [d] }
  | _ => none }
def fnRefIsZeroRow : OpenClaim := { program := "ytnnhdoocklaeoaa", sum := "9dbbb9ed1ba840a7f284dad752284ee4e2041204444d0cde87d8e4bbce89afa8", func := "loop.example/pub-g01454/laws.FnRefIsZero", spec := "fnRefIsZero", apart := false }
def FnRefIsZeroSaid : Prop := fnRefIsZeroRow.holds Try.pinned (OpenSpec.ofChange fnRefIsZeroSpec)

/-- ITS FALSE NEIGHBOUR: 'it returns false'. Refute it at one input. -/
def fnRefIsZeroWrong : ChangeSpec := { name := "fnRefIsZero", fn := fun _ => fun
  | [d] => { results := [.lit (.bool false)], args := [d] }
  | _ => none }
def FnRefIsZeroWrongFalsely : Prop := fnRefIsZeroRow.holds Try.pinned (OpenSpec.ofChange fnRefIsZeroWrong)

/-- 'laws.FnCodes': WHATEVER THE INPUT: true; the input reads as it did. -/
def fnCodesSpec : ChangeSpec := { name := "fnCodes", fn := fun _ => fun
  | [d1, d2] => { results := [.lit (.bool true)], args := [d1, d2] }
  | _ => none }
def fnCodesRow : OpenClaim := { program := "ytnnhdoocklaeoaa", sum := "9dbbb9ed1ba840a7f284dad752284ee4e2041204444d0cde87d8e4bbce89afa8", func := "loop.example/pub-g01454/laws.FnCodes", spec := "fnCodes", apart := false }
def FnCodesSaid : Prop := fnCodesRow.holds Try.pinned (OpenSpec.ofChange fnCodesSpec)

/-- ITS FALSE NEIGHBOUR: 'it returns false'. Refute it at one input. -/
def fnCodesWrong : ChangeSpec := { name := "fnCodes", fn := fun _ => fun
  | [d1, d2] => { results := [.lit (.bool false)], args := [d1, d2] }
  | _ => none }
def FnCodesWrongFalsely : Prop := fnCodesRow.holds Try.pinned (OpenSpec.ofChange fnCodesWrong)

/-- 'laws.FnSymbol': WHATEVER THE INPUT: true; the input reads as it did. -/
def fnSymbolSpec : ChangeSpec := { name := "fnSymbol", fn := fun _ => fun
  | [d] => { results := [.lit (.bool true)], args := [d] }
  | _ => none }
def fnSymbolRow : OpenClaim := { program := "ytnnhdoocklaeoaa", sum := "9dbbb9ed1ba840a7f284dad752284ee4e2041204444d0cde87d8e4bbce89afa8", func := "loop.example/pub-g01454/laws.FnSymbol", spec := "fnSymbol", apart := false }
def FnSymbolSaid : Prop := fnSymbolRow.holds Try.pinned (OpenSpec.ofChange fnSymbolSpec)

/-- ITS FALSE NEIGHBOUR: 'it returns false'. Refute it at one input. -/
def fnSymbolWrong : ChangeSpec := { name := "fnSymbol", fn := fun _ => fun
  | [d] => { results := [.lit (.bool false)], args := [d] }
  | _ => none }
def FnSymbolWrongFalsely : Prop := fnSymbolRow.holds Try.pinned (OpenSpec.ofChange fnSymbolWrong)

/-- 'laws.FnSymbolFlag': WHATEVER THE INPUT: true; the input reads as it did. -/
def fnSymbolFlagSpec : ChangeSpec := { name := "fnSymbolFlag", fn := fun _ => fun
  | [d1, d2] => { results := [.lit (.bool true)], args := [d1, d2] }
  | _ => none }
def fnSymbolFlagRow : OpenClaim := { program := "ytnnhdoocklaeoaa", sum := "9dbbb9ed1ba840a7f284dad752284ee4e2041204444d0cde87d8e4bbce89afa8", func := "loop.example/pub-g01454/laws.FnSymbolFlag", spec := "fnSymbolFlag", apart := false }
def FnSymbolFlagSaid : Prop := fnSymbolFlagRow.holds Try.pinned (OpenSpec.ofChange fnSymbolFlagSpec)

/-- ITS FALSE NEIGHBOUR: 'it returns false'. Refute it at one input. -/
def fnSymbolFlagWrong : ChangeSpec := { name := "fnSymbolFlag", fn := fun _ => fun
  | [d1, d2] => { results := [.lit (.bool false)], args := [d1, d2] }
  | _ => none }
def FnSymbolFlagWrongFalsely : Prop := fnSymbolFlagRow.holds Try.pinned (OpenSpec.ofChange fnSymbolFlagWrong)

/-- 'laws.FnSymbolFlags': WHATEVER THE INPUT: true; the input reads as it did. -/
def fnSymbolFlagsSpec : ChangeSpec := { name := "fnSymbolFlags", fn := fun _ => fun
  | [d] => { results := [.lit (.bool true)], args := [d] }
  | _ => none }
def fnSymbolFlagsRow : OpenClaim := { program := "ytnnhdoocklaeoaa", sum := "9dbbb9ed1ba840a7f284dad752284ee4e2041204444d0cde87d8e4bbce89afa8", func := "loop.example/pub-g01454/laws.FnSymbolFlags", spec := "fnSymbolFlags", apart := false }
def FnSymbolFlagsSaid : Prop := fnSymbolFlagsRow.holds Try.pinned (OpenSpec.ofChange fnSymbolFlagsSpec)

/-- ITS FALSE NEIGHBOUR: 'it returns false'. Refute it at one input. -/
def fnSymbolFlagsWrong : ChangeSpec := { name := "fnSymbolFlags", fn := fun _ => fun
  | [d] => { results := [.lit (.bool false)], args := [d] }
  | _ => none }
def FnSymbolFlagsWrongFalsely : Prop := fnSymbolFlagsRow.holds Try.pinned (OpenSpec.ofChange fnSymbolFlagsWrong)

/-- 'laws.FnSymbolSet': WHATEVER THE INPUT: true; the input reads as it did. -/
def fnSymbolSetSpec : ChangeSpec := { name := "fnSymbolSet", fn := fun _ => fun
  | [d1, d2, d3] => { results := [.lit (.bool true)], args := [d1, d2, d3] }
  | _ => none }
def fnSymbolSetRow : OpenClaim := { program := "ytnnhdoocklaeoaa", sum := "9dbbb9ed1ba840a7f284dad752284ee4e2041204444d0cde87d8e4bbce89afa8", func := "loop.example/pub-g01454/laws.FnSymbolSet", spec := "fnSymbolSet", apart := false }
def FnSymbolSetSaid : Prop := fnSymbolSetRow.holds Try.pinned (OpenSpec.ofChange fnSymbolSetSpec)

/-- ITS FALSE NEIGHBOUR: 'it returns false'. Refute it at one input. -/
def fnSymbolSetWrong : ChangeSpec := { name := "fnSymbolSet", fn := fun _ => fun
  | [d1, d2, d3] => { results := [.lit (.bool false)], args := [d1, d2, d3] }
  | _ => none }
def FnSymbolSetWrongFalsely : Prop := fnSymbolSetRow.holds Try.pinned (OpenSpec.ofChange fnSymbolSetWrong)

/-- 'laws.FnRelocation': WHATEVER THE INPUT: true; the input reads as it did. -/
def fnRelocationSpec : ChangeSpec := { name := "fnRelocation", fn := fun _ => fun
  | [d] => { results := [.lit (.bool true)], args := [d] }
  | _ => none }
def fnRelocationRow : OpenClaim := { program := "ytnnhdoocklaeoaa", sum := "9dbbb9ed1ba840a7f284dad752284ee4e2041204444d0cde87d8e4bbce89afa8", func := "loop.example/pub-g01454/laws.FnRelocation", spec := "fnRelocation", apart := false }
def FnRelocationSaid : Prop := fnRelocationRow.holds Try.pinned (OpenSpec.ofChange fnRelocationSpec)

/-- ITS FALSE NEIGHBOUR: 'it returns false'. Refute it at one input. -/
def fnRelocationWrong : ChangeSpec := { name := "fnRelocation", fn := fun _ => fun
  | [d] => { results := [.lit (.bool false)], args := [d] }
  | _ => none }
def FnRelocationWrongFalsely : Prop := fnRelocationRow.holds Try.pinned (OpenSpec.ofChange fnRelocationWrong)

/-- 'laws.FnRelocationSet': WHATEVER THE INPUT: true; the input reads as it did. -/
def fnRelocationSetSpec : ChangeSpec := { name := "fnRelocationSet", fn := fun _ => fun
  | [d1, d2, d3] => { results := [.lit (.bool true)], args := [d1, d2, d3] }
  | _ => none }
def fnRelocationSetRow : OpenClaim := { program := "ytnnhdoocklaeoaa", sum := "9dbbb9ed1ba840a7f284dad752284ee4e2041204444d0cde87d8e4bbce89afa8", func := "loop.example/pub-g01454/laws.FnRelocationSet", spec := "fnRelocationSet", apart := false }
def FnRelocationSetSaid : Prop := fnRelocationSetRow.holds Try.pinned (OpenSpec.ofChange fnRelocationSetSpec)

/-- ITS FALSE NEIGHBOUR: 'it returns false'. Refute it at one input. -/
def fnRelocationSetWrong : ChangeSpec := { name := "fnRelocationSet", fn := fun _ => fun
  | [d1, d2, d3] => { results := [.lit (.bool false)], args := [d1, d2, d3] }
  | _ => none }
def FnRelocationSetWrongFalsely : Prop := fnRelocationSetRow.holds Try.pinned (OpenSpec.ofChange fnRelocationSetWrong)

/- THE SECOND FORM. 'bulk': how many values and letters a reading holds, each counted each time it is reached (what is shared counts as often as it is met; a slice's spare places count too). A statement '..UptoSaid' is the law's where the arguments, and the package variables that the reading takes, are together of bulk at most 1048576: NARROWER than '..Said'. Prove '..Said' where nothing that the law and all that it calls make is longer than what came in: it says more and counts as full. Else prove '..UptoSaid'. A law counts once. -/
mutual
def uptoBulk {H : Type} : DataW H → Nat
  | .lit (.string bytes) => bytes.length + 1
  | .lit _ => 1
  | .nil => 1
  | .ptr d => uptoBulk d + 1
  | .slice elems spare => uptoBulkAll elems + uptoBulkAll spare + 1
  | .agg parts => uptoBulkAll parts + 1
  | .iface _ d => uptoBulk d + 1
  | .map entries => uptoBulkEntries entries + 1
  | .held _ => 1
def uptoBulkAll {H : Type} : List (DataW H) → Nat
  | [] => 0
  | d :: r => uptoBulk d + uptoBulkAll r
def uptoBulkEntries {H : Type} : List (Lit × DataW H) → Nat
  | [] => 0
  | x :: r => uptoBulkEntry x + uptoBulkEntries r
def uptoBulkEntry {H : Type} : Lit × DataW H → Nat
  | (.string bytes, d) => bytes.length + uptoBulk d + 1
  | (_, d) => uptoBulk d + 1
 end
def uptoSmall : (H : Type) → List (DataW H) → Bool := fun _ ds => decide (uptoBulkAll ds ≤ 1048576)
def OpenSpec.upto (s : _root_.Go.ChangeSpec) : _root_.Go.OpenSpec := { _root_.Go.OpenSpec.ofChange s with cond := some uptoSmall }

/-- 'laws.FnFingerprintIsZero', WHERE WHAT IT READS IS OF BULK AT MOST 1048576: true; the input reads as it did. -/
def fnFingerprintIsZeroUptoRow : OpenClaim := { program := "ytnnhdoocklaeoaa", sum := "9dbbb9ed1ba840a7f284dad752284ee4e2041204444d0cde87d8e4bbce89afa8", func := "loop.example/pub-g01454/laws.FnFingerprintIsZero", spec := "fnFingerprintIsZero", apart := false, narrowed := true }
def FnFingerprintIsZeroUptoSaid : Prop := fnFingerprintIsZeroUptoRow.holds Try.pinned (OpenSpec.upto fnFingerprintIsZeroSpec)

/-- 'laws.FnRefIsZero', WHERE WHAT IT READS IS OF BULK AT MOST 1048576: true; the input reads as it did. -/
def fnRefIsZeroUptoRow : OpenClaim := { program := "ytnnhdoocklaeoaa", sum := "9dbbb9ed1ba840a7f284dad752284ee4e2041204444d0cde87d8e4bbce89afa8", func := "loop.example/pub-g01454/laws.FnRefIsZero", spec := "fnRefIsZero", apart := false, narrowed := true }
def FnRefIsZeroUptoSaid : Prop := fnRefIsZeroUptoRow.holds Try.pinned (OpenSpec.upto fnRefIsZeroSpec)

/-- 'laws.FnCodes', WHERE WHAT IT READS IS OF BULK AT MOST 1048576: true; the input reads as it did. -/
def fnCodesUptoRow : OpenClaim := { program := "ytnnhdoocklaeoaa", sum := "9dbbb9ed1ba840a7f284dad752284ee4e2041204444d0cde87d8e4bbce89afa8", func := "loop.example/pub-g01454/laws.FnCodes", spec := "fnCodes", apart := false, narrowed := true }
def FnCodesUptoSaid : Prop := fnCodesUptoRow.holds Try.pinned (OpenSpec.upto fnCodesSpec)

/-- 'laws.FnSymbol', WHERE WHAT IT READS IS OF BULK AT MOST 1048576: true; the input reads as it did. -/
def fnSymbolUptoRow : OpenClaim := { program := "ytnnhdoocklaeoaa", sum := "9dbbb9ed1ba840a7f284dad752284ee4e2041204444d0cde87d8e4bbce89afa8", func := "loop.example/pub-g01454/laws.FnSymbol", spec := "fnSymbol", apart := false, narrowed := true }
def FnSymbolUptoSaid : Prop := fnSymbolUptoRow.holds Try.pinned (OpenSpec.upto fnSymbolSpec)

/-- 'laws.FnSymbolFlag', WHERE WHAT IT READS IS OF BULK AT MOST 1048576: true; the input reads as it did. -/
def fnSymbolFlagUptoRow : OpenClaim := { program := "ytnnhdoocklaeoaa", sum := "9dbbb9ed1ba840a7f284dad752284ee4e2041204444d0cde87d8e4bbce89afa8", func := "loop.example/pub-g01454/laws.FnSymbolFlag", spec := "fnSymbolFlag", apart := false, narrowed := true }
def FnSymbolFlagUptoSaid : Prop := fnSymbolFlagUptoRow.holds Try.pinned (OpenSpec.upto fnSymbolFlagSpec)

/-- 'laws.FnSymbolFlags', WHERE WHAT IT READS IS OF BULK AT MOST 1048576: true; the input reads as it did. -/
def fnSymbolFlagsUptoRow : OpenClaim := { program := "ytnnhdoocklaeoaa", sum := "9dbbb9ed1ba840a7f284dad752284ee4e2041204444d0cde87d8e4bbce89afa8", func := "loop.example/pub-g01454/laws.FnSymbolFlags", spec := "fnSymbolFlags", apart := false, narrowed := true }
def FnSymbolFlagsUptoSaid : Prop := fnSymbolFlagsUptoRow.holds Try.pinned (OpenSpec.upto fnSymbolFlagsSpec)

/-- 'laws.FnSymbolSet', WHERE WHAT IT READS IS OF BULK AT MOST 1048576: true; the input reads as it did. -/
def fnSymbolSetUptoRow : OpenClaim := { program := "ytnnhdoocklaeoaa", sum := "9dbbb9ed1ba840a7f284dad752284ee4e2041204444d0cde87d8e4bbce89afa8", func := "loop.example/pub-g01454/laws.FnSymbolSet", spec := "fnSymbolSet", apart := false, narrowed := true }
def FnSymbolSetUptoSaid : Prop := fnSymbolSetUptoRow.holds Try.pinned (OpenSpec.upto fnSymbolSetSpec)

/-- 'laws.FnRelocation', WHERE WHAT IT READS IS OF BULK AT MOST 1048576: true; the input reads as it did. -/
def fnRelocationUptoRow : OpenClaim := { program := "ytnnhdoocklaeoaa", sum := "9dbbb9ed1ba840a7f284dad752284ee4e2041204444d0cde87d8e4bbce89afa8", func := "loop.example/pub-g01454/laws.FnRelocation", spec := "fnRelocation", apart := false, narrowed := true }
def FnRelocationUptoSaid : Prop := fnRelocationUptoRow.holds Try.pinned (OpenSpec.upto fnRelocationSpec)

/-- 'laws.FnRelocationSet', WHERE WHAT IT READS IS OF BULK AT MOST 1048576: true; the input reads as it did. -/
def fnRelocationSetUptoRow : OpenClaim := { program := "ytnnhdoocklaeoaa", sum := "9dbbb9ed1ba840a7f284dad752284ee4e2041204444d0cde87d8e4bbce89afa8", func := "loop.example/pub-g01454/laws.FnRelocationSet", spec := "fnRelocationSet", apart := false, narrowed := true }
def FnRelocationSetUptoSaid : Prop := fnRelocationSetUptoRow.holds Try.pinned (OpenSpec.upto fnRelocationSetSpec)

end Rows
end Go.Proofs.Ytnnhdoocklaeoaa
