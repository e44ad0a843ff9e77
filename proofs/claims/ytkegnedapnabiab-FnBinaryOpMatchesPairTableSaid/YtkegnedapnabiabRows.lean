/-
  No cell of these rows narrows 'for every input' (looked for: loops, veiled, ifaces, maps, wideKeys, modest, calm, conditions, laid).
  DERIVED. THE GIVEN ROWS OF THIS SEAT. 5 by the template 'for every input the law returns true; each argument reads behind the call as it read before'; 0 by the template 'total and deterministic' (their statements: YtkegnedapnabiabTotals.lean).
  GIVEN WITH THE SEED: the statements are not yours to turn. If you find one false, say at which input.
  Laid BY PROGRAM, IN A SANDBOX (cutbox-rows.mjs): the forced cells as the released guide's own fill.sh prints them over the translation be2e1afad3fe2efc… (all of the seat's roots in one cut). By AI agents, Wed Nov 11 2026. No macro, syntax, notation, axiom, sorry.
-/
import Derived.Test.YtkegnedapnabiabChecked
import GoSem.Claim
import GoSem.ClaimJoined
import GoSem.ClaimMapViews
import Derived.JoinedTies
import Derived.KernelRfl
namespace Go.Proofs.Ytkegnedapnabiab
/- THE CELL 'sum', in the pinned program and in every row, IS THE sha256 OF THE DUMP (.gsa) THAT YtkegnedapnabiabProg.lean LOADS. Nothing in Lean hashes anything: it is a label: what it is worth is what the hold of that sum in a sandbox is worth. -/
noncomputable def Try.pinned : Pinned := { name := "ytkegnedapnabiab", sum := "be2e1afad3fe2efc37b18b0171c58ec07e2a5e17f6a018cc92213b4ef64612ef", checked := Try.checked }
namespace Rows
def none {H : Type} : Left H := { results := [], args := [] }

/-- 'n010_29.FnStopTokenCaseTable': WHATEVER THE INPUT: true; the input reads as it did. -/
def fnStopTokenCaseTableSpec : ChangeSpec := { name := "fnStopTokenCaseTable", fn := fun _ => fun
  | [d1, d2, d3] => { results := [.lit (.bool true)], args := [d1, d2, d3] }
  | _ => none }
def fnStopTokenCaseTableRow : OpenClaim := { program := "ytkegnedapnabiab", sum := "be2e1afad3fe2efc37b18b0171c58ec07e2a5e17f6a018cc92213b4ef64612ef", func := "mvdan.cc/sh/v3/n010_29.FnStopTokenCaseTable", spec := "fnStopTokenCaseTable", apart := false }
def FnStopTokenCaseTableSaid : Prop := fnStopTokenCaseTableRow.holds Try.pinned (OpenSpec.ofChange fnStopTokenCaseTableSpec)

/-- ITS FALSE NEIGHBOUR: 'it returns false'. Refute it at one input. -/
def fnStopTokenCaseTableWrong : ChangeSpec := { name := "fnStopTokenCaseTable", fn := fun _ => fun
  | [d1, d2, d3] => { results := [.lit (.bool false)], args := [d1, d2, d3] }
  | _ => none }
def FnStopTokenCaseTableWrongFalsely : Prop := fnStopTokenCaseTableRow.holds Try.pinned (OpenSpec.ofChange fnStopTokenCaseTableWrong)

/-- 'n010_3.FnLangStringNamedExactlyPowers': WHATEVER THE INPUT: true; the input reads as it did. -/
def fnLangStringNamedExactlyPowersSpec : ChangeSpec := { name := "fnLangStringNamedExactlyPowers", fn := fun _ => fun
  | [d] => { results := [.lit (.bool true)], args := [d] }
  | _ => none }
def fnLangStringNamedExactlyPowersRow : OpenClaim := { program := "ytkegnedapnabiab", sum := "be2e1afad3fe2efc37b18b0171c58ec07e2a5e17f6a018cc92213b4ef64612ef", func := "mvdan.cc/sh/v3/n010_3.FnLangStringNamedExactlyPowers", spec := "fnLangStringNamedExactlyPowers", apart := false }
def FnLangStringNamedExactlyPowersSaid : Prop := fnLangStringNamedExactlyPowersRow.holds Try.pinned (OpenSpec.ofChange fnLangStringNamedExactlyPowersSpec)

/-- ITS FALSE NEIGHBOUR: 'it returns false'. Refute it at one input. -/
def fnLangStringNamedExactlyPowersWrong : ChangeSpec := { name := "fnLangStringNamedExactlyPowers", fn := fun _ => fun
  | [d] => { results := [.lit (.bool false)], args := [d] }
  | _ => none }
def FnLangStringNamedExactlyPowersWrongFalsely : Prop := fnLangStringNamedExactlyPowersRow.holds Try.pinned (OpenSpec.ofChange fnLangStringNamedExactlyPowersWrong)

/-- 'n010_25.FnIsHexTable': WHATEVER THE INPUT: true; the input reads as it did. -/
def fnIsHexTableSpec : ChangeSpec := { name := "fnIsHexTable", fn := fun _ => fun
  | [d] => { results := [.lit (.bool true)], args := [d] }
  | _ => none }
def fnIsHexTableRow : OpenClaim := { program := "ytkegnedapnabiab", sum := "be2e1afad3fe2efc37b18b0171c58ec07e2a5e17f6a018cc92213b4ef64612ef", func := "mvdan.cc/sh/v3/n010_25.FnIsHexTable", spec := "fnIsHexTable", apart := false }
def FnIsHexTableSaid : Prop := fnIsHexTableRow.holds Try.pinned (OpenSpec.ofChange fnIsHexTableSpec)

/-- ITS FALSE NEIGHBOUR: 'it returns false'. Refute it at one input. -/
def fnIsHexTableWrong : ChangeSpec := { name := "fnIsHexTable", fn := fun _ => fun
  | [d] => { results := [.lit (.bool false)], args := [d] }
  | _ => none }
def FnIsHexTableWrongFalsely : Prop := fnIsHexTableRow.holds Try.pinned (OpenSpec.ofChange fnIsHexTableWrong)

/-- 'n010_3.FnBinaryOpMatchesPairTable': WHATEVER THE INPUT: true; the input reads as it did. -/
def fnBinaryOpMatchesPairTableSpec : ChangeSpec := { name := "fnBinaryOpMatchesPairTable", fn := fun _ => fun
  | [d] => { results := [.lit (.bool true)], args := [d] }
  | _ => none }
def fnBinaryOpMatchesPairTableRow : OpenClaim := { program := "ytkegnedapnabiab", sum := "be2e1afad3fe2efc37b18b0171c58ec07e2a5e17f6a018cc92213b4ef64612ef", func := "mvdan.cc/sh/v3/n010_3.FnBinaryOpMatchesPairTable", spec := "fnBinaryOpMatchesPairTable", apart := false }
def FnBinaryOpMatchesPairTableSaid : Prop := fnBinaryOpMatchesPairTableRow.holds Try.pinned (OpenSpec.ofChange fnBinaryOpMatchesPairTableSpec)

/-- ITS FALSE NEIGHBOUR: 'it returns false'. Refute it at one input. -/
def fnBinaryOpMatchesPairTableWrong : ChangeSpec := { name := "fnBinaryOpMatchesPairTable", fn := fun _ => fun
  | [d] => { results := [.lit (.bool false)], args := [d] }
  | _ => none }
def FnBinaryOpMatchesPairTableWrongFalsely : Prop := fnBinaryOpMatchesPairTableRow.holds Try.pinned (OpenSpec.ofChange fnBinaryOpMatchesPairTableWrong)

/-- 'n010_3.FnUnaryOpMatchesLetterTable': WHATEVER THE INPUT: true; the input reads as it did. -/
def fnUnaryOpMatchesLetterTableSpec : ChangeSpec := { name := "fnUnaryOpMatchesLetterTable", fn := fun _ => fun
  | [d] => { results := [.lit (.bool true)], args := [d] }
  | _ => none }
def fnUnaryOpMatchesLetterTableRow : OpenClaim := { program := "ytkegnedapnabiab", sum := "be2e1afad3fe2efc37b18b0171c58ec07e2a5e17f6a018cc92213b4ef64612ef", func := "mvdan.cc/sh/v3/n010_3.FnUnaryOpMatchesLetterTable", spec := "fnUnaryOpMatchesLetterTable", apart := false }
def FnUnaryOpMatchesLetterTableSaid : Prop := fnUnaryOpMatchesLetterTableRow.holds Try.pinned (OpenSpec.ofChange fnUnaryOpMatchesLetterTableSpec)

/-- ITS FALSE NEIGHBOUR: 'it returns false'. Refute it at one input. -/
def fnUnaryOpMatchesLetterTableWrong : ChangeSpec := { name := "fnUnaryOpMatchesLetterTable", fn := fun _ => fun
  | [d] => { results := [.lit (.bool false)], args := [d] }
  | _ => none }
def FnUnaryOpMatchesLetterTableWrongFalsely : Prop := fnUnaryOpMatchesLetterTableRow.holds Try.pinned (OpenSpec.ofChange fnUnaryOpMatchesLetterTableWrong)

/- THE SECOND FORM. 'bulk': how many values and letters a reading holds, each counted each time it is reached (what is shared counts as often as it is met; a slice's spare places count too). A statement '..UptoSaid' is the law's where the arguments, and the package variables that the reading takes, are together of bulk at most 1048576: NARROWER than '..Said'. Prove '..Said' where nothing that the law and all that it calls make is longer than what came in: it says more and counts as full. Else prove '..UptoSaid'. A law counts once. -/
mutual
def uptoBulk {H : Type} : DataW H → Nat
  | .lit (.string bytes) => bytes.length + 1
  | .lit _ => 1
  | .nil => 1
  | .ptr d => uptoBulk d + 1
  | .slice elems spare => uptoBulkAll elems + uptoBulkAll spare + 1
  | .agg parts => uptoBulkAll parts + 1
  | .iface _ d => uptoBulk d + 1
  | .map entries => uptoBulkEntries entries + 1
  | .held _ => 1
def uptoBulkAll {H : Type} : List (DataW H) → Nat
  | [] => 0
  | d :: r => uptoBulk d + uptoBulkAll r
def uptoBulkEntries {H : Type} : List (Lit × DataW H) → Nat
  | [] => 0
  | x :: r => uptoBulkEntry x + uptoBulkEntries r
def uptoBulkEntry {H : Type} : Lit × DataW H → Nat
  | (.string bytes, d) => bytes.length + uptoBulk d + 1
  | (_, d) => uptoBulk d + 1
 end
def uptoSmall : (H : Type) → List (DataW H) → Bool := fun _ ds => decide (uptoBulkAll ds ≤ 1048576)
def OpenSpec.upto (s : _root_.Go.ChangeSpec) : _root_.Go.OpenSpec := { _root_.Go.OpenSpec.ofChange s with cond := some uptoSmall }

/-- 'n010_29.FnStopTokenCaseTable', WHERE WHAT IT READS IS OF BULK AT MOST 1048576: true; the input reads as it did. -/
def fnStopTokenCaseTableUptoRow : OpenClaim := { program := "ytkegnedapnabiab", sum := "be2e1afad3fe2efc37b18b0171c58ec07e2a5e17f6a018cc92213b4ef64612ef", func := "mvdan.cc/sh/v3/n010_29.FnStopTokenCaseTable", spec := "fnStopTokenCaseTable", apart := false, narrowed := true }
def FnStopTokenCaseTableUptoSaid : Prop := fnStopTokenCaseTableUptoRow.holds Try.pinned (OpenSpec.upto fnStopTokenCaseTableSpec)

/-- 'n010_3.FnLangStringNamedExactlyPowers', WHERE WHAT IT READS IS OF BULK AT MOST 1048576: true; the input reads as it did. -/
def fnLangStringNamedExactlyPowersUptoRow : OpenClaim := { program := "ytkegnedapnabiab", sum := "be2e1afad3fe2efc37b18b0171c58ec07e2a5e17f6a018cc92213b4ef64612ef", func := "mvdan.cc/sh/v3/n010_3.FnLangStringNamedExactlyPowers", spec := "fnLangStringNamedExactlyPowers", apart := false, narrowed := true }
def FnLangStringNamedExactlyPowersUptoSaid : Prop := fnLangStringNamedExactlyPowersUptoRow.holds Try.pinned (OpenSpec.upto fnLangStringNamedExactlyPowersSpec)

/-- 'n010_25.FnIsHexTable', WHERE WHAT IT READS IS OF BULK AT MOST 1048576: true; the input reads as it did. -/
def fnIsHexTableUptoRow : OpenClaim := { program := "ytkegnedapnabiab", sum := "be2e1afad3fe2efc37b18b0171c58ec07e2a5e17f6a018cc92213b4ef64612ef", func := "mvdan.cc/sh/v3/n010_25.FnIsHexTable", spec := "fnIsHexTable", apart := false, narrowed := true }
def FnIsHexTableUptoSaid : Prop := fnIsHexTableUptoRow.holds Try.pinned (OpenSpec.upto fnIsHexTableSpec)

/-- 'n010_3.FnBinaryOpMatchesPairTable', WHERE WHAT IT READS IS OF BULK AT MOST 1048576: true; the input reads as it did. -/
def fnBinaryOpMatchesPairTableUptoRow : OpenClaim := { program := "ytkegnedapnabiab", sum := "be2e1afad3fe2efc37b18b0171c58ec07e2a5e17f6a018cc92213b4ef64612ef", func := "mvdan.cc/sh/v3/n010_3.FnBinaryOpMatchesPairTable", spec := "fnBinaryOpMatchesPairTable", apart := false, narrowed := true }
def FnBinaryOpMatchesPairTableUptoSaid : Prop := fnBinaryOpMatchesPairTableUptoRow.holds Try.pinned (OpenSpec.upto fnBinaryOpMatchesPairTableSpec)

/-- 'n010_3.FnUnaryOpMatchesLetterTable', WHERE WHAT IT READS IS OF BULK AT MOST 1048576: true; the input reads as it did. -/
def fnUnaryOpMatchesLetterTableUptoRow : OpenClaim := { program := "ytkegnedapnabiab", sum := "be2e1afad3fe2efc37b18b0171c58ec07e2a5e17f6a018cc92213b4ef64612ef", func := "mvdan.cc/sh/v3/n010_3.FnUnaryOpMatchesLetterTable", spec := "fnUnaryOpMatchesLetterTable", apart := false, narrowed := true }
def FnUnaryOpMatchesLetterTableUptoSaid : Prop := fnUnaryOpMatchesLetterTableUptoRow.holds Try.pinned (OpenSpec.upto fnUnaryOpMatchesLetterTableSpec)

end Rows
end Go.Proofs.Ytkegnedapnabiab
