/-
  No cell of these rows narrows 'for every input' (looked for: loops, veiled, ifaces, maps, wideKeys, modest, calm, conditions, laid).
  DERIVED. THE GIVEN ROWS OF THIS SEAT. 3 by the template 'for every input the law returns true; each argument reads behind the call as it read before'; 0 by the template 'total and deterministic' (their statements: YtccibpckfnhenaaTotals.lean).
  GIVEN WITH THE SEED: the statements are not yours to turn. If you find one false, say at which input.
  Laid BY PROGRAM, IN A SANDBOX (cutbox-rows.mjs): the forced cells as the released guide's own fill.sh prints them over the translation e0356cba803e5595… (all of the seat's roots in one cut). By AI agents, Wed Nov 11 2026. No macro, syntax, notation, axiom, sorry.
-/
import Derived.Test.YtccibpckfnhenaaChecked
import GoSem.Claim
import GoSem.ClaimJoined
import GoSem.ClaimMapViews
import Derived.JoinedTies
import Derived.KernelRfl
namespace Go.Proofs.Ytccibpckfnhenaa
/- THE CELL 'sum', in the pinned program and in every row, IS THE sha256 OF THE DUMP (.gsa) THAT YtccibpckfnhenaaProg.lean LOADS. Nothing in Lean hashes anything: it is a label: what it is worth is what the hold of that sum in a sandbox is worth. -/
noncomputable def Try.pinned : Pinned := { name := "ytccibpckfnhenaa", sum := "e0356cba803e5595e06d29c5bc7f5ea9a516717091f56d90793cb913cb6ff9bb", checked := Try.checked }
namespace Rows
def none {H : Type} : Left H := { results := [], args := [] }

/-- 'n010_42.FnParamNameRuneAgreesWithValidName': WHATEVER THE INPUT: true; the input reads as it did. -/
def fnParamNameRuneAgreesWithValidNameSpec : ChangeSpec := { name := "fnParamNameRuneAgreesWithValidName", fn := fun _ => fun
  | [d] => { results := [.lit (.bool true)], args := [d] }
  | _ => none }
def fnParamNameRuneAgreesWithValidNameRow : OpenClaim := { program := "ytccibpckfnhenaa", sum := "e0356cba803e5595e06d29c5bc7f5ea9a516717091f56d90793cb913cb6ff9bb", func := "mvdan.cc/sh/v3/n010_42.FnParamNameRuneAgreesWithValidName", spec := "fnParamNameRuneAgreesWithValidName", apart := false }
def FnParamNameRuneAgreesWithValidNameSaid : Prop := fnParamNameRuneAgreesWithValidNameRow.holds Try.pinned (OpenSpec.ofChange fnParamNameRuneAgreesWithValidNameSpec)

/-- ITS FALSE NEIGHBOUR: 'it returns false'. Refute it at one input. -/
def fnParamNameRuneAgreesWithValidNameWrong : ChangeSpec := { name := "fnParamNameRuneAgreesWithValidName", fn := fun _ => fun
  | [d] => { results := [.lit (.bool false)], args := [d] }
  | _ => none }
def FnParamNameRuneAgreesWithValidNameWrongFalsely : Prop := fnParamNameRuneAgreesWithValidNameRow.holds Try.pinned (OpenSpec.ofChange fnParamNameRuneAgreesWithValidNameWrong)

/-- 'n010_42.FnParamNameStartRuneByteAgreesWithRune': WHATEVER THE INPUT: true; the input reads as it did. -/
def fnParamNameStartRuneByteAgreesWithRuneSpec : ChangeSpec := { name := "fnParamNameStartRuneByteAgreesWithRune", fn := fun _ => fun
  | [d] => { results := [.lit (.bool true)], args := [d] }
  | _ => none }
def fnParamNameStartRuneByteAgreesWithRuneRow : OpenClaim := { program := "ytccibpckfnhenaa", sum := "e0356cba803e5595e06d29c5bc7f5ea9a516717091f56d90793cb913cb6ff9bb", func := "mvdan.cc/sh/v3/n010_42.FnParamNameStartRuneByteAgreesWithRune", spec := "fnParamNameStartRuneByteAgreesWithRune", apart := false }
def FnParamNameStartRuneByteAgreesWithRuneSaid : Prop := fnParamNameStartRuneByteAgreesWithRuneRow.holds Try.pinned (OpenSpec.ofChange fnParamNameStartRuneByteAgreesWithRuneSpec)

/-- ITS FALSE NEIGHBOUR: 'it returns false'. Refute it at one input. -/
def fnParamNameStartRuneByteAgreesWithRuneWrong : ChangeSpec := { name := "fnParamNameStartRuneByteAgreesWithRune", fn := fun _ => fun
  | [d] => { results := [.lit (.bool false)], args := [d] }
  | _ => none }
def FnParamNameStartRuneByteAgreesWithRuneWrongFalsely : Prop := fnParamNameStartRuneByteAgreesWithRuneRow.holds Try.pinned (OpenSpec.ofChange fnParamNameStartRuneByteAgreesWithRuneWrong)

/-- 'n010_42.FnSingleRuneParamByteAgreesWithRune': WHATEVER THE INPUT: true; the input reads as it did. -/
def fnSingleRuneParamByteAgreesWithRuneSpec : ChangeSpec := { name := "fnSingleRuneParamByteAgreesWithRune", fn := fun _ => fun
  | [d] => { results := [.lit (.bool true)], args := [d] }
  | _ => none }
def fnSingleRuneParamByteAgreesWithRuneRow : OpenClaim := { program := "ytccibpckfnhenaa", sum := "e0356cba803e5595e06d29c5bc7f5ea9a516717091f56d90793cb913cb6ff9bb", func := "mvdan.cc/sh/v3/n010_42.FnSingleRuneParamByteAgreesWithRune", spec := "fnSingleRuneParamByteAgreesWithRune", apart := false }
def FnSingleRuneParamByteAgreesWithRuneSaid : Prop := fnSingleRuneParamByteAgreesWithRuneRow.holds Try.pinned (OpenSpec.ofChange fnSingleRuneParamByteAgreesWithRuneSpec)

/-- ITS FALSE NEIGHBOUR: 'it returns false'. Refute it at one input. -/
def fnSingleRuneParamByteAgreesWithRuneWrong : ChangeSpec := { name := "fnSingleRuneParamByteAgreesWithRune", fn := fun _ => fun
  | [d] => { results := [.lit (.bool false)], args := [d] }
  | _ => none }
def FnSingleRuneParamByteAgreesWithRuneWrongFalsely : Prop := fnSingleRuneParamByteAgreesWithRuneRow.holds Try.pinned (OpenSpec.ofChange fnSingleRuneParamByteAgreesWithRuneWrong)

/- THE SECOND FORM. 'bulk': how many values and letters a reading holds, each counted each time it is reached (what is shared counts as often as it is met; a slice's spare places count too). A statement '..UptoSaid' is the law's where the arguments, and the package variables that the reading takes, are together of bulk at most 1048576: NARROWER than '..Said'. Prove '..Said' where nothing that the law and all that it calls make is longer than what came in: it says more and counts as full. Else prove '..UptoSaid'. A law counts once. -/
mutual
def uptoBulk {H : Type} : DataW H → Nat
  | .lit (.string bytes) => bytes.length + 1
  | .lit _ => 1
  | .nil => 1
  | .ptr d => uptoBulk d + 1
  | .slice elems spare => uptoBulkAll elems + uptoBulkAll spare + 1
  | .agg parts => uptoBulkAll parts + 1
  | .iface _ d => uptoBulk d + 1
  | .map entries => uptoBulkEntries entries + 1
  | .held _ => 1
def uptoBulkAll {H : Type} : List (DataW H) → Nat
  | [] => 0
  | d :: r => uptoBulk d + uptoBulkAll r
def uptoBulkEntries {H : Type} : List (Lit × DataW H) → Nat
  | [] => 0
  | x :: r => uptoBulkEntry x + uptoBulkEntries r
def uptoBulkEntry {H : Type} : Lit × DataW H → Nat
  | (.string bytes, d) => bytes.length + uptoBulk d + 1
  | (_, d) => uptoBulk d + 1
 end
def uptoSmall : (H : Type) → List (DataW H) → Bool := fun _ ds => decide (uptoBulkAll ds ≤ 1048576)
def OpenSpec.upto (s : _root_.Go.ChangeSpec) : _root_.Go.OpenSpec := { _root_.Go.OpenSpec.ofChange s with cond := some uptoSmall }

/-- 'n010_42.FnParamNameRuneAgreesWithValidName', WHERE WHAT IT READS IS OF BULK AT MOST 1048576: true; the input reads as it did. -/
def fnParamNameRuneAgreesWithValidNameUptoRow : OpenClaim := { program := "ytccibpckfnhenaa", sum := "e0356cba803e5595e06d29c5bc7f5ea9a516717091f56d90793cb913cb6ff9bb", func := "mvdan.cc/sh/v3/n010_42.FnParamNameRuneAgreesWithValidName", spec := "fnParamNameRuneAgreesWithValidName", apart := false, narrowed := true }
def FnParamNameRuneAgreesWithValidNameUptoSaid : Prop := fnParamNameRuneAgreesWithValidNameUptoRow.holds Try.pinned (OpenSpec.upto fnParamNameRuneAgreesWithValidNameSpec)

/-- 'n010_42.FnParamNameStartRuneByteAgreesWithRune', WHERE WHAT IT READS IS OF BULK AT MOST 1048576: true; the input reads as it did. -/
def fnParamNameStartRuneByteAgreesWithRuneUptoRow : OpenClaim := { program := "ytccibpckfnhenaa", sum := "e0356cba803e5595e06d29c5bc7f5ea9a516717091f56d90793cb913cb6ff9bb", func := "mvdan.cc/sh/v3/n010_42.FnParamNameStartRuneByteAgreesWithRune", spec := "fnParamNameStartRuneByteAgreesWithRune", apart := false, narrowed := true }
def FnParamNameStartRuneByteAgreesWithRuneUptoSaid : Prop := fnParamNameStartRuneByteAgreesWithRuneUptoRow.holds Try.pinned (OpenSpec.upto fnParamNameStartRuneByteAgreesWithRuneSpec)

/-- 'n010_42.FnSingleRuneParamByteAgreesWithRune', WHERE WHAT IT READS IS OF BULK AT MOST 1048576: true; the input reads as it did. -/
def fnSingleRuneParamByteAgreesWithRuneUptoRow : OpenClaim := { program := "ytccibpckfnhenaa", sum := "e0356cba803e5595e06d29c5bc7f5ea9a516717091f56d90793cb913cb6ff9bb", func := "mvdan.cc/sh/v3/n010_42.FnSingleRuneParamByteAgreesWithRune", spec := "fnSingleRuneParamByteAgreesWithRune", apart := false, narrowed := true }
def FnSingleRuneParamByteAgreesWithRuneUptoSaid : Prop := fnSingleRuneParamByteAgreesWithRuneUptoRow.holds Try.pinned (OpenSpec.upto fnSingleRuneParamByteAgreesWithRuneSpec)

end Rows
end Go.Proofs.Ytccibpckfnhenaa
