/-
  No cell of these rows narrows 'for every input' (looked for: loops, veiled, ifaces, maps, wideKeys, modest, calm, conditions, laid).
  DERIVED. THE GIVEN ROWS OF THIS SEAT. 4 by the template 'for every input the law returns true; each argument reads behind the call as it read before'; 0 by the template 'total and deterministic' (their statements: YtccnpgmceoojmadTotals.lean).
  GIVEN WITH THE SEED: the statements are not yours to turn. If you find one false, say at which input.
  Laid BY PROGRAM, IN A SANDBOX (cutbox-rows.mjs): the forced cells as the released guide's own fill.sh prints them over the translation 263b0e3ac8fffe06… (all of the seat's roots in one cut). By AI agents, Wed Nov 11 2026. No macro, syntax, notation, axiom, sorry.
-/
import Derived.Test.YtccnpgmceoojmadChecked
import GoSem.Claim
import GoSem.ClaimJoined
import GoSem.ClaimMapViews
import Derived.JoinedTies
import Derived.KernelRfl
namespace Go.Proofs.Ytccnpgmceoojmad
/- THE CELL 'sum', in the pinned program and in every row, IS THE sha256 OF THE DUMP (.gsa) THAT YtccnpgmceoojmadProg.lean LOADS. Nothing in Lean hashes anything: it is a label: what it is worth is what the hold of that sum in a sandbox is worth. -/
noncomputable def Try.pinned : Pinned := { name := "ytccnpgmceoojmad", sum := "263b0e3ac8fffe0621c28bd936f9fb018d3fbb330c08730b37cebc20b65242f6", checked := Try.checked }
namespace Rows
def none {H : Type} : Left H := { results := [], args := [] }

/-- 'n010_38.FnSimpleIgnoresWrittenForm': WHATEVER THE INPUT: true; the input reads as it did. -/
def fnSimpleIgnoresWrittenFormSpec : ChangeSpec := { name := "fnSimpleIgnoresWrittenForm", fn := fun _ => fun
  | [d1, d2, d3, d4, d5] => { results := [.lit (.bool true)], args := [d1, d2, d3, d4, d5] }
  | _ => none }
def fnSimpleIgnoresWrittenFormRow : OpenClaim := { program := "ytccnpgmceoojmad", sum := "263b0e3ac8fffe0621c28bd936f9fb018d3fbb330c08730b37cebc20b65242f6", func := "mvdan.cc/sh/v3/n010_38.FnSimpleIgnoresWrittenForm", spec := "fnSimpleIgnoresWrittenForm", apart := false }
def FnSimpleIgnoresWrittenFormSaid : Prop := fnSimpleIgnoresWrittenFormRow.holds Try.pinned (OpenSpec.ofChange fnSimpleIgnoresWrittenFormSpec)

/-- ITS FALSE NEIGHBOUR: 'it returns false'. Refute it at one input. -/
def fnSimpleIgnoresWrittenFormWrong : ChangeSpec := { name := "fnSimpleIgnoresWrittenForm", fn := fun _ => fun
  | [d1, d2, d3, d4, d5] => { results := [.lit (.bool false)], args := [d1, d2, d3, d4, d5] }
  | _ => none }
def FnSimpleIgnoresWrittenFormWrongFalsely : Prop := fnSimpleIgnoresWrittenFormRow.holds Try.pinned (OpenSpec.ofChange fnSimpleIgnoresWrittenFormWrong)

/-- 'n010_38.FnParamExpSpanIsSourceWidth': WHATEVER THE INPUT: true; the input reads as it did. -/
def fnParamExpSpanIsSourceWidthSpec : ChangeSpec := { name := "fnParamExpSpanIsSourceWidth", fn := fun _ => fun
  | [d1, d2, d3, d4, d5, d6] => { results := [.lit (.bool true)], args := [d1, d2, d3, d4, d5, d6] }
  | _ => none }
def fnParamExpSpanIsSourceWidthRow : OpenClaim := { program := "ytccnpgmceoojmad", sum := "263b0e3ac8fffe0621c28bd936f9fb018d3fbb330c08730b37cebc20b65242f6", func := "mvdan.cc/sh/v3/n010_38.FnParamExpSpanIsSourceWidth", spec := "fnParamExpSpanIsSourceWidth", unfollowed := true, recurses := true, apart := false }
def FnParamExpSpanIsSourceWidthSaid : Prop := fnParamExpSpanIsSourceWidthRow.holds Try.pinned (OpenSpec.ofChange fnParamExpSpanIsSourceWidthSpec)

/-- ITS FALSE NEIGHBOUR: 'it returns false'. Refute it at one input. -/
def fnParamExpSpanIsSourceWidthWrong : ChangeSpec := { name := "fnParamExpSpanIsSourceWidth", fn := fun _ => fun
  | [d1, d2, d3, d4, d5, d6] => { results := [.lit (.bool false)], args := [d1, d2, d3, d4, d5, d6] }
  | _ => none }
def FnParamExpSpanIsSourceWidthWrongFalsely : Prop := fnParamExpSpanIsSourceWidthRow.holds Try.pinned (OpenSpec.ofChange fnParamExpSpanIsSourceWidthWrong)

/-- 'n010_58.FnEndsWithRparenRightmostClean': WHATEVER THE INPUT: true; the input reads as it did. -/
def fnEndsWithRparenRightmostCleanSpec : ChangeSpec := { name := "fnEndsWithRparenRightmostClean", fn := fun _ => fun
  | [d] => { results := [.lit (.bool true)], args := [d] }
  | _ => none }
def fnEndsWithRparenRightmostCleanRow : OpenClaim := { program := "ytccnpgmceoojmad", sum := "263b0e3ac8fffe0621c28bd936f9fb018d3fbb330c08730b37cebc20b65242f6", func := "mvdan.cc/sh/v3/n010_58.FnEndsWithRparenRightmostClean", spec := "fnEndsWithRparenRightmostClean", recurses := true, apart := false }
def FnEndsWithRparenRightmostCleanSaid : Prop := fnEndsWithRparenRightmostCleanRow.holds Try.pinned (OpenSpec.ofChange fnEndsWithRparenRightmostCleanSpec)

/-- ITS FALSE NEIGHBOUR: 'it returns false'. Refute it at one input. -/
def fnEndsWithRparenRightmostCleanWrong : ChangeSpec := { name := "fnEndsWithRparenRightmostClean", fn := fun _ => fun
  | [d] => { results := [.lit (.bool false)], args := [d] }
  | _ => none }
def FnEndsWithRparenRightmostCleanWrongFalsely : Prop := fnEndsWithRparenRightmostCleanRow.holds Try.pinned (OpenSpec.ofChange fnEndsWithRparenRightmostCleanWrong)

/-- 'n010_58.FnStartsWithLparenIgnoresModifiers': WHATEVER THE INPUT: true; the input reads as it did. -/
def fnStartsWithLparenIgnoresModifiersSpec : ChangeSpec := { name := "fnStartsWithLparenIgnoresModifiers", fn := fun _ => fun
  | [d] => { results := [.lit (.bool true)], args := [d] }
  | _ => none }
def fnStartsWithLparenIgnoresModifiersRow : OpenClaim := { program := "ytccnpgmceoojmad", sum := "263b0e3ac8fffe0621c28bd936f9fb018d3fbb330c08730b37cebc20b65242f6", func := "mvdan.cc/sh/v3/n010_58.FnStartsWithLparenIgnoresModifiers", spec := "fnStartsWithLparenIgnoresModifiers", recurses := true, apart := false }
def FnStartsWithLparenIgnoresModifiersSaid : Prop := fnStartsWithLparenIgnoresModifiersRow.holds Try.pinned (OpenSpec.ofChange fnStartsWithLparenIgnoresModifiersSpec)

/-- ITS FALSE NEIGHBOUR: 'it returns false'. Refute it at one input. -/
def fnStartsWithLparenIgnoresModifiersWrong : ChangeSpec := { name := "fnStartsWithLparenIgnoresModifiers", fn := fun _ => fun
  | [d] => { results := [.lit (.bool false)], args := [d] }
  | _ => none }
def FnStartsWithLparenIgnoresModifiersWrongFalsely : Prop := fnStartsWithLparenIgnoresModifiersRow.holds Try.pinned (OpenSpec.ofChange fnStartsWithLparenIgnoresModifiersWrong)

/- THE SECOND FORM. 'bulk': how many values and letters a reading holds, each counted each time it is reached (what is shared counts as often as it is met; a slice's spare places count too). A statement '..UptoSaid' is the law's where the arguments, and the package variables that the reading takes, are together of bulk at most 1048576: NARROWER than '..Said'. Prove '..Said' where nothing that the law and all that it calls make is longer than what came in: it says more and counts as full. Else prove '..UptoSaid'. A law counts once. -/
mutual
def uptoBulk {H : Type} : DataW H → Nat
  | .lit (.string bytes) => bytes.length + 1
  | .lit _ => 1
  | .nil => 1
  | .ptr d => uptoBulk d + 1
  | .slice elems spare => uptoBulkAll elems + uptoBulkAll spare + 1
  | .agg parts => uptoBulkAll parts + 1
  | .iface _ d => uptoBulk d + 1
  | .map entries => uptoBulkEntries entries + 1
  | .held _ => 1
def uptoBulkAll {H : Type} : List (DataW H) → Nat
  | [] => 0
  | d :: r => uptoBulk d + uptoBulkAll r
def uptoBulkEntries {H : Type} : List (Lit × DataW H) → Nat
  | [] => 0
  | x :: r => uptoBulkEntry x + uptoBulkEntries r
def uptoBulkEntry {H : Type} : Lit × DataW H → Nat
  | (.string bytes, d) => bytes.length + uptoBulk d + 1
  | (_, d) => uptoBulk d + 1
 end
def uptoSmall : (H : Type) → List (DataW H) → Bool := fun _ ds => decide (uptoBulkAll ds ≤ 1048576)
def OpenSpec.upto (s : _root_.Go.ChangeSpec) : _root_.Go.OpenSpec := { _root_.Go.OpenSpec.ofChange s with cond := some uptoSmall }

/-- 'n010_38.FnSimpleIgnoresWrittenForm', WHERE WHAT IT READS IS OF BULK AT MOST 1048576: true; the input reads as it did. -/
def fnSimpleIgnoresWrittenFormUptoRow : OpenClaim := { program := "ytccnpgmceoojmad", sum := "263b0e3ac8fffe0621c28bd936f9fb018d3fbb330c08730b37cebc20b65242f6", func := "mvdan.cc/sh/v3/n010_38.FnSimpleIgnoresWrittenForm", spec := "fnSimpleIgnoresWrittenForm", apart := false, narrowed := true }
def FnSimpleIgnoresWrittenFormUptoSaid : Prop := fnSimpleIgnoresWrittenFormUptoRow.holds Try.pinned (OpenSpec.upto fnSimpleIgnoresWrittenFormSpec)

/-- 'n010_38.FnParamExpSpanIsSourceWidth', WHERE WHAT IT READS IS OF BULK AT MOST 1048576: true; the input reads as it did. -/
def fnParamExpSpanIsSourceWidthUptoRow : OpenClaim := { program := "ytccnpgmceoojmad", sum := "263b0e3ac8fffe0621c28bd936f9fb018d3fbb330c08730b37cebc20b65242f6", func := "mvdan.cc/sh/v3/n010_38.FnParamExpSpanIsSourceWidth", spec := "fnParamExpSpanIsSourceWidth", unfollowed := true, recurses := true, apart := false, narrowed := true }
def FnParamExpSpanIsSourceWidthUptoSaid : Prop := fnParamExpSpanIsSourceWidthUptoRow.holds Try.pinned (OpenSpec.upto fnParamExpSpanIsSourceWidthSpec)

/-- 'n010_58.FnEndsWithRparenRightmostClean', WHERE WHAT IT READS IS OF BULK AT MOST 1048576: true; the input reads as it did. -/
def fnEndsWithRparenRightmostCleanUptoRow : OpenClaim := { program := "ytccnpgmceoojmad", sum := "263b0e3ac8fffe0621c28bd936f9fb018d3fbb330c08730b37cebc20b65242f6", func := "mvdan.cc/sh/v3/n010_58.FnEndsWithRparenRightmostClean", spec := "fnEndsWithRparenRightmostClean", recurses := true, apart := false, narrowed := true }
def FnEndsWithRparenRightmostCleanUptoSaid : Prop := fnEndsWithRparenRightmostCleanUptoRow.holds Try.pinned (OpenSpec.upto fnEndsWithRparenRightmostCleanSpec)

/-- 'n010_58.FnStartsWithLparenIgnoresModifiers', WHERE WHAT IT READS IS OF BULK AT MOST 1048576: true; the input reads as it did. -/
def fnStartsWithLparenIgnoresModifiersUptoRow : OpenClaim := { program := "ytccnpgmceoojmad", sum := "263b0e3ac8fffe0621c28bd936f9fb018d3fbb330c08730b37cebc20b65242f6", func := "mvdan.cc/sh/v3/n010_58.FnStartsWithLparenIgnoresModifiers", spec := "fnStartsWithLparenIgnoresModifiers", recurses := true, apart := false, narrowed := true }
def FnStartsWithLparenIgnoresModifiersUptoSaid : Prop := fnStartsWithLparenIgnoresModifiersUptoRow.holds Try.pinned (OpenSpec.upto fnStartsWithLparenIgnoresModifiersSpec)

end Rows
end Go.Proofs.Ytccnpgmceoojmad
