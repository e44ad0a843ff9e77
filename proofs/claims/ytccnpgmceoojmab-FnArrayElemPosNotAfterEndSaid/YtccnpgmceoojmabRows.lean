/-
  No cell of these rows narrows 'for every input' (looked for: loops, veiled, ifaces, maps, wideKeys, modest, calm, conditions, laid).
  DERIVED. THE GIVEN ROWS OF THIS SEAT. 6 by the template 'for every input the law returns true; each argument reads behind the call as it read before'; 0 by the template 'total and deterministic' (their statements: YtccnpgmceoojmabTotals.lean).
  GIVEN WITH THE SEED: the statements are not yours to turn. If you find one false, say at which input.
  Laid BY PROGRAM, IN A SANDBOX (cutbox-rows.mjs): the forced cells as the released guide's own fill.sh prints them over the translation 98b69e88d5c02027… (all of the seat's roots in one cut). By AI agents, Wed Nov 11 2026. No macro, syntax, notation, axiom, sorry.
-/
import Derived.Test.YtccnpgmceoojmabChecked
import GoSem.Claim
import GoSem.ClaimJoined
import GoSem.ClaimMapViews
import Derived.JoinedTies
import Derived.KernelRfl
namespace Go.Proofs.Ytccnpgmceoojmab
/- THE CELL 'sum', in the pinned program and in every row, IS THE sha256 OF THE DUMP (.gsa) THAT YtccnpgmceoojmabProg.lean LOADS. Nothing in Lean hashes anything: it is a label: what it is worth is what the hold of that sum in a sandbox is worth. -/
noncomputable def Try.pinned : Pinned := { name := "ytccnpgmceoojmab", sum := "98b69e88d5c020273c7e5399a4de6bd1fcf18bc041f45558e44316f8a16814f6", checked := Try.checked }
namespace Rows
def none {H : Type} : Left H := { results := [], args := [] }

/-- 'n010_46.FnFlagsArithmEndNoX': WHATEVER THE INPUT: true; the input reads as it did. -/
def fnFlagsArithmEndNoXSpec : ChangeSpec := { name := "fnFlagsArithmEndNoX", fn := fun _ => fun
  | [d1, d2, d3, d4] => { results := [.lit (.bool true)], args := [d1, d2, d3, d4] }
  | _ => none }
def fnFlagsArithmEndNoXRow : OpenClaim := { program := "ytccnpgmceoojmab", sum := "98b69e88d5c020273c7e5399a4de6bd1fcf18bc041f45558e44316f8a16814f6", func := "mvdan.cc/sh/v3/n010_46.FnFlagsArithmEndNoX", spec := "fnFlagsArithmEndNoX", unfollowed := true, recurses := true, apart := false }
def FnFlagsArithmEndNoXSaid : Prop := fnFlagsArithmEndNoXRow.holds Try.pinned (OpenSpec.ofChange fnFlagsArithmEndNoXSpec)

/-- ITS FALSE NEIGHBOUR: 'it returns false'. Refute it at one input. -/
def fnFlagsArithmEndNoXWrong : ChangeSpec := { name := "fnFlagsArithmEndNoX", fn := fun _ => fun
  | [d1, d2, d3, d4] => { results := [.lit (.bool false)], args := [d1, d2, d3, d4] }
  | _ => none }
def FnFlagsArithmEndNoXWrongFalsely : Prop := fnFlagsArithmEndNoXRow.holds Try.pinned (OpenSpec.ofChange fnFlagsArithmEndNoXWrong)

/-- 'n010_46.FnCaseClauseSpan': WHATEVER THE INPUT: true; the input reads as it did. -/
def fnCaseClauseSpanSpec : ChangeSpec := { name := "fnCaseClauseSpan", fn := fun _ => fun
  | [d1, d2, d3, d4, d5] => { results := [.lit (.bool true)], args := [d1, d2, d3, d4, d5] }
  | _ => none }
def fnCaseClauseSpanRow : OpenClaim := { program := "ytccnpgmceoojmab", sum := "98b69e88d5c020273c7e5399a4de6bd1fcf18bc041f45558e44316f8a16814f6", func := "mvdan.cc/sh/v3/n010_46.FnCaseClauseSpan", spec := "fnCaseClauseSpan", apart := false }
def FnCaseClauseSpanSaid : Prop := fnCaseClauseSpanRow.holds Try.pinned (OpenSpec.ofChange fnCaseClauseSpanSpec)

/-- ITS FALSE NEIGHBOUR: 'it returns false'. Refute it at one input. -/
def fnCaseClauseSpanWrong : ChangeSpec := { name := "fnCaseClauseSpan", fn := fun _ => fun
  | [d1, d2, d3, d4, d5] => { results := [.lit (.bool false)], args := [d1, d2, d3, d4, d5] }
  | _ => none }
def FnCaseClauseSpanWrongFalsely : Prop := fnCaseClauseSpanRow.holds Try.pinned (OpenSpec.ofChange fnCaseClauseSpanWrong)

/-- 'n010_46.FnCaseClauseEndOnlyEsac': WHATEVER THE INPUT: true; the input reads as it did. -/
def fnCaseClauseEndOnlyEsacSpec : ChangeSpec := { name := "fnCaseClauseEndOnlyEsac", fn := fun _ => fun
  | [d1, d2, d3, d4, d5] => { results := [.lit (.bool true)], args := [d1, d2, d3, d4, d5] }
  | _ => none }
def fnCaseClauseEndOnlyEsacRow : OpenClaim := { program := "ytccnpgmceoojmab", sum := "98b69e88d5c020273c7e5399a4de6bd1fcf18bc041f45558e44316f8a16814f6", func := "mvdan.cc/sh/v3/n010_46.FnCaseClauseEndOnlyEsac", spec := "fnCaseClauseEndOnlyEsac", apart := false }
def FnCaseClauseEndOnlyEsacSaid : Prop := fnCaseClauseEndOnlyEsacRow.holds Try.pinned (OpenSpec.ofChange fnCaseClauseEndOnlyEsacSpec)

/-- ITS FALSE NEIGHBOUR: 'it returns false'. Refute it at one input. -/
def fnCaseClauseEndOnlyEsacWrong : ChangeSpec := { name := "fnCaseClauseEndOnlyEsac", fn := fun _ => fun
  | [d1, d2, d3, d4, d5] => { results := [.lit (.bool false)], args := [d1, d2, d3, d4, d5] }
  | _ => none }
def FnCaseClauseEndOnlyEsacWrongFalsely : Prop := fnCaseClauseEndOnlyEsacRow.holds Try.pinned (OpenSpec.ofChange fnCaseClauseEndOnlyEsacWrong)

/-- 'n010_27.FnArrayElemPosNotAfterEnd': WHATEVER THE INPUT: true; the input reads as it did. -/
def fnArrayElemPosNotAfterEndSpec : ChangeSpec := { name := "fnArrayElemPosNotAfterEnd", fn := fun _ => fun
  | [d1, d2, d3, d4, d5, d6, d7, d8, d9, d10] => { results := [.lit (.bool true)], args := [d1, d2, d3, d4, d5, d6, d7, d8, d9, d10] }
  | _ => none }
def fnArrayElemPosNotAfterEndRow : OpenClaim := { program := "ytccnpgmceoojmab", sum := "98b69e88d5c020273c7e5399a4de6bd1fcf18bc041f45558e44316f8a16814f6", func := "mvdan.cc/sh/v3/n010_27.FnArrayElemPosNotAfterEnd", spec := "fnArrayElemPosNotAfterEnd", unfollowed := true, recurses := true, apart := false }
def FnArrayElemPosNotAfterEndSaid : Prop := fnArrayElemPosNotAfterEndRow.holds Try.pinned (OpenSpec.ofChange fnArrayElemPosNotAfterEndSpec)

/-- ITS FALSE NEIGHBOUR: 'it returns false'. Refute it at one input. -/
def fnArrayElemPosNotAfterEndWrong : ChangeSpec := { name := "fnArrayElemPosNotAfterEnd", fn := fun _ => fun
  | [d1, d2, d3, d4, d5, d6, d7, d8, d9, d10] => { results := [.lit (.bool false)], args := [d1, d2, d3, d4, d5, d6, d7, d8, d9, d10] }
  | _ => none }
def FnArrayElemPosNotAfterEndWrongFalsely : Prop := fnArrayElemPosNotAfterEndRow.holds Try.pinned (OpenSpec.ofChange fnArrayElemPosNotAfterEndWrong)

/-- 'n010_27.FnExtGlobPosSpan': WHATEVER THE INPUT: true; the input reads as it did. -/
def fnExtGlobPosSpanSpec : ChangeSpec := { name := "fnExtGlobPosSpan", fn := fun _ => fun
  | [d1, d2, d3, d4, d5] => { results := [.lit (.bool true)], args := [d1, d2, d3, d4, d5] }
  | _ => none }
def fnExtGlobPosSpanRow : OpenClaim := { program := "ytccnpgmceoojmab", sum := "98b69e88d5c020273c7e5399a4de6bd1fcf18bc041f45558e44316f8a16814f6", func := "mvdan.cc/sh/v3/n010_27.FnExtGlobPosSpan", spec := "fnExtGlobPosSpan", apart := false }
def FnExtGlobPosSpanSaid : Prop := fnExtGlobPosSpanRow.holds Try.pinned (OpenSpec.ofChange fnExtGlobPosSpanSpec)

/-- ITS FALSE NEIGHBOUR: 'it returns false'. Refute it at one input. -/
def fnExtGlobPosSpanWrong : ChangeSpec := { name := "fnExtGlobPosSpan", fn := fun _ => fun
  | [d1, d2, d3, d4, d5] => { results := [.lit (.bool false)], args := [d1, d2, d3, d4, d5] }
  | _ => none }
def FnExtGlobPosSpanWrongFalsely : Prop := fnExtGlobPosSpanRow.holds Try.pinned (OpenSpec.ofChange fnExtGlobPosSpanWrong)

/-- 'n010_39.FnColAddByteNewlineForgets': WHATEVER THE INPUT: true; the input reads as it did. -/
def fnColAddByteNewlineForgetsSpec : ChangeSpec := { name := "fnColAddByteNewlineForgets", fn := fun _ => fun
  | [d1, d2, d3, d4, d5] => { results := [.lit (.bool true)], args := [d1, d2, d3, d4, d5] }
  | _ => none }
def fnColAddByteNewlineForgetsRow : OpenClaim := { program := "ytccnpgmceoojmab", sum := "98b69e88d5c020273c7e5399a4de6bd1fcf18bc041f45558e44316f8a16814f6", func := "mvdan.cc/sh/v3/n010_39.FnColAddByteNewlineForgets", spec := "fnColAddByteNewlineForgets", apart := false }
def FnColAddByteNewlineForgetsSaid : Prop := fnColAddByteNewlineForgetsRow.holds Try.pinned (OpenSpec.ofChange fnColAddByteNewlineForgetsSpec)

/-- ITS FALSE NEIGHBOUR: 'it returns false'. Refute it at one input. -/
def fnColAddByteNewlineForgetsWrong : ChangeSpec := { name := "fnColAddByteNewlineForgets", fn := fun _ => fun
  | [d1, d2, d3, d4, d5] => { results := [.lit (.bool false)], args := [d1, d2, d3, d4, d5] }
  | _ => none }
def FnColAddByteNewlineForgetsWrongFalsely : Prop := fnColAddByteNewlineForgetsRow.holds Try.pinned (OpenSpec.ofChange fnColAddByteNewlineForgetsWrong)

/- THE SECOND FORM. 'bulk': how many values and letters a reading holds, each counted each time it is reached (what is shared counts as often as it is met; a slice's spare places count too). A statement '..UptoSaid' is the law's where the arguments, and the package variables that the reading takes, are together of bulk at most 1048576: NARROWER than '..Said'. Prove '..Said' where nothing that the law and all that it calls make is longer than what came in: it says more and counts as full. Else prove '..UptoSaid'. A law counts once. -/
mutual
def uptoBulk {H : Type} : DataW H → Nat
  | .lit (.string bytes) => bytes.length + 1
  | .lit _ => 1
  | .nil => 1
  | .ptr d => uptoBulk d + 1
  | .slice elems spare => uptoBulkAll elems + uptoBulkAll spare + 1
  | .agg parts => uptoBulkAll parts + 1
  | .iface _ d => uptoBulk d + 1
  | .map entries => uptoBulkEntries entries + 1
  | .held _ => 1
def uptoBulkAll {H : Type} : List (DataW H) → Nat
  | [] => 0
  | d :: r => uptoBulk d + uptoBulkAll r
def uptoBulkEntries {H : Type} : List (Lit × DataW H) → Nat
  | [] => 0
  | x :: r => uptoBulkEntry x + uptoBulkEntries r
def uptoBulkEntry {H : Type} : Lit × DataW H → Nat
  | (.string bytes, d) => bytes.length + uptoBulk d + 1
  | (_, d) => uptoBulk d + 1
 end
def uptoSmall : (H : Type) → List (DataW H) → Bool := fun _ ds => decide (uptoBulkAll ds ≤ 1048576)
def OpenSpec.upto (s : _root_.Go.ChangeSpec) : _root_.Go.OpenSpec := { _root_.Go.OpenSpec.ofChange s with cond := some uptoSmall }

/-- 'n010_46.FnFlagsArithmEndNoX', WHERE WHAT IT READS IS OF BULK AT MOST 1048576: true; the input reads as it did. -/
def fnFlagsArithmEndNoXUptoRow : OpenClaim := { program := "ytccnpgmceoojmab", sum := "98b69e88d5c020273c7e5399a4de6bd1fcf18bc041f45558e44316f8a16814f6", func := "mvdan.cc/sh/v3/n010_46.FnFlagsArithmEndNoX", spec := "fnFlagsArithmEndNoX", unfollowed := true, recurses := true, apart := false, narrowed := true }
def FnFlagsArithmEndNoXUptoSaid : Prop := fnFlagsArithmEndNoXUptoRow.holds Try.pinned (OpenSpec.upto fnFlagsArithmEndNoXSpec)

/-- 'n010_46.FnCaseClauseSpan', WHERE WHAT IT READS IS OF BULK AT MOST 1048576: true; the input reads as it did. -/
def fnCaseClauseSpanUptoRow : OpenClaim := { program := "ytccnpgmceoojmab", sum := "98b69e88d5c020273c7e5399a4de6bd1fcf18bc041f45558e44316f8a16814f6", func := "mvdan.cc/sh/v3/n010_46.FnCaseClauseSpan", spec := "fnCaseClauseSpan", apart := false, narrowed := true }
def FnCaseClauseSpanUptoSaid : Prop := fnCaseClauseSpanUptoRow.holds Try.pinned (OpenSpec.upto fnCaseClauseSpanSpec)

/-- 'n010_46.FnCaseClauseEndOnlyEsac', WHERE WHAT IT READS IS OF BULK AT MOST 1048576: true; the input reads as it did. -/
def fnCaseClauseEndOnlyEsacUptoRow : OpenClaim := { program := "ytccnpgmceoojmab", sum := "98b69e88d5c020273c7e5399a4de6bd1fcf18bc041f45558e44316f8a16814f6", func := "mvdan.cc/sh/v3/n010_46.FnCaseClauseEndOnlyEsac", spec := "fnCaseClauseEndOnlyEsac", apart := false, narrowed := true }
def FnCaseClauseEndOnlyEsacUptoSaid : Prop := fnCaseClauseEndOnlyEsacUptoRow.holds Try.pinned (OpenSpec.upto fnCaseClauseEndOnlyEsacSpec)

/-- 'n010_27.FnArrayElemPosNotAfterEnd', WHERE WHAT IT READS IS OF BULK AT MOST 1048576: true; the input reads as it did. -/
def fnArrayElemPosNotAfterEndUptoRow : OpenClaim := { program := "ytccnpgmceoojmab", sum := "98b69e88d5c020273c7e5399a4de6bd1fcf18bc041f45558e44316f8a16814f6", func := "mvdan.cc/sh/v3/n010_27.FnArrayElemPosNotAfterEnd", spec := "fnArrayElemPosNotAfterEnd", unfollowed := true, recurses := true, apart := false, narrowed := true }
def FnArrayElemPosNotAfterEndUptoSaid : Prop := fnArrayElemPosNotAfterEndUptoRow.holds Try.pinned (OpenSpec.upto fnArrayElemPosNotAfterEndSpec)

/-- 'n010_27.FnExtGlobPosSpan', WHERE WHAT IT READS IS OF BULK AT MOST 1048576: true; the input reads as it did. -/
def fnExtGlobPosSpanUptoRow : OpenClaim := { program := "ytccnpgmceoojmab", sum := "98b69e88d5c020273c7e5399a4de6bd1fcf18bc041f45558e44316f8a16814f6", func := "mvdan.cc/sh/v3/n010_27.FnExtGlobPosSpan", spec := "fnExtGlobPosSpan", apart := false, narrowed := true }
def FnExtGlobPosSpanUptoSaid : Prop := fnExtGlobPosSpanUptoRow.holds Try.pinned (OpenSpec.upto fnExtGlobPosSpanSpec)

/-- 'n010_39.FnColAddByteNewlineForgets', WHERE WHAT IT READS IS OF BULK AT MOST 1048576: true; the input reads as it did. -/
def fnColAddByteNewlineForgetsUptoRow : OpenClaim := { program := "ytccnpgmceoojmab", sum := "98b69e88d5c020273c7e5399a4de6bd1fcf18bc041f45558e44316f8a16814f6", func := "mvdan.cc/sh/v3/n010_39.FnColAddByteNewlineForgets", spec := "fnColAddByteNewlineForgets", apart := false, narrowed := true }
def FnColAddByteNewlineForgetsUptoSaid : Prop := fnColAddByteNewlineForgetsUptoRow.holds Try.pinned (OpenSpec.upto fnColAddByteNewlineForgetsSpec)

end Rows
end Go.Proofs.Ytccnpgmceoojmab
