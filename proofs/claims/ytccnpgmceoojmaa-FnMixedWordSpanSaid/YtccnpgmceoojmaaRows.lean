/-
  No cell of these rows narrows 'for every input' (looked for: loops, veiled, ifaces, maps, wideKeys, modest, calm, conditions, laid).
  DERIVED. THE GIVEN ROWS OF THIS SEAT. 6 by the template 'for every input the law returns true; each argument reads behind the call as it read before'; 0 by the template 'total and deterministic' (their statements: YtccnpgmceoojmaaTotals.lean).
  GIVEN WITH THE SEED: the statements are not yours to turn. If you find one false, say at which input.
  Laid BY PROGRAM, IN A SANDBOX (cutbox-rows.mjs): the forced cells as the released guide's own fill.sh prints them over the translation 6d50db584c5d3704… (all of the seat's roots in one cut). By AI agents, Wed Nov 11 2026. No macro, syntax, notation, axiom, sorry.
-/
import Derived.Test.YtccnpgmceoojmaaChecked
import GoSem.Claim
import GoSem.ClaimJoined
import GoSem.ClaimMapViews
import Derived.JoinedTies
import Derived.KernelRfl
namespace Go.Proofs.Ytccnpgmceoojmaa
/- THE CELL 'sum', in the pinned program and in every row, IS THE sha256 OF THE DUMP (.gsa) THAT YtccnpgmceoojmaaProg.lean LOADS. Nothing in Lean hashes anything: it is a label: what it is worth is what the hold of that sum in a sandbox is worth. -/
noncomputable def Try.pinned : Pinned := { name := "ytccnpgmceoojmaa", sum := "6d50db584c5d37041566a25c011a9cffbc8238ec55708466dc00f05d9f999aa3", checked := Try.checked }
namespace Rows
def none {H : Type} : Left H := { results := [], args := [] }

/-- 'n010_24.FnUnaryArithmSpanIsTextWidth': WHATEVER THE INPUT: true; the input reads as it did. -/
def fnUnaryArithmSpanIsTextWidthSpec : ChangeSpec := { name := "fnUnaryArithmSpanIsTextWidth", fn := fun _ => fun
  | [d1, d2, d3, d4, d5, d6] => { results := [.lit (.bool true)], args := [d1, d2, d3, d4, d5, d6] }
  | _ => none }
def fnUnaryArithmSpanIsTextWidthRow : OpenClaim := { program := "ytccnpgmceoojmaa", sum := "6d50db584c5d37041566a25c011a9cffbc8238ec55708466dc00f05d9f999aa3", func := "mvdan.cc/sh/v3/n010_24.FnUnaryArithmSpanIsTextWidth", spec := "fnUnaryArithmSpanIsTextWidth", unfollowed := true, recurses := true, apart := false }
def FnUnaryArithmSpanIsTextWidthSaid : Prop := fnUnaryArithmSpanIsTextWidthRow.holds Try.pinned (OpenSpec.ofChange fnUnaryArithmSpanIsTextWidthSpec)

/-- ITS FALSE NEIGHBOUR: 'it returns false'. Refute it at one input. -/
def fnUnaryArithmSpanIsTextWidthWrong : ChangeSpec := { name := "fnUnaryArithmSpanIsTextWidth", fn := fun _ => fun
  | [d1, d2, d3, d4, d5, d6] => { results := [.lit (.bool false)], args := [d1, d2, d3, d4, d5, d6] }
  | _ => none }
def FnUnaryArithmSpanIsTextWidthWrongFalsely : Prop := fnUnaryArithmSpanIsTextWidthRow.holds Try.pinned (OpenSpec.ofChange fnUnaryArithmSpanIsTextWidthWrong)

/-- 'n010_24.FnParenArithmSpanWidth': WHATEVER THE INPUT: true; the input reads as it did. -/
def fnParenArithmSpanWidthSpec : ChangeSpec := { name := "fnParenArithmSpanWidth", fn := fun _ => fun
  | [d1, d2, d3, d4] => { results := [.lit (.bool true)], args := [d1, d2, d3, d4] }
  | _ => none }
def fnParenArithmSpanWidthRow : OpenClaim := { program := "ytccnpgmceoojmaa", sum := "6d50db584c5d37041566a25c011a9cffbc8238ec55708466dc00f05d9f999aa3", func := "mvdan.cc/sh/v3/n010_24.FnParenArithmSpanWidth", spec := "fnParenArithmSpanWidth", apart := false }
def FnParenArithmSpanWidthSaid : Prop := fnParenArithmSpanWidthRow.holds Try.pinned (OpenSpec.ofChange fnParenArithmSpanWidthSpec)

/-- ITS FALSE NEIGHBOUR: 'it returns false'. Refute it at one input. -/
def fnParenArithmSpanWidthWrong : ChangeSpec := { name := "fnParenArithmSpanWidth", fn := fun _ => fun
  | [d1, d2, d3, d4] => { results := [.lit (.bool false)], args := [d1, d2, d3, d4] }
  | _ => none }
def FnParenArithmSpanWidthWrongFalsely : Prop := fnParenArithmSpanWidthRow.holds Try.pinned (OpenSpec.ofChange fnParenArithmSpanWidthWrong)

/-- 'n010_35.FnBinaryTestEndRegroup': WHATEVER THE INPUT: true; the input reads as it did. -/
def fnBinaryTestEndRegroupSpec : ChangeSpec := { name := "fnBinaryTestEndRegroup", fn := fun _ => fun
  | [d1, d2, d3, d4, d5, d6, d7, d8] => { results := [.lit (.bool true)], args := [d1, d2, d3, d4, d5, d6, d7, d8] }
  | _ => none }
def fnBinaryTestEndRegroupRow : OpenClaim := { program := "ytccnpgmceoojmaa", sum := "6d50db584c5d37041566a25c011a9cffbc8238ec55708466dc00f05d9f999aa3", func := "mvdan.cc/sh/v3/n010_35.FnBinaryTestEndRegroup", spec := "fnBinaryTestEndRegroup", unfollowed := true, recurses := true, apart := false }
def FnBinaryTestEndRegroupSaid : Prop := fnBinaryTestEndRegroupRow.holds Try.pinned (OpenSpec.ofChange fnBinaryTestEndRegroupSpec)

/-- ITS FALSE NEIGHBOUR: 'it returns false'. Refute it at one input. -/
def fnBinaryTestEndRegroupWrong : ChangeSpec := { name := "fnBinaryTestEndRegroup", fn := fun _ => fun
  | [d1, d2, d3, d4, d5, d6, d7, d8] => { results := [.lit (.bool false)], args := [d1, d2, d3, d4, d5, d6, d7, d8] }
  | _ => none }
def FnBinaryTestEndRegroupWrongFalsely : Prop := fnBinaryTestEndRegroupRow.holds Try.pinned (OpenSpec.ofChange fnBinaryTestEndRegroupWrong)

/-- 'n010_35.FnUnaryTestEndChain': WHATEVER THE INPUT: true; the input reads as it did. -/
def fnUnaryTestEndChainSpec : ChangeSpec := { name := "fnUnaryTestEndChain", fn := fun _ => fun
  | [d1, d2, d3, d4, d5, d6, d7, d8, d9] => { results := [.lit (.bool true)], args := [d1, d2, d3, d4, d5, d6, d7, d8, d9] }
  | _ => none }
def fnUnaryTestEndChainRow : OpenClaim := { program := "ytccnpgmceoojmaa", sum := "6d50db584c5d37041566a25c011a9cffbc8238ec55708466dc00f05d9f999aa3", func := "mvdan.cc/sh/v3/n010_35.FnUnaryTestEndChain", spec := "fnUnaryTestEndChain", unfollowed := true, recurses := true, apart := false }
def FnUnaryTestEndChainSaid : Prop := fnUnaryTestEndChainRow.holds Try.pinned (OpenSpec.ofChange fnUnaryTestEndChainSpec)

/-- ITS FALSE NEIGHBOUR: 'it returns false'. Refute it at one input. -/
def fnUnaryTestEndChainWrong : ChangeSpec := { name := "fnUnaryTestEndChain", fn := fun _ => fun
  | [d1, d2, d3, d4, d5, d6, d7, d8, d9] => { results := [.lit (.bool false)], args := [d1, d2, d3, d4, d5, d6, d7, d8, d9] }
  | _ => none }
def FnUnaryTestEndChainWrongFalsely : Prop := fnUnaryTestEndChainRow.holds Try.pinned (OpenSpec.ofChange fnUnaryTestEndChainWrong)

/-- 'n010_21.FnLitNodeAgreement': WHATEVER THE INPUT: true; the input reads as it did. -/
def fnLitNodeAgreementSpec : ChangeSpec := { name := "fnLitNodeAgreement", fn := fun _ => fun
  | [d1, d2, d3, d4, d5, d6, d7] => { results := [.lit (.bool true)], args := [d1, d2, d3, d4, d5, d6, d7] }
  | _ => none }
def fnLitNodeAgreementRow : OpenClaim := { program := "ytccnpgmceoojmaa", sum := "6d50db584c5d37041566a25c011a9cffbc8238ec55708466dc00f05d9f999aa3", func := "mvdan.cc/sh/v3/n010_21.FnLitNodeAgreement", spec := "fnLitNodeAgreement", unfollowed := true, recurses := true, apart := false }
def FnLitNodeAgreementSaid : Prop := fnLitNodeAgreementRow.holds Try.pinned (OpenSpec.ofChange fnLitNodeAgreementSpec)

/-- ITS FALSE NEIGHBOUR: 'it returns false'. Refute it at one input. -/
def fnLitNodeAgreementWrong : ChangeSpec := { name := "fnLitNodeAgreement", fn := fun _ => fun
  | [d1, d2, d3, d4, d5, d6, d7] => { results := [.lit (.bool false)], args := [d1, d2, d3, d4, d5, d6, d7] }
  | _ => none }
def FnLitNodeAgreementWrongFalsely : Prop := fnLitNodeAgreementRow.holds Try.pinned (OpenSpec.ofChange fnLitNodeAgreementWrong)

/-- 'n010_21.FnMixedWordSpan': WHATEVER THE INPUT: true; the input reads as it did. -/
def fnMixedWordSpanSpec : ChangeSpec := { name := "fnMixedWordSpan", fn := fun _ => fun
  | [d1, d2, d3, d4, d5, d6, d7, d8, d9, d10] => { results := [.lit (.bool true)], args := [d1, d2, d3, d4, d5, d6, d7, d8, d9, d10] }
  | _ => none }
def fnMixedWordSpanRow : OpenClaim := { program := "ytccnpgmceoojmaa", sum := "6d50db584c5d37041566a25c011a9cffbc8238ec55708466dc00f05d9f999aa3", func := "mvdan.cc/sh/v3/n010_21.FnMixedWordSpan", spec := "fnMixedWordSpan", inPlace := ["internal/abi.NoEscape", "internal/bytealg.MakeNoZero"], unfollowed := true, recurses := true, apart := false }
def FnMixedWordSpanSaid : Prop := fnMixedWordSpanRow.holds Try.pinned (OpenSpec.ofChange fnMixedWordSpanSpec)

/-- ITS FALSE NEIGHBOUR: 'it returns false'. Refute it at one input. -/
def fnMixedWordSpanWrong : ChangeSpec := { name := "fnMixedWordSpan", fn := fun _ => fun
  | [d1, d2, d3, d4, d5, d6, d7, d8, d9, d10] => { results := [.lit (.bool false)], args := [d1, d2, d3, d4, d5, d6, d7, d8, d9, d10] }
  | _ => none }
def FnMixedWordSpanWrongFalsely : Prop := fnMixedWordSpanRow.holds Try.pinned (OpenSpec.ofChange fnMixedWordSpanWrong)

/- THE SECOND FORM. 'bulk': how many values and letters a reading holds, each counted each time it is reached (what is shared counts as often as it is met; a slice's spare places count too). A statement '..UptoSaid' is the law's where the arguments, and the package variables that the reading takes, are together of bulk at most 1048576: NARROWER than '..Said'. Prove '..Said' where nothing that the law and all that it calls make is longer than what came in: it says more and counts as full. Else prove '..UptoSaid'. A law counts once. -/
mutual
def uptoBulk {H : Type} : DataW H → Nat
  | .lit (.string bytes) => bytes.length + 1
  | .lit _ => 1
  | .nil => 1
  | .ptr d => uptoBulk d + 1
  | .slice elems spare => uptoBulkAll elems + uptoBulkAll spare + 1
  | .agg parts => uptoBulkAll parts + 1
  | .iface _ d => uptoBulk d + 1
  | .map entries => uptoBulkEntries entries + 1
  | .held _ => 1
def uptoBulkAll {H : Type} : List (DataW H) → Nat
  | [] => 0
  | d :: r => uptoBulk d + uptoBulkAll r
def uptoBulkEntries {H : Type} : List (Lit × DataW H) → Nat
  | [] => 0
  | x :: r => uptoBulkEntry x + uptoBulkEntries r
def uptoBulkEntry {H : Type} : Lit × DataW H → Nat
  | (.string bytes, d) => bytes.length + uptoBulk d + 1
  | (_, d) => uptoBulk d + 1
 end
def uptoSmall : (H : Type) → List (DataW H) → Bool := fun _ ds => decide (uptoBulkAll ds ≤ 1048576)
def OpenSpec.upto (s : _root_.Go.ChangeSpec) : _root_.Go.OpenSpec := { _root_.Go.OpenSpec.ofChange s with cond := some uptoSmall }

/-- 'n010_24.FnUnaryArithmSpanIsTextWidth', WHERE WHAT IT READS IS OF BULK AT MOST 1048576: true; the input reads as it did. -/
def fnUnaryArithmSpanIsTextWidthUptoRow : OpenClaim := { program := "ytccnpgmceoojmaa", sum := "6d50db584c5d37041566a25c011a9cffbc8238ec55708466dc00f05d9f999aa3", func := "mvdan.cc/sh/v3/n010_24.FnUnaryArithmSpanIsTextWidth", spec := "fnUnaryArithmSpanIsTextWidth", unfollowed := true, recurses := true, apart := false, narrowed := true }
def FnUnaryArithmSpanIsTextWidthUptoSaid : Prop := fnUnaryArithmSpanIsTextWidthUptoRow.holds Try.pinned (OpenSpec.upto fnUnaryArithmSpanIsTextWidthSpec)

/-- 'n010_24.FnParenArithmSpanWidth', WHERE WHAT IT READS IS OF BULK AT MOST 1048576: true; the input reads as it did. -/
def fnParenArithmSpanWidthUptoRow : OpenClaim := { program := "ytccnpgmceoojmaa", sum := "6d50db584c5d37041566a25c011a9cffbc8238ec55708466dc00f05d9f999aa3", func := "mvdan.cc/sh/v3/n010_24.FnParenArithmSpanWidth", spec := "fnParenArithmSpanWidth", apart := false, narrowed := true }
def FnParenArithmSpanWidthUptoSaid : Prop := fnParenArithmSpanWidthUptoRow.holds Try.pinned (OpenSpec.upto fnParenArithmSpanWidthSpec)

/-- 'n010_35.FnBinaryTestEndRegroup', WHERE WHAT IT READS IS OF BULK AT MOST 1048576: true; the input reads as it did. -/
def fnBinaryTestEndRegroupUptoRow : OpenClaim := { program := "ytccnpgmceoojmaa", sum := "6d50db584c5d37041566a25c011a9cffbc8238ec55708466dc00f05d9f999aa3", func := "mvdan.cc/sh/v3/n010_35.FnBinaryTestEndRegroup", spec := "fnBinaryTestEndRegroup", unfollowed := true, recurses := true, apart := false, narrowed := true }
def FnBinaryTestEndRegroupUptoSaid : Prop := fnBinaryTestEndRegroupUptoRow.holds Try.pinned (OpenSpec.upto fnBinaryTestEndRegroupSpec)

/-- 'n010_35.FnUnaryTestEndChain', WHERE WHAT IT READS IS OF BULK AT MOST 1048576: true; the input reads as it did. -/
def fnUnaryTestEndChainUptoRow : OpenClaim := { program := "ytccnpgmceoojmaa", sum := "6d50db584c5d37041566a25c011a9cffbc8238ec55708466dc00f05d9f999aa3", func := "mvdan.cc/sh/v3/n010_35.FnUnaryTestEndChain", spec := "fnUnaryTestEndChain", unfollowed := true, recurses := true, apart := false, narrowed := true }
def FnUnaryTestEndChainUptoSaid : Prop := fnUnaryTestEndChainUptoRow.holds Try.pinned (OpenSpec.upto fnUnaryTestEndChainSpec)

/-- 'n010_21.FnLitNodeAgreement', WHERE WHAT IT READS IS OF BULK AT MOST 1048576: true; the input reads as it did. -/
def fnLitNodeAgreementUptoRow : OpenClaim := { program := "ytccnpgmceoojmaa", sum := "6d50db584c5d37041566a25c011a9cffbc8238ec55708466dc00f05d9f999aa3", func := "mvdan.cc/sh/v3/n010_21.FnLitNodeAgreement", spec := "fnLitNodeAgreement", unfollowed := true, recurses := true, apart := false, narrowed := true }
def FnLitNodeAgreementUptoSaid : Prop := fnLitNodeAgreementUptoRow.holds Try.pinned (OpenSpec.upto fnLitNodeAgreementSpec)

/-- 'n010_21.FnMixedWordSpan', WHERE WHAT IT READS IS OF BULK AT MOST 1048576: true; the input reads as it did. -/
def fnMixedWordSpanUptoRow : OpenClaim := { program := "ytccnpgmceoojmaa", sum := "6d50db584c5d37041566a25c011a9cffbc8238ec55708466dc00f05d9f999aa3", func := "mvdan.cc/sh/v3/n010_21.FnMixedWordSpan", spec := "fnMixedWordSpan", inPlace := ["internal/abi.NoEscape", "internal/bytealg.MakeNoZero"], unfollowed := true, recurses := true, apart := false, narrowed := true }
def FnMixedWordSpanUptoSaid : Prop := fnMixedWordSpanUptoRow.holds Try.pinned (OpenSpec.upto fnMixedWordSpanSpec)

end Rows
end Go.Proofs.Ytccnpgmceoojmaa
