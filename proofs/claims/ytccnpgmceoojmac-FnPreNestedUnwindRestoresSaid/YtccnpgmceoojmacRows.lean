/-
  No cell of these rows narrows 'for every input' (looked for: loops, veiled, ifaces, maps, wideKeys, modest, calm, conditions, laid).
  DERIVED. THE GIVEN ROWS OF THIS SEAT. 6 by the template 'for every input the law returns true; each argument reads behind the call as it read before'; 0 by the template 'total and deterministic' (their statements: YtccnpgmceoojmacTotals.lean).
  GIVEN WITH THE SEED: the statements are not yours to turn. If you find one false, say at which input.
  Laid BY PROGRAM, IN A SANDBOX (cutbox-rows.mjs): the forced cells as the released guide's own fill.sh prints them over the translation 2bda5965b33e7192… (all of the seat's roots in one cut). By AI agents, Wed Nov 11 2026. No macro, syntax, notation, axiom, sorry.
-/
import Derived.Test.YtccnpgmceoojmacChecked
import GoSem.Claim
import GoSem.ClaimJoined
import GoSem.ClaimMapViews
import Derived.JoinedTies
import Derived.KernelRfl
namespace Go.Proofs.Ytccnpgmceoojmac
/- THE CELL 'sum', in the pinned program and in every row, IS THE sha256 OF THE DUMP (.gsa) THAT YtccnpgmceoojmacProg.lean LOADS. Nothing in Lean hashes anything: it is a label: what it is worth is what the hold of that sum in a sandbox is worth. -/
noncomputable def Try.pinned : Pinned := { name := "ytccnpgmceoojmac", sum := "2bda5965b33e71926c33a2af449d38caa51b0140a0d36a7f8f7356e1b97d7c8e", checked := Try.checked }
namespace Rows
def none {H : Type} : Left H := { results := [], args := [] }

/-- 'n010_31.FnPositionalRuneParamIsAsciiDigit': WHATEVER THE INPUT: true; the input reads as it did. -/
def fnPositionalRuneParamIsAsciiDigitSpec : ChangeSpec := { name := "fnPositionalRuneParamIsAsciiDigit", fn := fun _ => fun
  | [d1, d2] => { results := [.lit (.bool true)], args := [d1, d2] }
  | _ => none }
def fnPositionalRuneParamIsAsciiDigitRow : OpenClaim := { program := "ytccnpgmceoojmac", sum := "2bda5965b33e71926c33a2af449d38caa51b0140a0d36a7f8f7356e1b97d7c8e", func := "mvdan.cc/sh/v3/n010_31.FnPositionalRuneParamIsAsciiDigit", spec := "fnPositionalRuneParamIsAsciiDigit", apart := false }
def FnPositionalRuneParamIsAsciiDigitSaid : Prop := fnPositionalRuneParamIsAsciiDigitRow.holds Try.pinned (OpenSpec.ofChange fnPositionalRuneParamIsAsciiDigitSpec)

/-- ITS FALSE NEIGHBOUR: 'it returns false'. Refute it at one input. -/
def fnPositionalRuneParamIsAsciiDigitWrong : ChangeSpec := { name := "fnPositionalRuneParamIsAsciiDigit", fn := fun _ => fun
  | [d1, d2] => { results := [.lit (.bool false)], args := [d1, d2] }
  | _ => none }
def FnPositionalRuneParamIsAsciiDigitWrongFalsely : Prop := fnPositionalRuneParamIsAsciiDigitRow.holds Try.pinned (OpenSpec.ofChange fnPositionalRuneParamIsAsciiDigitWrong)

/-- 'n010_31.FnIsLitRedirLanguageOrder': WHATEVER THE INPUT: true; the input reads as it did. -/
def fnIsLitRedirLanguageOrderSpec : ChangeSpec := { name := "fnIsLitRedirLanguageOrder", fn := fun _ => fun
  | [d1, d2, d3] => { results := [.lit (.bool true)], args := [d1, d2, d3] }
  | _ => none }
def fnIsLitRedirLanguageOrderRow : OpenClaim := { program := "ytccnpgmceoojmac", sum := "2bda5965b33e71926c33a2af449d38caa51b0140a0d36a7f8f7356e1b97d7c8e", func := "mvdan.cc/sh/v3/n010_31.FnIsLitRedirLanguageOrder", spec := "fnIsLitRedirLanguageOrder", inPlace := ["internal/bytealg.IndexByte"], apart := false }
def FnIsLitRedirLanguageOrderSaid : Prop := fnIsLitRedirLanguageOrderRow.holds Try.pinned (OpenSpec.ofChange fnIsLitRedirLanguageOrderSpec)

/-- ITS FALSE NEIGHBOUR: 'it returns false'. Refute it at one input. -/
def fnIsLitRedirLanguageOrderWrong : ChangeSpec := { name := "fnIsLitRedirLanguageOrder", fn := fun _ => fun
  | [d1, d2, d3] => { results := [.lit (.bool false)], args := [d1, d2, d3] }
  | _ => none }
def FnIsLitRedirLanguageOrderWrongFalsely : Prop := fnIsLitRedirLanguageOrderRow.holds Try.pinned (OpenSpec.ofChange fnIsLitRedirLanguageOrderWrong)

/-- 'n010_31.FnNewLitThenEndLitIsEmpty': WHATEVER THE INPUT: true; the input reads as it did. -/
def fnNewLitThenEndLitIsEmptySpec : ChangeSpec := { name := "fnNewLitThenEndLitIsEmpty", fn := fun _ => fun
  | [d1, d2, d3] => { results := [.lit (.bool true)], args := [d1, d2, d3] }
  | _ => none }
def fnNewLitThenEndLitIsEmptyRow : OpenClaim := { program := "ytccnpgmceoojmac", sum := "2bda5965b33e71926c33a2af449d38caa51b0140a0d36a7f8f7356e1b97d7c8e", func := "mvdan.cc/sh/v3/n010_31.FnNewLitThenEndLitIsEmpty", spec := "fnNewLitThenEndLitIsEmpty", apart := false }
def FnNewLitThenEndLitIsEmptySaid : Prop := fnNewLitThenEndLitIsEmptyRow.holds Try.pinned (OpenSpec.ofChange fnNewLitThenEndLitIsEmptySpec)

/-- ITS FALSE NEIGHBOUR: 'it returns false'. Refute it at one input. -/
def fnNewLitThenEndLitIsEmptyWrong : ChangeSpec := { name := "fnNewLitThenEndLitIsEmpty", fn := fun _ => fun
  | [d1, d2, d3] => { results := [.lit (.bool false)], args := [d1, d2, d3] }
  | _ => none }
def FnNewLitThenEndLitIsEmptyWrongFalsely : Prop := fnNewLitThenEndLitIsEmptyRow.holds Try.pinned (OpenSpec.ofChange fnNewLitThenEndLitIsEmptyWrong)

/-- 'n010_31.FnNewLitRecordsCurrentRune': WHATEVER THE INPUT: true; the input reads as it did. -/
def fnNewLitRecordsCurrentRuneSpec : ChangeSpec := { name := "fnNewLitRecordsCurrentRune", fn := fun _ => fun
  | [d1, d2, d3] => { results := [.lit (.bool true)], args := [d1, d2, d3] }
  | _ => none }
def fnNewLitRecordsCurrentRuneRow : OpenClaim := { program := "ytccnpgmceoojmac", sum := "2bda5965b33e71926c33a2af449d38caa51b0140a0d36a7f8f7356e1b97d7c8e", func := "mvdan.cc/sh/v3/n010_31.FnNewLitRecordsCurrentRune", spec := "fnNewLitRecordsCurrentRune", apart := false }
def FnNewLitRecordsCurrentRuneSaid : Prop := fnNewLitRecordsCurrentRuneRow.holds Try.pinned (OpenSpec.ofChange fnNewLitRecordsCurrentRuneSpec)

/-- ITS FALSE NEIGHBOUR: 'it returns false'. Refute it at one input. -/
def fnNewLitRecordsCurrentRuneWrong : ChangeSpec := { name := "fnNewLitRecordsCurrentRune", fn := fun _ => fun
  | [d1, d2, d3] => { results := [.lit (.bool false)], args := [d1, d2, d3] }
  | _ => none }
def FnNewLitRecordsCurrentRuneWrongFalsely : Prop := fnNewLitRecordsCurrentRuneRow.holds Try.pinned (OpenSpec.ofChange fnNewLitRecordsCurrentRuneWrong)

/-- 'n010_26.FnPreNestedUnwindRestores': WHATEVER THE INPUT: true; the input reads as it did. -/
def fnPreNestedUnwindRestoresSpec : ChangeSpec := { name := "fnPreNestedUnwindRestores", fn := fun _ => fun
  | [d1, d2] => { results := [.lit (.bool true)], args := [d1, d2] }
  | _ => none }
def fnPreNestedUnwindRestoresRow : OpenClaim := { program := "ytccnpgmceoojmac", sum := "2bda5965b33e71926c33a2af449d38caa51b0140a0d36a7f8f7356e1b97d7c8e", func := "mvdan.cc/sh/v3/n010_26.FnPreNestedUnwindRestores", spec := "fnPreNestedUnwindRestores", unfollowed := true, recurses := true, apart := false }
def FnPreNestedUnwindRestoresSaid : Prop := fnPreNestedUnwindRestoresRow.holds Try.pinned (OpenSpec.ofChange fnPreNestedUnwindRestoresSpec)

/-- ITS FALSE NEIGHBOUR: 'it returns false'. Refute it at one input. -/
def fnPreNestedUnwindRestoresWrong : ChangeSpec := { name := "fnPreNestedUnwindRestores", fn := fun _ => fun
  | [d1, d2] => { results := [.lit (.bool false)], args := [d1, d2] }
  | _ => none }
def FnPreNestedUnwindRestoresWrongFalsely : Prop := fnPreNestedUnwindRestoresRow.holds Try.pinned (OpenSpec.ofChange fnPreNestedUnwindRestoresWrong)

/-- 'n010_26.FnWordOneCallPos': WHATEVER THE INPUT: true; the input reads as it did. -/
def fnWordOneCallPosSpec : ChangeSpec := { name := "fnWordOneCallPos", fn := fun _ => fun
  | [d1, d2, d3, d4] => { results := [.lit (.bool true)], args := [d1, d2, d3, d4] }
  | _ => none }
def fnWordOneCallPosRow : OpenClaim := { program := "ytccnpgmceoojmac", sum := "2bda5965b33e71926c33a2af449d38caa51b0140a0d36a7f8f7356e1b97d7c8e", func := "mvdan.cc/sh/v3/n010_26.FnWordOneCallPos", spec := "fnWordOneCallPos", unfollowed := true, recurses := true, apart := false }
def FnWordOneCallPosSaid : Prop := fnWordOneCallPosRow.holds Try.pinned (OpenSpec.ofChange fnWordOneCallPosSpec)

/-- ITS FALSE NEIGHBOUR: 'it returns false'. Refute it at one input. -/
def fnWordOneCallPosWrong : ChangeSpec := { name := "fnWordOneCallPos", fn := fun _ => fun
  | [d1, d2, d3, d4] => { results := [.lit (.bool false)], args := [d1, d2, d3, d4] }
  | _ => none }
def FnWordOneCallPosWrongFalsely : Prop := fnWordOneCallPosRow.holds Try.pinned (OpenSpec.ofChange fnWordOneCallPosWrong)

/- THE SECOND FORM. 'bulk': how many values and letters a reading holds, each counted each time it is reached (what is shared counts as often as it is met; a slice's spare places count too). A statement '..UptoSaid' is the law's where the arguments, and the package variables that the reading takes, are together of bulk at most 1048576: NARROWER than '..Said'. Prove '..Said' where nothing that the law and all that it calls make is longer than what came in: it says more and counts as full. Else prove '..UptoSaid'. A law counts once. -/
mutual
def uptoBulk {H : Type} : DataW H → Nat
  | .lit (.string bytes) => bytes.length + 1
  | .lit _ => 1
  | .nil => 1
  | .ptr d => uptoBulk d + 1
  | .slice elems spare => uptoBulkAll elems + uptoBulkAll spare + 1
  | .agg parts => uptoBulkAll parts + 1
  | .iface _ d => uptoBulk d + 1
  | .map entries => uptoBulkEntries entries + 1
  | .held _ => 1
def uptoBulkAll {H : Type} : List (DataW H) → Nat
  | [] => 0
  | d :: r => uptoBulk d + uptoBulkAll r
def uptoBulkEntries {H : Type} : List (Lit × DataW H) → Nat
  | [] => 0
  | x :: r => uptoBulkEntry x + uptoBulkEntries r
def uptoBulkEntry {H : Type} : Lit × DataW H → Nat
  | (.string bytes, d) => bytes.length + uptoBulk d + 1
  | (_, d) => uptoBulk d + 1
 end
def uptoSmall : (H : Type) → List (DataW H) → Bool := fun _ ds => decide (uptoBulkAll ds ≤ 1048576)
def OpenSpec.upto (s : _root_.Go.ChangeSpec) : _root_.Go.OpenSpec := { _root_.Go.OpenSpec.ofChange s with cond := some uptoSmall }

/-- 'n010_31.FnPositionalRuneParamIsAsciiDigit', WHERE WHAT IT READS IS OF BULK AT MOST 1048576: true; the input reads as it did. -/
def fnPositionalRuneParamIsAsciiDigitUptoRow : OpenClaim := { program := "ytccnpgmceoojmac", sum := "2bda5965b33e71926c33a2af449d38caa51b0140a0d36a7f8f7356e1b97d7c8e", func := "mvdan.cc/sh/v3/n010_31.FnPositionalRuneParamIsAsciiDigit", spec := "fnPositionalRuneParamIsAsciiDigit", apart := false, narrowed := true }
def FnPositionalRuneParamIsAsciiDigitUptoSaid : Prop := fnPositionalRuneParamIsAsciiDigitUptoRow.holds Try.pinned (OpenSpec.upto fnPositionalRuneParamIsAsciiDigitSpec)

/-- 'n010_31.FnIsLitRedirLanguageOrder', WHERE WHAT IT READS IS OF BULK AT MOST 1048576: true; the input reads as it did. -/
def fnIsLitRedirLanguageOrderUptoRow : OpenClaim := { program := "ytccnpgmceoojmac", sum := "2bda5965b33e71926c33a2af449d38caa51b0140a0d36a7f8f7356e1b97d7c8e", func := "mvdan.cc/sh/v3/n010_31.FnIsLitRedirLanguageOrder", spec := "fnIsLitRedirLanguageOrder", inPlace := ["internal/bytealg.IndexByte"], apart := false, narrowed := true }
def FnIsLitRedirLanguageOrderUptoSaid : Prop := fnIsLitRedirLanguageOrderUptoRow.holds Try.pinned (OpenSpec.upto fnIsLitRedirLanguageOrderSpec)

/-- 'n010_31.FnNewLitThenEndLitIsEmpty', WHERE WHAT IT READS IS OF BULK AT MOST 1048576: true; the input reads as it did. -/
def fnNewLitThenEndLitIsEmptyUptoRow : OpenClaim := { program := "ytccnpgmceoojmac", sum := "2bda5965b33e71926c33a2af449d38caa51b0140a0d36a7f8f7356e1b97d7c8e", func := "mvdan.cc/sh/v3/n010_31.FnNewLitThenEndLitIsEmpty", spec := "fnNewLitThenEndLitIsEmpty", apart := false, narrowed := true }
def FnNewLitThenEndLitIsEmptyUptoSaid : Prop := fnNewLitThenEndLitIsEmptyUptoRow.holds Try.pinned (OpenSpec.upto fnNewLitThenEndLitIsEmptySpec)

/-- 'n010_31.FnNewLitRecordsCurrentRune', WHERE WHAT IT READS IS OF BULK AT MOST 1048576: true; the input reads as it did. -/
def fnNewLitRecordsCurrentRuneUptoRow : OpenClaim := { program := "ytccnpgmceoojmac", sum := "2bda5965b33e71926c33a2af449d38caa51b0140a0d36a7f8f7356e1b97d7c8e", func := "mvdan.cc/sh/v3/n010_31.FnNewLitRecordsCurrentRune", spec := "fnNewLitRecordsCurrentRune", apart := false, narrowed := true }
def FnNewLitRecordsCurrentRuneUptoSaid : Prop := fnNewLitRecordsCurrentRuneUptoRow.holds Try.pinned (OpenSpec.upto fnNewLitRecordsCurrentRuneSpec)

/-- 'n010_26.FnPreNestedUnwindRestores', WHERE WHAT IT READS IS OF BULK AT MOST 1048576: true; the input reads as it did. -/
def fnPreNestedUnwindRestoresUptoRow : OpenClaim := { program := "ytccnpgmceoojmac", sum := "2bda5965b33e71926c33a2af449d38caa51b0140a0d36a7f8f7356e1b97d7c8e", func := "mvdan.cc/sh/v3/n010_26.FnPreNestedUnwindRestores", spec := "fnPreNestedUnwindRestores", unfollowed := true, recurses := true, apart := false, narrowed := true }
def FnPreNestedUnwindRestoresUptoSaid : Prop := fnPreNestedUnwindRestoresUptoRow.holds Try.pinned (OpenSpec.upto fnPreNestedUnwindRestoresSpec)

/-- 'n010_26.FnWordOneCallPos', WHERE WHAT IT READS IS OF BULK AT MOST 1048576: true; the input reads as it did. -/
def fnWordOneCallPosUptoRow : OpenClaim := { program := "ytccnpgmceoojmac", sum := "2bda5965b33e71926c33a2af449d38caa51b0140a0d36a7f8f7356e1b97d7c8e", func := "mvdan.cc/sh/v3/n010_26.FnWordOneCallPos", spec := "fnWordOneCallPos", unfollowed := true, recurses := true, apart := false, narrowed := true }
def FnWordOneCallPosUptoSaid : Prop := fnWordOneCallPosUptoRow.holds Try.pinned (OpenSpec.upto fnWordOneCallPosSpec)

end Rows
end Go.Proofs.Ytccnpgmceoojmac
