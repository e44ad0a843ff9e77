/-
  No cell of these rows narrows 'for every input' (looked for: loops, veiled, ifaces, maps, wideKeys, modest, calm, conditions, laid).
  DERIVED. THE GIVEN ROWS OF THIS SEAT. 2 by the template 'for every input the law returns true; each argument reads behind the call as it read before'; 0 by the template 'total and deterministic' (their statements: YtccnpgmceoojmadFmtTotals.lean).
  GIVEN WITH THE SEED: the statements are not yours to turn. If you find one false, say at which input.
  Laid BY PROGRAM, IN A SANDBOX (cutbox-rows.mjs): the forced cells as the released guide's own fill.sh prints them over the translation 5e6e19bf5b881fe6… (all of the seat's roots in one cut). By AI agents, Wed Nov 11 2026. No macro, syntax, notation, axiom, sorry.
-/
import Derived.Test.YtccnpgmceoojmadFmtChecked
import GoSem.Claim
import GoSem.ClaimJoined
import GoSem.ClaimMapViews
import Derived.JoinedTies
import Derived.KernelRfl
namespace Go.Proofs.YtccnpgmceoojmadFmt
/- THE CELL 'sum', in the pinned program and in every row, IS THE sha256 OF THE DUMP (.gsa) THAT YtccnpgmceoojmadFmtProg.lean LOADS. Nothing in Lean hashes anything: it is a label: what it is worth is what the hold of that sum in a sandbox is worth. -/
noncomputable def Tryf.pinned : Pinned := { name := "ytccnpgmceoojmadfmt", sum := "5e6e19bf5b881fe6318e903b43e63c0240455e984cab26aa75427f1c462eddb0", checked := Tryf.checked }
namespace Rows
def none {H : Type} : Left H := { results := [], args := [] }

/-- 'n010_47.FnIsIncompleteOfParserError': WHATEVER THE INPUT: true; the input reads as it did. -/
def fnIsIncompleteOfParserErrorSpec : ChangeSpec := { name := "fnIsIncompleteOfParserError", fn := fun _ => fun
  | [d1, d2, d3, d4, d5, d6, d7] => { results := [.lit (.bool true)], args := [d1, d2, d3, d4, d5, d6, d7] }
  | _ => none }
def fnIsIncompleteOfParserErrorRow : OpenClaim := { program := "ytccnpgmceoojmadfmt", sum := "5e6e19bf5b881fe6318e903b43e63c0240455e984cab26aa75427f1c462eddb0", func := "mvdan.cc/sh/v3/n010_47.FnIsIncompleteOfParserError", spec := "fnIsIncompleteOfParserError", stops := ["fmt.Sprintf, its operands' methods called"], inPlace := ["fmt.Sprintf"], unfollowed := true, recurses := true, apart := false }
/-- NO THEOREM (fmt's text is open here; it may be false): for the released tool's asking of the row's closed facts alone. THE STATEMENT IS 'FnIsIncompleteOfParserErrorToldSaid' (YtccnpgmceoojmadFmtCards.lean). -/
def FnIsIncompleteOfParserErrorFormAsk : Prop := fnIsIncompleteOfParserErrorRow.holds Tryf.pinned (OpenSpec.ofChange fnIsIncompleteOfParserErrorSpec)

/-- ITS FALSE NEIGHBOUR: 'it returns false'. Refute it at one input. -/
def fnIsIncompleteOfParserErrorWrong : ChangeSpec := { name := "fnIsIncompleteOfParserError", fn := fun _ => fun
  | [d1, d2, d3, d4, d5, d6, d7] => { results := [.lit (.bool false)], args := [d1, d2, d3, d4, d5, d6, d7] }
  | _ => none }
def FnIsIncompleteOfParserErrorWrongFormAsk : Prop := fnIsIncompleteOfParserErrorRow.holds Tryf.pinned (OpenSpec.ofChange fnIsIncompleteOfParserErrorWrong)

/-- 'n010_47.FnCurErrAgreesWithPosErr': WHATEVER THE INPUT: true; the input reads as it did. -/
def fnCurErrAgreesWithPosErrSpec : ChangeSpec := { name := "fnCurErrAgreesWithPosErr", fn := fun _ => fun
  | [d1, d2, d3, d4, d5, d6, d7, d8, d9, d10, d11] => { results := [.lit (.bool true)], args := [d1, d2, d3, d4, d5, d6, d7, d8, d9, d10, d11] }
  | _ => none }
def fnCurErrAgreesWithPosErrRow : OpenClaim := { program := "ytccnpgmceoojmadfmt", sum := "5e6e19bf5b881fe6318e903b43e63c0240455e984cab26aa75427f1c462eddb0", func := "mvdan.cc/sh/v3/n010_47.FnCurErrAgreesWithPosErr", spec := "fnCurErrAgreesWithPosErr", stops := ["fmt.Sprintf, its operands' methods called"], inPlace := ["fmt.Sprintf"], unfollowed := true, recurses := true, apart := false }
/-- NO THEOREM (fmt's text is open here; it may be false): for the released tool's asking of the row's closed facts alone. THE STATEMENT IS 'FnCurErrAgreesWithPosErrToldSaid' (YtccnpgmceoojmadFmtCards.lean). -/
def FnCurErrAgreesWithPosErrFormAsk : Prop := fnCurErrAgreesWithPosErrRow.holds Tryf.pinned (OpenSpec.ofChange fnCurErrAgreesWithPosErrSpec)

/-- ITS FALSE NEIGHBOUR: 'it returns false'. Refute it at one input. -/
def fnCurErrAgreesWithPosErrWrong : ChangeSpec := { name := "fnCurErrAgreesWithPosErr", fn := fun _ => fun
  | [d1, d2, d3, d4, d5, d6, d7, d8, d9, d10, d11] => { results := [.lit (.bool false)], args := [d1, d2, d3, d4, d5, d6, d7, d8, d9, d10, d11] }
  | _ => none }
def FnCurErrAgreesWithPosErrWrongFormAsk : Prop := fnCurErrAgreesWithPosErrRow.holds Tryf.pinned (OpenSpec.ofChange fnCurErrAgreesWithPosErrWrong)

end Rows
end Go.Proofs.YtccnpgmceoojmadFmt
