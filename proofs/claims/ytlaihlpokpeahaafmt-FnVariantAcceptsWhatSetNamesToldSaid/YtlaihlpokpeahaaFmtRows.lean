/-
  No cell of these rows narrows 'for every input' (looked for: loops, veiled, ifaces, maps, wideKeys, modest, calm, conditions, laid).
  DERIVED. THE GIVEN ROWS OF THIS SEAT. 2 by the template 'for every input the law returns true; each argument reads behind the call as it read before'; 0 by the template 'total and deterministic' (their statements: YtlaihlpokpeahaaFmtTotals.lean).
  GIVEN WITH THE SEED: the statements are not yours to turn. If you find one false, say at which input.
  Laid BY PROGRAM, IN A SANDBOX (cutbox-rows.mjs): the forced cells as the released guide's own fill.sh prints them over the translation 776ebf7d1a1efc2a… (all of the seat's roots in one cut). By AI agents, Wed Nov 11 2026. No macro, syntax, notation, axiom, sorry.
-/
import Derived.Test.YtlaihlpokpeahaaFmtChecked
import GoSem.Claim
import GoSem.ClaimJoined
import GoSem.ClaimMapViews
import Derived.JoinedTies
import Derived.KernelRfl
namespace Go.Proofs.YtlaihlpokpeahaaFmt
/- THE CELL 'sum', in the pinned program and in every row, IS THE sha256 OF THE DUMP (.gsa) THAT YtlaihlpokpeahaaFmtProg.lean LOADS. Nothing in Lean hashes anything: it is a label: what it is worth is what the hold of that sum in a sandbox is worth. -/
noncomputable def Tryf.pinned : Pinned := { name := "ytlaihlpokpeahaafmt", sum := "776ebf7d1a1efc2a315a5ced5d03901be300f4831eb31bf93f3a1228225add3f", checked := Tryf.checked }
namespace Rows
def none {H : Type} : Left H := { results := [], args := [] }

/-- 'n010_57.FnKeepCommentsLastWinsAndCommutes': WHATEVER THE INPUT: true; the input reads as it did. -/
def fnKeepCommentsLastWinsAndCommutesSpec : ChangeSpec := { name := "fnKeepCommentsLastWinsAndCommutes", fn := fun _ => fun
  | [d1, d2, d3] => { results := [.lit (.bool true)], args := [d1, d2, d3] }
  | _ => none }
def fnKeepCommentsLastWinsAndCommutesRow : OpenClaim := { program := "ytlaihlpokpeahaafmt", sum := "776ebf7d1a1efc2a315a5ced5d03901be300f4831eb31bf93f3a1228225add3f", func := "mvdan.cc/sh/v3/n010_57.FnKeepCommentsLastWinsAndCommutes", spec := "fnKeepCommentsLastWinsAndCommutes", stops := ["fmt.Sprintf, its operands' methods called", "fmt.errorf"], inPlace := ["fmt.Sprintf"], unfollowed := true, recurses := true, apart := false }
/-- NO THEOREM (fmt's text is open here; it may be false): for the released tool's asking of the row's closed facts alone. THE STATEMENT IS 'FnKeepCommentsLastWinsAndCommutesToldSaid' (YtlaihlpokpeahaaFmtCards.lean). -/
def FnKeepCommentsLastWinsAndCommutesFormAsk : Prop := fnKeepCommentsLastWinsAndCommutesRow.holds Tryf.pinned (OpenSpec.ofChange fnKeepCommentsLastWinsAndCommutesSpec)

/-- ITS FALSE NEIGHBOUR: 'it returns false'. Refute it at one input. -/
def fnKeepCommentsLastWinsAndCommutesWrong : ChangeSpec := { name := "fnKeepCommentsLastWinsAndCommutes", fn := fun _ => fun
  | [d1, d2, d3] => { results := [.lit (.bool false)], args := [d1, d2, d3] }
  | _ => none }
def FnKeepCommentsLastWinsAndCommutesWrongFormAsk : Prop := fnKeepCommentsLastWinsAndCommutesRow.holds Tryf.pinned (OpenSpec.ofChange fnKeepCommentsLastWinsAndCommutesWrong)

/-- 'n010_57.FnVariantAcceptsWhatSetNames': WHATEVER THE INPUT: true; the input reads as it did. -/
def fnVariantAcceptsWhatSetNamesSpec : ChangeSpec := { name := "fnVariantAcceptsWhatSetNames", fn := fun _ => fun
  | [d] => { results := [.lit (.bool true)], args := [d] }
  | _ => none }
def fnVariantAcceptsWhatSetNamesRow : OpenClaim := { program := "ytlaihlpokpeahaafmt", sum := "776ebf7d1a1efc2a315a5ced5d03901be300f4831eb31bf93f3a1228225add3f", func := "mvdan.cc/sh/v3/n010_57.FnVariantAcceptsWhatSetNames", spec := "fnVariantAcceptsWhatSetNames", stops := ["fmt.Sprintf, its operands' methods called", "fmt.errorf"], inPlace := ["fmt.errorf", "fmt.Sprintf"], unfollowed := true, recurses := true, apart := false }
/-- NO THEOREM (fmt's text is open here; it may be false): for the released tool's asking of the row's closed facts alone. THE STATEMENT IS 'FnVariantAcceptsWhatSetNamesToldSaid' (YtlaihlpokpeahaaFmtCards.lean). -/
def FnVariantAcceptsWhatSetNamesFormAsk : Prop := fnVariantAcceptsWhatSetNamesRow.holds Tryf.pinned (OpenSpec.ofChange fnVariantAcceptsWhatSetNamesSpec)

/-- ITS FALSE NEIGHBOUR: 'it returns false'. Refute it at one input. -/
def fnVariantAcceptsWhatSetNamesWrong : ChangeSpec := { name := "fnVariantAcceptsWhatSetNames", fn := fun _ => fun
  | [d] => { results := [.lit (.bool false)], args := [d] }
  | _ => none }
def FnVariantAcceptsWhatSetNamesWrongFormAsk : Prop := fnVariantAcceptsWhatSetNamesRow.holds Tryf.pinned (OpenSpec.ofChange fnVariantAcceptsWhatSetNamesWrong)

end Rows
end Go.Proofs.YtlaihlpokpeahaaFmt
