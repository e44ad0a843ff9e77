/-
  No cell of these rows narrows 'for every input' (looked for: loops, veiled, ifaces, maps, wideKeys, modest, calm, conditions, laid).
  DERIVED. THE GIVEN ROWS OF THIS SEAT. 3 by the template 'for every input the law returns true; each argument reads behind the call as it read before'; 0 by the template 'total and deterministic' (their statements: YtkegnedapnabiacTotals.lean).
  GIVEN WITH THE SEED: the statements are not yours to turn. If you find one false, say at which input.
  Laid BY PROGRAM, IN A SANDBOX (cutbox-rows.mjs): the forced cells as the released guide's own fill.sh prints them over the translation 92574f468ffa6823… (all of the seat's roots in one cut). By AI agents, Wed Nov 11 2026. No macro, syntax, notation, axiom, sorry.
-/
import Derived.Test.YtkegnedapnabiacChecked
import GoSem.Claim
import GoSem.ClaimJoined
import GoSem.ClaimMapViews
import Derived.JoinedTies
import Derived.KernelRfl
namespace Go.Proofs.Ytkegnedapnabiac
/- THE CELL 'sum', in the pinned program and in every row, IS THE sha256 OF THE DUMP (.gsa) THAT YtkegnedapnabiacProg.lean LOADS. Nothing in Lean hashes anything: it is a label: what it is worth is what the hold of that sum in a sandbox is worth. -/
noncomputable def Try.pinned : Pinned := { name := "ytkegnedapnabiac", sum := "92574f468ffa6823b82d07df60c2b47cb664068eaaff9c67634b3d9aaffc021d", checked := Try.checked }
namespace Rows
def none {H : Type} : Left H := { results := [], args := [] }

/-- 'n010_57.FnKeepCommentsExact': WHATEVER THE INPUT: true; the input reads as it did. -/
def fnKeepCommentsExactSpec : ChangeSpec := { name := "fnKeepCommentsExact", fn := fun _ => fun
  | [d] => { results := [.lit (.bool true)], args := [d] }
  | _ => none }
def fnKeepCommentsExactRow : OpenClaim := { program := "ytkegnedapnabiac", sum := "92574f468ffa6823b82d07df60c2b47cb664068eaaff9c67634b3d9aaffc021d", func := "mvdan.cc/sh/v3/n010_57.FnKeepCommentsExact", spec := "fnKeepCommentsExact", unfollowed := true, recurses := true, apart := false }
def FnKeepCommentsExactSaid : Prop := fnKeepCommentsExactRow.holds Try.pinned (OpenSpec.ofChange fnKeepCommentsExactSpec)

/-- ITS FALSE NEIGHBOUR: 'it returns false'. Refute it at one input. -/
def fnKeepCommentsExactWrong : ChangeSpec := { name := "fnKeepCommentsExact", fn := fun _ => fun
  | [d] => { results := [.lit (.bool false)], args := [d] }
  | _ => none }
def FnKeepCommentsExactWrongFalsely : Prop := fnKeepCommentsExactRow.holds Try.pinned (OpenSpec.ofChange fnKeepCommentsExactWrong)

/-- 'n010_33.FnBlockSpansForward': WHATEVER THE INPUT: true; the input reads as it did. -/
def fnBlockSpansForwardSpec : ChangeSpec := { name := "fnBlockSpansForward", fn := fun _ => fun
  | [d1, d2, d3, d4] => { results := [.lit (.bool true)], args := [d1, d2, d3, d4] }
  | _ => none }
def fnBlockSpansForwardRow : OpenClaim := { program := "ytkegnedapnabiac", sum := "92574f468ffa6823b82d07df60c2b47cb664068eaaff9c67634b3d9aaffc021d", func := "mvdan.cc/sh/v3/n010_33.FnBlockSpansForward", spec := "fnBlockSpansForward", apart := false }
def FnBlockSpansForwardSaid : Prop := fnBlockSpansForwardRow.holds Try.pinned (OpenSpec.ofChange fnBlockSpansForwardSpec)

/-- ITS FALSE NEIGHBOUR: 'it returns false'. Refute it at one input. -/
def fnBlockSpansForwardWrong : ChangeSpec := { name := "fnBlockSpansForward", fn := fun _ => fun
  | [d1, d2, d3, d4] => { results := [.lit (.bool false)], args := [d1, d2, d3, d4] }
  | _ => none }
def FnBlockSpansForwardWrongFalsely : Prop := fnBlockSpansForwardRow.holds Try.pinned (OpenSpec.ofChange fnBlockSpansForwardWrong)

/-- 'n010_3.FnTestOpsDisjoint': WHATEVER THE INPUT: true; the input reads as it did. -/
def fnTestOpsDisjointSpec : ChangeSpec := { name := "fnTestOpsDisjoint", fn := fun _ => fun
  | [d] => { results := [.lit (.bool true)], args := [d] }
  | _ => none }
def fnTestOpsDisjointRow : OpenClaim := { program := "ytkegnedapnabiac", sum := "92574f468ffa6823b82d07df60c2b47cb664068eaaff9c67634b3d9aaffc021d", func := "mvdan.cc/sh/v3/n010_3.FnTestOpsDisjoint", spec := "fnTestOpsDisjoint", apart := false }
def FnTestOpsDisjointSaid : Prop := fnTestOpsDisjointRow.holds Try.pinned (OpenSpec.ofChange fnTestOpsDisjointSpec)

/-- ITS FALSE NEIGHBOUR: 'it returns false'. Refute it at one input. -/
def fnTestOpsDisjointWrong : ChangeSpec := { name := "fnTestOpsDisjoint", fn := fun _ => fun
  | [d] => { results := [.lit (.bool false)], args := [d] }
  | _ => none }
def FnTestOpsDisjointWrongFalsely : Prop := fnTestOpsDisjointRow.holds Try.pinned (OpenSpec.ofChange fnTestOpsDisjointWrong)

/- THE SECOND FORM. 'bulk': how many values and letters a reading holds, each counted each time it is reached (what is shared counts as often as it is met; a slice's spare places count too). A statement '..UptoSaid' is the law's where the arguments, and the package variables that the reading takes, are together of bulk at most 1048576: NARROWER than '..Said'. Prove '..Said' where nothing that the law and all that it calls make is longer than what came in: it says more and counts as full. Else prove '..UptoSaid'. A law counts once. -/
mutual
def uptoBulk {H : Type} : DataW H → Nat
  | .lit (.string bytes) => bytes.length + 1
  | .lit _ => 1
  | .nil => 1
  | .ptr d => uptoBulk d + 1
  | .slice elems spare => uptoBulkAll elems + uptoBulkAll spare + 1
  | .agg parts => uptoBulkAll parts + 1
  | .iface _ d => uptoBulk d + 1
  | .map entries => uptoBulkEntries entries + 1
  | .held _ => 1
def uptoBulkAll {H : Type} : List (DataW H) → Nat
  | [] => 0
  | d :: r => uptoBulk d + uptoBulkAll r
def uptoBulkEntries {H : Type} : List (Lit × DataW H) → Nat
  | [] => 0
  | x :: r => uptoBulkEntry x + uptoBulkEntries r
def uptoBulkEntry {H : Type} : Lit × DataW H → Nat
  | (.string bytes, d) => bytes.length + uptoBulk d + 1
  | (_, d) => uptoBulk d + 1
 end
def uptoSmall : (H : Type) → List (DataW H) → Bool := fun _ ds => decide (uptoBulkAll ds ≤ 1048576)
def OpenSpec.upto (s : _root_.Go.ChangeSpec) : _root_.Go.OpenSpec := { _root_.Go.OpenSpec.ofChange s with cond := some uptoSmall }

/-- 'n010_57.FnKeepCommentsExact', WHERE WHAT IT READS IS OF BULK AT MOST 1048576: true; the input reads as it did. -/
def fnKeepCommentsExactUptoRow : OpenClaim := { program := "ytkegnedapnabiac", sum := "92574f468ffa6823b82d07df60c2b47cb664068eaaff9c67634b3d9aaffc021d", func := "mvdan.cc/sh/v3/n010_57.FnKeepCommentsExact", spec := "fnKeepCommentsExact", unfollowed := true, recurses := true, apart := false, narrowed := true }
def FnKeepCommentsExactUptoSaid : Prop := fnKeepCommentsExactUptoRow.holds Try.pinned (OpenSpec.upto fnKeepCommentsExactSpec)

/-- 'n010_33.FnBlockSpansForward', WHERE WHAT IT READS IS OF BULK AT MOST 1048576: true; the input reads as it did. -/
def fnBlockSpansForwardUptoRow : OpenClaim := { program := "ytkegnedapnabiac", sum := "92574f468ffa6823b82d07df60c2b47cb664068eaaff9c67634b3d9aaffc021d", func := "mvdan.cc/sh/v3/n010_33.FnBlockSpansForward", spec := "fnBlockSpansForward", apart := false, narrowed := true }
def FnBlockSpansForwardUptoSaid : Prop := fnBlockSpansForwardUptoRow.holds Try.pinned (OpenSpec.upto fnBlockSpansForwardSpec)

/-- 'n010_3.FnTestOpsDisjoint', WHERE WHAT IT READS IS OF BULK AT MOST 1048576: true; the input reads as it did. -/
def fnTestOpsDisjointUptoRow : OpenClaim := { program := "ytkegnedapnabiac", sum := "92574f468ffa6823b82d07df60c2b47cb664068eaaff9c67634b3d9aaffc021d", func := "mvdan.cc/sh/v3/n010_3.FnTestOpsDisjoint", spec := "fnTestOpsDisjoint", apart := false, narrowed := true }
def FnTestOpsDisjointUptoSaid : Prop := fnTestOpsDisjointUptoRow.holds Try.pinned (OpenSpec.upto fnTestOpsDisjointSpec)

end Rows
end Go.Proofs.Ytkegnedapnabiac
