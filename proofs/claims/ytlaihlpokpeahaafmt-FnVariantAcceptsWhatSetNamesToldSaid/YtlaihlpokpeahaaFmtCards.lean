/-
  DERIVED. GIVEN WITH THE SEED: THE CARDS: each row of YtlaihlpokpeahaaFmtRows.lean that lists a variable, with what it lists TIED to the program's text (the seventh form; the later family's looks); each row that meets fmt, with fmt's text TOLD by the authors' own Lean function (tested against real Go, not proved from fmt's source: count such statements apart). THE CARD IS WHAT COUNTS. Prove the row's statement (the work); the ties are given (YtlaihlpokpeahaaFmtTie.lean); close each card by the builder's one call (the guide's Derived/Test/ToyasCard.lean, 'card_holds'). Laid BY PROGRAM, IN A SANDBOX (cutbox-door.mjs). By AI agents, Wed Nov 11 2026. No macro, syntax, notation, axiom, sorry.
-/
import Derived.Test.YtlaihlpokpeahaaFmtRows
import GoSem.ClaimSeven
namespace Go.Proofs.YtlaihlpokpeahaaFmt
namespace Rows

/-- THE TOLD CARD OF 'n010_57.FnKeepCommentsLastWinsAndCommutes'. -/
def fnKeepCommentsLastWinsAndCommutesCard : Claim7 := { stood := { row := fnKeepCommentsLastWinsAndCommutesRow, standIns := [], harness := (true, "ed22b06646405291d09c670490b1478bf2212d0ae2544167c078d1feeca44d6c"), looks := false }, told := true, goes := false }
def FnKeepCommentsLastWinsAndCommutesToldSaid : Prop := Claim7.holds Tryf.pinned (.plain (OpenSpec.ofChange fnKeepCommentsLastWinsAndCommutesSpec)) fnKeepCommentsLastWinsAndCommutesCard
/-- ITS FALSE NEIGHBOUR. Refute it at one input. -/
def FnKeepCommentsLastWinsAndCommutesToldWrongFalsely : Prop := Claim7.holds Tryf.pinned (.plain (OpenSpec.ofChange fnKeepCommentsLastWinsAndCommutesWrong)) fnKeepCommentsLastWinsAndCommutesCard

/-- THE TOLD CARD OF 'n010_57.FnVariantAcceptsWhatSetNames'. -/
def fnVariantAcceptsWhatSetNamesCard : Claim7 := { stood := { row := fnVariantAcceptsWhatSetNamesRow, standIns := [], harness := (true, "ed22b06646405291d09c670490b1478bf2212d0ae2544167c078d1feeca44d6c"), looks := false }, told := true, goes := false }
def FnVariantAcceptsWhatSetNamesToldSaid : Prop := Claim7.holds Tryf.pinned (.plain (OpenSpec.ofChange fnVariantAcceptsWhatSetNamesSpec)) fnVariantAcceptsWhatSetNamesCard
/-- ITS FALSE NEIGHBOUR. Refute it at one input. -/
def FnVariantAcceptsWhatSetNamesToldWrongFalsely : Prop := Claim7.holds Tryf.pinned (.plain (OpenSpec.ofChange fnVariantAcceptsWhatSetNamesWrong)) fnVariantAcceptsWhatSetNamesCard
end Rows
end Go.Proofs.YtlaihlpokpeahaaFmt
