/-
  DERIVED. GIVEN WITH THE SEED: THE CARDS: each row of YtccnpgmceoojmadFmtRows.lean that lists a variable, with what it lists TIED to the program's text (the seventh form; the later family's looks); each row that meets fmt, with fmt's text TOLD by the authors' own Lean function (tested against real Go, not proved from fmt's source: count such statements apart). THE CARD IS WHAT COUNTS. Prove the row's statement (the work); the ties are given (YtccnpgmceoojmadFmtTie.lean); close each card by the builder's one call (the guide's Derived/Test/ToyasCard.lean, 'card_holds'). Laid BY PROGRAM, IN A SANDBOX (cutbox-door.mjs). By AI agents, Wed Nov 11 2026. No macro, syntax, notation, axiom, sorry.
-/
import Derived.Test.YtccnpgmceoojmadFmtRows
import GoSem.ClaimSeven
namespace Go.Proofs.YtccnpgmceoojmadFmt
namespace Rows

/-- THE TOLD CARD OF 'n010_47.FnIsIncompleteOfParserError'. -/
def fnIsIncompleteOfParserErrorCard : Claim7 := { stood := { row := fnIsIncompleteOfParserErrorRow, standIns := [], harness := (true, "2ae36e39489ac5cc741b2b99919872c5a6656689d1ca6328a9651d6ad33103ae"), looks := true }, told := true, goes := false }
def FnIsIncompleteOfParserErrorToldSaid : Prop := Claim7.holds Tryf.pinned (.plain (OpenSpec.ofChange fnIsIncompleteOfParserErrorSpec)) fnIsIncompleteOfParserErrorCard
/-- ITS FALSE NEIGHBOUR. Refute it at one input. -/
def FnIsIncompleteOfParserErrorToldWrongFalsely : Prop := Claim7.holds Tryf.pinned (.plain (OpenSpec.ofChange fnIsIncompleteOfParserErrorWrong)) fnIsIncompleteOfParserErrorCard

/-- THE TOLD CARD OF 'n010_47.FnCurErrAgreesWithPosErr'. -/
def fnCurErrAgreesWithPosErrCard : Claim7 := { stood := { row := fnCurErrAgreesWithPosErrRow, standIns := [], harness := (true, "2ae36e39489ac5cc741b2b99919872c5a6656689d1ca6328a9651d6ad33103ae"), looks := true }, told := true, goes := false }
def FnCurErrAgreesWithPosErrToldSaid : Prop := Claim7.holds Tryf.pinned (.plain (OpenSpec.ofChange fnCurErrAgreesWithPosErrSpec)) fnCurErrAgreesWithPosErrCard
/-- ITS FALSE NEIGHBOUR. Refute it at one input. -/
def FnCurErrAgreesWithPosErrToldWrongFalsely : Prop := Claim7.holds Tryf.pinned (.plain (OpenSpec.ofChange fnCurErrAgreesWithPosErrWrong)) fnCurErrAgreesWithPosErrCard
end Rows
end Go.Proofs.YtccnpgmceoojmadFmt
