/-
  DERIVED. GIVEN WITH THE SEED: THE CARDS: each row of YtkegnedapnabiabDoorRows.lean that lists a variable, with what it lists TIED to the program's text (the seventh form; the later family's looks); each row that meets fmt, with fmt's text TOLD by the authors' own Lean function (tested against real Go, not proved from fmt's source: count such statements apart). THE CARD IS WHAT COUNTS. Prove the row's statement (the work); the ties are given (YtkegnedapnabiabDoorTie.lean); close each card by the builder's one call (the guide's Derived/Test/ToyasCard.lean, 'card_holds'). Laid BY PROGRAM, IN A SANDBOX (cutbox-door.mjs). By AI agents, Wed Nov 11 2026. No macro, syntax, notation, axiom, sorry.
-/
import Derived.Test.YtkegnedapnabiabDoorRows
import GoSem.ClaimSeven
namespace Go.Proofs.YtkegnedapnabiabDoor
namespace Rows

/-- THE TIED CARD OF 'n010_49.FnGlobOperatorStringTable'. -/
def fnGlobOperatorStringTableCard : Claim7 := { stood := { row := fnGlobOperatorStringTableRow, standIns := [], harness := (true, "bc53d751eae6612f2b9e70036d9eeaecd900316d6ef4a1112a04ca295ddfefcf"), looks := false }, kinds := [], alts := [], laidByText := true, laidKinds := [.data, .data, .data, .data], laidTests := true, laidLooks := .later }
def FnGlobOperatorStringTableCardSaid : Prop := Claim7.holds Tryd.pinned (.plain (OpenSpec.ofChange fnGlobOperatorStringTableSpec)) fnGlobOperatorStringTableCard

/-- THE SECOND FORM's CARD OF 'n010_49.FnGlobOperatorStringTable'. -/
def fnGlobOperatorStringTableUptoCard : Claim7 := { stood := { row := fnGlobOperatorStringTableUptoRow, standIns := [], harness := (true, "bc53d751eae6612f2b9e70036d9eeaecd900316d6ef4a1112a04ca295ddfefcf"), looks := false }, kinds := [], alts := [], laidByText := true, laidKinds := [.data, .data, .data, .data], laidTests := true, laidLooks := .later }
def FnGlobOperatorStringTableUptoCardSaid : Prop := Claim7.holds Tryd.pinned (.plain (OpenSpec.upto fnGlobOperatorStringTableSpec)) fnGlobOperatorStringTableUptoCard
end Rows
end Go.Proofs.YtkegnedapnabiabDoor
