/-
  DERIVED. GIVEN WITH THE SEED: THE CARDS: each row of YtkegnedapnabiacDoorRows.lean that lists a variable, with what it lists TIED to the program's text (the seventh form; the later family's looks); each row that meets fmt, with fmt's text TOLD by the authors' own Lean function (tested against real Go, not proved from fmt's source: count such statements apart). THE CARD IS WHAT COUNTS. Prove the row's statement (the work); the ties are given (YtkegnedapnabiacDoorTie.lean); close each card by the builder's one call (the guide's Derived/Test/ToyasCard.lean, 'card_holds'). Laid BY PROGRAM, IN A SANDBOX (cutbox-door.mjs). By AI agents, Wed Nov 11 2026. No macro, syntax, notation, axiom, sorry.
-/
import Derived.Test.YtkegnedapnabiacDoorRows
import GoSem.ClaimSeven
namespace Go.Proofs.YtkegnedapnabiacDoor
namespace Rows

/-- THE TIED CARD OF 'n010_49.FnRedirOperatorStringTable'. -/
def fnRedirOperatorStringTableCard : Claim7 := { stood := { row := fnRedirOperatorStringTableRow, standIns := [], harness := (true, "e8e0483675c65d23828ee8ca052377ea79d94080fa3373a52e858f378e2835f7"), looks := false }, kinds := [], alts := [], laidByText := true, laidKinds := [.data, .data, .data, .data], laidTests := true, laidLooks := .later }
def FnRedirOperatorStringTableCardSaid : Prop := Claim7.holds Tryd.pinned (.plain (OpenSpec.ofChange fnRedirOperatorStringTableSpec)) fnRedirOperatorStringTableCard

/-- THE SECOND FORM's CARD OF 'n010_49.FnRedirOperatorStringTable'. -/
def fnRedirOperatorStringTableUptoCard : Claim7 := { stood := { row := fnRedirOperatorStringTableUptoRow, standIns := [], harness := (true, "e8e0483675c65d23828ee8ca052377ea79d94080fa3373a52e858f378e2835f7"), looks := false }, kinds := [], alts := [], laidByText := true, laidKinds := [.data, .data, .data, .data], laidTests := true, laidLooks := .later }
def FnRedirOperatorStringTableUptoCardSaid : Prop := Claim7.holds Tryd.pinned (.plain (OpenSpec.upto fnRedirOperatorStringTableSpec)) fnRedirOperatorStringTableUptoCard
end Rows
end Go.Proofs.YtkegnedapnabiacDoor
