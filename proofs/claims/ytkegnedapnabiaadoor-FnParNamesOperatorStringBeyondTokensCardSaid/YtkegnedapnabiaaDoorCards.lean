/-
  DERIVED. GIVEN WITH THE SEED: THE CARDS: each row of YtkegnedapnabiaaDoorRows.lean that lists a variable, with what it lists TIED to the program's text (the seventh form; the later family's looks); each row that meets fmt, with fmt's text TOLD by the authors' own Lean function (tested against real Go, not proved from fmt's source: count such statements apart). THE CARD IS WHAT COUNTS. Prove the row's statement (the work); the ties are given (YtkegnedapnabiaaDoorTie.lean); close each card by the builder's one call (the guide's Derived/Test/ToyasCard.lean, 'card_holds'). Laid BY PROGRAM, IN A SANDBOX (cutbox-door.mjs). By AI agents, Wed Nov 11 2026. No macro, syntax, notation, axiom, sorry.
-/
import Derived.Test.YtkegnedapnabiaaDoorRows
import GoSem.ClaimSeven
namespace Go.Proofs.YtkegnedapnabiaaDoor
namespace Rows

/-- THE TIED CARD OF 'n010_41.FnBinCmdOperatorStringBeyondTokens'. -/
def fnBinCmdOperatorStringBeyondTokensCard : Claim7 := { stood := { row := fnBinCmdOperatorStringBeyondTokensRow, standIns := [], harness := (true, "70b849f0d65945959855db05b149f8826d80703662d48e3c61b4579eaa482fab"), looks := false }, kinds := [], alts := [], laidByText := true, laidKinds := [.data, .data, .data, .data], laidTests := true, laidLooks := .later }
def FnBinCmdOperatorStringBeyondTokensCardSaid : Prop := Claim7.holds Tryd.pinned (.plain (OpenSpec.ofChange fnBinCmdOperatorStringBeyondTokensSpec)) fnBinCmdOperatorStringBeyondTokensCard

/-- THE TIED CARD OF 'n010_41.FnCaseOperatorStringBeyondTokens'. -/
def fnCaseOperatorStringBeyondTokensCard : Claim7 := { stood := { row := fnCaseOperatorStringBeyondTokensRow, standIns := [], harness := (true, "70b849f0d65945959855db05b149f8826d80703662d48e3c61b4579eaa482fab"), looks := false }, kinds := [], alts := [], laidByText := true, laidKinds := [.data, .data, .data, .data], laidTests := true, laidLooks := .later }
def FnCaseOperatorStringBeyondTokensCardSaid : Prop := Claim7.holds Tryd.pinned (.plain (OpenSpec.ofChange fnCaseOperatorStringBeyondTokensSpec)) fnCaseOperatorStringBeyondTokensCard

/-- THE TIED CARD OF 'n010_41.FnParExpOperatorStringBeyondTokens'. -/
def fnParExpOperatorStringBeyondTokensCard : Claim7 := { stood := { row := fnParExpOperatorStringBeyondTokensRow, standIns := [], harness := (true, "70b849f0d65945959855db05b149f8826d80703662d48e3c61b4579eaa482fab"), looks := false }, kinds := [], alts := [], laidByText := true, laidKinds := [.data, .data, .data, .data], laidTests := true, laidLooks := .later }
def FnParExpOperatorStringBeyondTokensCardSaid : Prop := Claim7.holds Tryd.pinned (.plain (OpenSpec.ofChange fnParExpOperatorStringBeyondTokensSpec)) fnParExpOperatorStringBeyondTokensCard

/-- THE TIED CARD OF 'n010_41.FnParNamesOperatorStringBeyondTokens'. -/
def fnParNamesOperatorStringBeyondTokensCard : Claim7 := { stood := { row := fnParNamesOperatorStringBeyondTokensRow, standIns := [], harness := (true, "70b849f0d65945959855db05b149f8826d80703662d48e3c61b4579eaa482fab"), looks := false }, kinds := [], alts := [], laidByText := true, laidKinds := [.data, .data, .data, .data], laidTests := true, laidLooks := .later }
def FnParNamesOperatorStringBeyondTokensCardSaid : Prop := Claim7.holds Tryd.pinned (.plain (OpenSpec.ofChange fnParNamesOperatorStringBeyondTokensSpec)) fnParNamesOperatorStringBeyondTokensCard

/-- THE SECOND FORM's CARD OF 'n010_41.FnBinCmdOperatorStringBeyondTokens'. -/
def fnBinCmdOperatorStringBeyondTokensUptoCard : Claim7 := { stood := { row := fnBinCmdOperatorStringBeyondTokensUptoRow, standIns := [], harness := (true, "70b849f0d65945959855db05b149f8826d80703662d48e3c61b4579eaa482fab"), looks := false }, kinds := [], alts := [], laidByText := true, laidKinds := [.data, .data, .data, .data], laidTests := true, laidLooks := .later }
def FnBinCmdOperatorStringBeyondTokensUptoCardSaid : Prop := Claim7.holds Tryd.pinned (.plain (OpenSpec.upto fnBinCmdOperatorStringBeyondTokensSpec)) fnBinCmdOperatorStringBeyondTokensUptoCard

/-- THE SECOND FORM's CARD OF 'n010_41.FnCaseOperatorStringBeyondTokens'. -/
def fnCaseOperatorStringBeyondTokensUptoCard : Claim7 := { stood := { row := fnCaseOperatorStringBeyondTokensUptoRow, standIns := [], harness := (true, "70b849f0d65945959855db05b149f8826d80703662d48e3c61b4579eaa482fab"), looks := false }, kinds := [], alts := [], laidByText := true, laidKinds := [.data, .data, .data, .data], laidTests := true, laidLooks := .later }
def FnCaseOperatorStringBeyondTokensUptoCardSaid : Prop := Claim7.holds Tryd.pinned (.plain (OpenSpec.upto fnCaseOperatorStringBeyondTokensSpec)) fnCaseOperatorStringBeyondTokensUptoCard

/-- THE SECOND FORM's CARD OF 'n010_41.FnParExpOperatorStringBeyondTokens'. -/
def fnParExpOperatorStringBeyondTokensUptoCard : Claim7 := { stood := { row := fnParExpOperatorStringBeyondTokensUptoRow, standIns := [], harness := (true, "70b849f0d65945959855db05b149f8826d80703662d48e3c61b4579eaa482fab"), looks := false }, kinds := [], alts := [], laidByText := true, laidKinds := [.data, .data, .data, .data], laidTests := true, laidLooks := .later }
def FnParExpOperatorStringBeyondTokensUptoCardSaid : Prop := Claim7.holds Tryd.pinned (.plain (OpenSpec.upto fnParExpOperatorStringBeyondTokensSpec)) fnParExpOperatorStringBeyondTokensUptoCard

/-- THE SECOND FORM's CARD OF 'n010_41.FnParNamesOperatorStringBeyondTokens'. -/
def fnParNamesOperatorStringBeyondTokensUptoCard : Claim7 := { stood := { row := fnParNamesOperatorStringBeyondTokensUptoRow, standIns := [], harness := (true, "70b849f0d65945959855db05b149f8826d80703662d48e3c61b4579eaa482fab"), looks := false }, kinds := [], alts := [], laidByText := true, laidKinds := [.data, .data, .data, .data], laidTests := true, laidLooks := .later }
def FnParNamesOperatorStringBeyondTokensUptoCardSaid : Prop := Claim7.holds Tryd.pinned (.plain (OpenSpec.upto fnParNamesOperatorStringBeyondTokensSpec)) fnParNamesOperatorStringBeyondTokensUptoCard
end Rows
end Go.Proofs.YtkegnedapnabiaaDoor
