/-
  The names of the glob operators: token.String at 139 to 143, off the table of indices.
-/
import Derived.Test.YtkegnedapnabiabDoorRows
import Derived.WalkKit
import Derived.Below
import Derived.Deep.QuietTactic
import Derived.BigQuiet
namespace Go.Proofs.YtkegnedapnabiabDoor.glob
open Go.RowKit

set_option maxRecDepth 100000 in
theorem tok139 (w : World) (h0 : w.cell? ⟨0, 139, none⟩ = some (.int .u16 310)) (h1 : w.cell? ⟨0, 140, none⟩ = some (.int .u16 312)) :
    Calls Tryd.prog 6 #[.int .u32 139] w fun e w' => e = .returned (.string ⟨#[63, 40]⟩) ∧ Below w.heap.size w w' := by
  have x0 : IntKind.i64.wrap 140 = 140 := by decide
  go_enter Tryd.func6, Tryd.ntmps6
  go_wp2
  go_quiet (fail)
  go_wp2
  go_ret
  exact ⟨congrArg Ending.returned (by kernel_rfl), ⟨rfl, rfl, rfl, Nat.le_refl _, fun _ _ => rfl⟩⟩
set_option maxRecDepth 100000 in
theorem tok140 (w : World) (h0 : w.cell? ⟨0, 140, none⟩ = some (.int .u16 312)) (h1 : w.cell? ⟨0, 141, none⟩ = some (.int .u16 314)) :
    Calls Tryd.prog 6 #[.int .u32 140] w fun e w' => e = .returned (.string ⟨#[42, 40]⟩) ∧ Below w.heap.size w w' := by
  have x0 : IntKind.i64.wrap 141 = 141 := by decide
  go_enter Tryd.func6, Tryd.ntmps6
  go_wp2
  go_quiet (fail)
  go_wp2
  go_ret
  exact ⟨congrArg Ending.returned (by kernel_rfl), ⟨rfl, rfl, rfl, Nat.le_refl _, fun _ _ => rfl⟩⟩
set_option maxRecDepth 100000 in
theorem tok141 (w : World) (h0 : w.cell? ⟨0, 141, none⟩ = some (.int .u16 314)) (h1 : w.cell? ⟨0, 142, none⟩ = some (.int .u16 316)) :
    Calls Tryd.prog 6 #[.int .u32 141] w fun e w' => e = .returned (.string ⟨#[43, 40]⟩) ∧ Below w.heap.size w w' := by
  have x0 : IntKind.i64.wrap 142 = 142 := by decide
  go_enter Tryd.func6, Tryd.ntmps6
  go_wp2
  go_quiet (fail)
  go_wp2
  go_ret
  exact ⟨congrArg Ending.returned (by kernel_rfl), ⟨rfl, rfl, rfl, Nat.le_refl _, fun _ _ => rfl⟩⟩
set_option maxRecDepth 100000 in
theorem tok142 (w : World) (h0 : w.cell? ⟨0, 142, none⟩ = some (.int .u16 316)) (h1 : w.cell? ⟨0, 143, none⟩ = some (.int .u16 318)) :
    Calls Tryd.prog 6 #[.int .u32 142] w fun e w' => e = .returned (.string ⟨#[64, 40]⟩) ∧ Below w.heap.size w w' := by
  have x0 : IntKind.i64.wrap 143 = 143 := by decide
  go_enter Tryd.func6, Tryd.ntmps6
  go_wp2
  go_quiet (fail)
  go_wp2
  go_ret
  exact ⟨congrArg Ending.returned (by kernel_rfl), ⟨rfl, rfl, rfl, Nat.le_refl _, fun _ _ => rfl⟩⟩
set_option maxRecDepth 100000 in
theorem tok143 (w : World) (h0 : w.cell? ⟨0, 143, none⟩ = some (.int .u16 318)) (h1 : w.cell? ⟨0, 144, none⟩ = some (.int .u16 320)) :
    Calls Tryd.prog 6 #[.int .u32 143] w fun e w' => e = .returned (.string ⟨#[33, 40]⟩) ∧ Below w.heap.size w w' := by
  have x0 : IntKind.i64.wrap 144 = 144 := by decide
  go_enter Tryd.func6, Tryd.ntmps6
  go_wp2
  go_quiet (fail)
  go_wp2
  go_ret
  exact ⟨congrArg Ending.returned (by kernel_rfl), ⟨rfl, rfl, rfl, Nat.le_refl _, fun _ _ => rfl⟩⟩
set_option maxRecDepth 100000 in
theorem law (a : Int) (w : World) (ha : 0 ≤ a ∧ a ≤ 4294967295) (h0 : w.cell? ⟨0, 139, none⟩ = some (.int .u16 310)) (h1 : w.cell? ⟨0, 140, none⟩ = some (.int .u16 312)) (h2 : w.cell? ⟨0, 141, none⟩ = some (.int .u16 314)) (h3 : w.cell? ⟨0, 142, none⟩ = some (.int .u16 316)) (h4 : w.cell? ⟨0, 143, none⟩ = some (.int .u16 318)) (h5 : w.cell? ⟨0, 144, none⟩ = some (.int .u16 320)) :
    Calls Tryd.prog 3 #[.int .u32 a] w fun e w' => e = .returned (.bool true) ∧ Below w.heap.size w w' := by
  by_cases g1 : a < 139
  · go_enter Tryd.func3, Tryd.ntmps3
    go_wp2
    go_ret
    exact ⟨rfl, Below.refl _ _⟩
  by_cases g2 : 143 < a
  · go_enter Tryd.func3, Tryd.ntmps3
    go_wp2
    go_ret
    exact ⟨rfl, Below.refl _ _⟩
  have hc : a = 139 ∨ a = 140 ∨ a = 141 ∨ a = 142 ∨ a = 143 := by omega
  rcases hc with rfl | rfl | rfl | rfl | rfl
  · go_enter Tryd.func3, Tryd.ntmps3
    go_wp2_with (first | (go_at_call 6; refine (tok139 _ h0 h1).mono ?_; rintro e w1 ⟨rfl, hb⟩) | go_in)
    go_ret
    exact ⟨rfl, hb⟩
  · go_enter Tryd.func3, Tryd.ntmps3
    go_wp2_with (first | (go_at_call 6; refine (tok140 _ h1 h2).mono ?_; rintro e w1 ⟨rfl, hb⟩) | go_in)
    go_ret
    exact ⟨rfl, hb⟩
  · go_enter Tryd.func3, Tryd.ntmps3
    go_wp2_with (first | (go_at_call 6; refine (tok141 _ h2 h3).mono ?_; rintro e w1 ⟨rfl, hb⟩) | go_in)
    go_ret
    exact ⟨rfl, hb⟩
  · go_enter Tryd.func3, Tryd.ntmps3
    go_wp2_with (first | (go_at_call 6; refine (tok142 _ h3 h4).mono ?_; rintro e w1 ⟨rfl, hb⟩) | go_in)
    go_ret
    exact ⟨rfl, hb⟩
  · go_enter Tryd.func3, Tryd.ntmps3
    go_wp2_with (first | (go_at_call 6; refine (tok143 _ h4 h5).mono ?_; rintro e w1 ⟨rfl, hb⟩) | go_in)
    go_ret
    exact ⟨rfl, hb⟩
end Go.Proofs.YtkegnedapnabiabDoor.glob
