/-
  The names of the operators: token.String at 63 to 77, off the table of indices.
-/
import Derived.Test.YtkegnedapnabiacDoorRows
import Derived.WalkKit
import Derived.Below
import Derived.Deep.QuietTactic
import Derived.BigQuiet
namespace Go.Proofs.YtkegnedapnabiacDoor.redir
open Go.RowKit

set_option maxRecDepth 100000 in
theorem tok63 (w : World) (h0 : w.cell? ⟨0, 63, none⟩ = some (.int .u16 156)) (h1 : w.cell? ⟨0, 64, none⟩ = some (.int .u16 157)) :
    Calls Tryd.prog 6 #[.int .u32 63] w fun e w' => e = .returned (.string ⟨#[62]⟩) ∧ Below w.heap.size w w' := by
  have x0 : IntKind.i64.wrap 64 = 64 := by decide
  go_enter Tryd.func6, Tryd.ntmps6
  go_wp2
  go_quiet (fail)
  go_wp2
  go_ret
  exact ⟨congrArg Ending.returned (by kernel_rfl), ⟨rfl, rfl, rfl, Nat.le_refl _, fun _ _ => rfl⟩⟩
set_option maxRecDepth 100000 in
theorem tok64 (w : World) (h0 : w.cell? ⟨0, 64, none⟩ = some (.int .u16 157)) (h1 : w.cell? ⟨0, 65, none⟩ = some (.int .u16 159)) :
    Calls Tryd.prog 6 #[.int .u32 64] w fun e w' => e = .returned (.string ⟨#[62, 62]⟩) ∧ Below w.heap.size w w' := by
  have x0 : IntKind.i64.wrap 65 = 65 := by decide
  go_enter Tryd.func6, Tryd.ntmps6
  go_wp2
  go_quiet (fail)
  go_wp2
  go_ret
  exact ⟨congrArg Ending.returned (by kernel_rfl), ⟨rfl, rfl, rfl, Nat.le_refl _, fun _ _ => rfl⟩⟩
set_option maxRecDepth 100000 in
theorem tok65 (w : World) (h0 : w.cell? ⟨0, 65, none⟩ = some (.int .u16 159)) (h1 : w.cell? ⟨0, 66, none⟩ = some (.int .u16 160)) :
    Calls Tryd.prog 6 #[.int .u32 65] w fun e w' => e = .returned (.string ⟨#[60]⟩) ∧ Below w.heap.size w w' := by
  have x0 : IntKind.i64.wrap 66 = 66 := by decide
  go_enter Tryd.func6, Tryd.ntmps6
  go_wp2
  go_quiet (fail)
  go_wp2
  go_ret
  exact ⟨congrArg Ending.returned (by kernel_rfl), ⟨rfl, rfl, rfl, Nat.le_refl _, fun _ _ => rfl⟩⟩
set_option maxRecDepth 100000 in
theorem tok66 (w : World) (h0 : w.cell? ⟨0, 66, none⟩ = some (.int .u16 160)) (h1 : w.cell? ⟨0, 67, none⟩ = some (.int .u16 162)) :
    Calls Tryd.prog 6 #[.int .u32 66] w fun e w' => e = .returned (.string ⟨#[60, 62]⟩) ∧ Below w.heap.size w w' := by
  have x0 : IntKind.i64.wrap 67 = 67 := by decide
  go_enter Tryd.func6, Tryd.ntmps6
  go_wp2
  go_quiet (fail)
  go_wp2
  go_ret
  exact ⟨congrArg Ending.returned (by kernel_rfl), ⟨rfl, rfl, rfl, Nat.le_refl _, fun _ _ => rfl⟩⟩
set_option maxRecDepth 100000 in
theorem tok67 (w : World) (h0 : w.cell? ⟨0, 67, none⟩ = some (.int .u16 162)) (h1 : w.cell? ⟨0, 68, none⟩ = some (.int .u16 164)) :
    Calls Tryd.prog 6 #[.int .u32 67] w fun e w' => e = .returned (.string ⟨#[60, 38]⟩) ∧ Below w.heap.size w w' := by
  have x0 : IntKind.i64.wrap 68 = 68 := by decide
  go_enter Tryd.func6, Tryd.ntmps6
  go_wp2
  go_quiet (fail)
  go_wp2
  go_ret
  exact ⟨congrArg Ending.returned (by kernel_rfl), ⟨rfl, rfl, rfl, Nat.le_refl _, fun _ _ => rfl⟩⟩
set_option maxRecDepth 100000 in
theorem tok68 (w : World) (h0 : w.cell? ⟨0, 68, none⟩ = some (.int .u16 164)) (h1 : w.cell? ⟨0, 69, none⟩ = some (.int .u16 166)) :
    Calls Tryd.prog 6 #[.int .u32 68] w fun e w' => e = .returned (.string ⟨#[62, 38]⟩) ∧ Below w.heap.size w w' := by
  have x0 : IntKind.i64.wrap 69 = 69 := by decide
  go_enter Tryd.func6, Tryd.ntmps6
  go_wp2
  go_quiet (fail)
  go_wp2
  go_ret
  exact ⟨congrArg Ending.returned (by kernel_rfl), ⟨rfl, rfl, rfl, Nat.le_refl _, fun _ _ => rfl⟩⟩
set_option maxRecDepth 100000 in
theorem tok69 (w : World) (h0 : w.cell? ⟨0, 69, none⟩ = some (.int .u16 166)) (h1 : w.cell? ⟨0, 70, none⟩ = some (.int .u16 168)) :
    Calls Tryd.prog 6 #[.int .u32 69] w fun e w' => e = .returned (.string ⟨#[62, 124]⟩) ∧ Below w.heap.size w w' := by
  have x0 : IntKind.i64.wrap 70 = 70 := by decide
  go_enter Tryd.func6, Tryd.ntmps6
  go_wp2
  go_quiet (fail)
  go_wp2
  go_ret
  exact ⟨congrArg Ending.returned (by kernel_rfl), ⟨rfl, rfl, rfl, Nat.le_refl _, fun _ _ => rfl⟩⟩
set_option maxRecDepth 100000 in
theorem tok70 (w : World) (h0 : w.cell? ⟨0, 70, none⟩ = some (.int .u16 168)) (h1 : w.cell? ⟨0, 71, none⟩ = some (.int .u16 171)) :
    Calls Tryd.prog 6 #[.int .u32 70] w fun e w' => e = .returned (.string ⟨#[62, 62, 124]⟩) ∧ Below w.heap.size w w' := by
  have x0 : IntKind.i64.wrap 71 = 71 := by decide
  go_enter Tryd.func6, Tryd.ntmps6
  go_wp2
  go_quiet (fail)
  go_wp2
  go_ret
  exact ⟨congrArg Ending.returned (by kernel_rfl), ⟨rfl, rfl, rfl, Nat.le_refl _, fun _ _ => rfl⟩⟩
set_option maxRecDepth 100000 in
theorem tok71 (w : World) (h0 : w.cell? ⟨0, 71, none⟩ = some (.int .u16 171)) (h1 : w.cell? ⟨0, 72, none⟩ = some (.int .u16 173)) :
    Calls Tryd.prog 6 #[.int .u32 71] w fun e w' => e = .returned (.string ⟨#[60, 60]⟩) ∧ Below w.heap.size w w' := by
  have x0 : IntKind.i64.wrap 72 = 72 := by decide
  go_enter Tryd.func6, Tryd.ntmps6
  go_wp2
  go_quiet (fail)
  go_wp2
  go_ret
  exact ⟨congrArg Ending.returned (by kernel_rfl), ⟨rfl, rfl, rfl, Nat.le_refl _, fun _ _ => rfl⟩⟩
set_option maxRecDepth 100000 in
theorem tok72 (w : World) (h0 : w.cell? ⟨0, 72, none⟩ = some (.int .u16 173)) (h1 : w.cell? ⟨0, 73, none⟩ = some (.int .u16 176)) :
    Calls Tryd.prog 6 #[.int .u32 72] w fun e w' => e = .returned (.string ⟨#[60, 60, 45]⟩) ∧ Below w.heap.size w w' := by
  have x0 : IntKind.i64.wrap 73 = 73 := by decide
  go_enter Tryd.func6, Tryd.ntmps6
  go_wp2
  go_quiet (fail)
  go_wp2
  go_ret
  exact ⟨congrArg Ending.returned (by kernel_rfl), ⟨rfl, rfl, rfl, Nat.le_refl _, fun _ _ => rfl⟩⟩
set_option maxRecDepth 100000 in
theorem tok73 (w : World) (h0 : w.cell? ⟨0, 73, none⟩ = some (.int .u16 176)) (h1 : w.cell? ⟨0, 74, none⟩ = some (.int .u16 179)) :
    Calls Tryd.prog 6 #[.int .u32 73] w fun e w' => e = .returned (.string ⟨#[60, 60, 60]⟩) ∧ Below w.heap.size w w' := by
  have x0 : IntKind.i64.wrap 74 = 74 := by decide
  go_enter Tryd.func6, Tryd.ntmps6
  go_wp2
  go_quiet (fail)
  go_wp2
  go_ret
  exact ⟨congrArg Ending.returned (by kernel_rfl), ⟨rfl, rfl, rfl, Nat.le_refl _, fun _ _ => rfl⟩⟩
set_option maxRecDepth 100000 in
theorem tok74 (w : World) (h0 : w.cell? ⟨0, 74, none⟩ = some (.int .u16 179)) (h1 : w.cell? ⟨0, 75, none⟩ = some (.int .u16 181)) :
    Calls Tryd.prog 6 #[.int .u32 74] w fun e w' => e = .returned (.string ⟨#[38, 62]⟩) ∧ Below w.heap.size w w' := by
  have x0 : IntKind.i64.wrap 75 = 75 := by decide
  go_enter Tryd.func6, Tryd.ntmps6
  go_wp2
  go_quiet (fail)
  go_wp2
  go_ret
  exact ⟨congrArg Ending.returned (by kernel_rfl), ⟨rfl, rfl, rfl, Nat.le_refl _, fun _ _ => rfl⟩⟩
set_option maxRecDepth 100000 in
theorem tok75 (w : World) (h0 : w.cell? ⟨0, 75, none⟩ = some (.int .u16 181)) (h1 : w.cell? ⟨0, 76, none⟩ = some (.int .u16 184)) :
    Calls Tryd.prog 6 #[.int .u32 75] w fun e w' => e = .returned (.string ⟨#[38, 62, 124]⟩) ∧ Below w.heap.size w w' := by
  have x0 : IntKind.i64.wrap 76 = 76 := by decide
  go_enter Tryd.func6, Tryd.ntmps6
  go_wp2
  go_quiet (fail)
  go_wp2
  go_ret
  exact ⟨congrArg Ending.returned (by kernel_rfl), ⟨rfl, rfl, rfl, Nat.le_refl _, fun _ _ => rfl⟩⟩
set_option maxRecDepth 100000 in
theorem tok76 (w : World) (h0 : w.cell? ⟨0, 76, none⟩ = some (.int .u16 184)) (h1 : w.cell? ⟨0, 77, none⟩ = some (.int .u16 187)) :
    Calls Tryd.prog 6 #[.int .u32 76] w fun e w' => e = .returned (.string ⟨#[38, 62, 62]⟩) ∧ Below w.heap.size w w' := by
  have x0 : IntKind.i64.wrap 77 = 77 := by decide
  go_enter Tryd.func6, Tryd.ntmps6
  go_wp2
  go_quiet (fail)
  go_wp2
  go_ret
  exact ⟨congrArg Ending.returned (by kernel_rfl), ⟨rfl, rfl, rfl, Nat.le_refl _, fun _ _ => rfl⟩⟩
set_option maxRecDepth 100000 in
theorem tok77 (w : World) (h0 : w.cell? ⟨0, 77, none⟩ = some (.int .u16 187)) (h1 : w.cell? ⟨0, 78, none⟩ = some (.int .u16 191)) :
    Calls Tryd.prog 6 #[.int .u32 77] w fun e w' => e = .returned (.string ⟨#[38, 62, 62, 124]⟩) ∧ Below w.heap.size w w' := by
  have x0 : IntKind.i64.wrap 78 = 78 := by decide
  go_enter Tryd.func6, Tryd.ntmps6
  go_wp2
  go_quiet (fail)
  go_wp2
  go_ret
  exact ⟨congrArg Ending.returned (by kernel_rfl), ⟨rfl, rfl, rfl, Nat.le_refl _, fun _ _ => rfl⟩⟩
set_option maxRecDepth 100000 in
theorem law (a : Int) (w : World) (ha : 0 ≤ a ∧ a ≤ 4294967295) (h0 : w.cell? ⟨0, 63, none⟩ = some (.int .u16 156)) (h1 : w.cell? ⟨0, 64, none⟩ = some (.int .u16 157)) (h2 : w.cell? ⟨0, 65, none⟩ = some (.int .u16 159)) (h3 : w.cell? ⟨0, 66, none⟩ = some (.int .u16 160)) (h4 : w.cell? ⟨0, 67, none⟩ = some (.int .u16 162)) (h5 : w.cell? ⟨0, 68, none⟩ = some (.int .u16 164)) (h6 : w.cell? ⟨0, 69, none⟩ = some (.int .u16 166)) (h7 : w.cell? ⟨0, 70, none⟩ = some (.int .u16 168)) (h8 : w.cell? ⟨0, 71, none⟩ = some (.int .u16 171)) (h9 : w.cell? ⟨0, 72, none⟩ = some (.int .u16 173)) (h10 : w.cell? ⟨0, 73, none⟩ = some (.int .u16 176)) (h11 : w.cell? ⟨0, 74, none⟩ = some (.int .u16 179)) (h12 : w.cell? ⟨0, 75, none⟩ = some (.int .u16 181)) (h13 : w.cell? ⟨0, 76, none⟩ = some (.int .u16 184)) (h14 : w.cell? ⟨0, 77, none⟩ = some (.int .u16 187)) (h15 : w.cell? ⟨0, 78, none⟩ = some (.int .u16 191)) :
    Calls Tryd.prog 3 #[.int .u32 a] w fun e w' => e = .returned (.bool true) ∧ Below w.heap.size w w' := by
  by_cases g1 : a < 63
  · go_enter Tryd.func3, Tryd.ntmps3
    go_wp2
    go_ret
    exact ⟨rfl, Below.refl _ _⟩
  by_cases g2 : 77 < a
  · go_enter Tryd.func3, Tryd.ntmps3
    go_wp2
    go_ret
    exact ⟨rfl, Below.refl _ _⟩
  have hc : a = 63 ∨ a = 64 ∨ a = 65 ∨ a = 66 ∨ a = 67 ∨ a = 68 ∨ a = 69 ∨ a = 70 ∨ a = 71 ∨ a = 72 ∨ a = 73 ∨ a = 74 ∨ a = 75 ∨ a = 76 ∨ a = 77 := by omega
  rcases hc with rfl | rfl | rfl | rfl | rfl | rfl | rfl | rfl | rfl | rfl | rfl | rfl | rfl | rfl | rfl
  · go_enter Tryd.func3, Tryd.ntmps3
    go_wp2_with (first | (go_at_call 6; refine (tok63 _ h0 h1).mono ?_; rintro e w1 ⟨rfl, hb⟩) | go_in)
    go_ret
    exact ⟨rfl, hb⟩
  · go_enter Tryd.func3, Tryd.ntmps3
    go_wp2_with (first | (go_at_call 6; refine (tok64 _ h1 h2).mono ?_; rintro e w1 ⟨rfl, hb⟩) | go_in)
    go_ret
    exact ⟨rfl, hb⟩
  · go_enter Tryd.func3, Tryd.ntmps3
    go_wp2_with (first | (go_at_call 6; refine (tok65 _ h2 h3).mono ?_; rintro e w1 ⟨rfl, hb⟩) | go_in)
    go_ret
    exact ⟨rfl, hb⟩
  · go_enter Tryd.func3, Tryd.ntmps3
    go_wp2_with (first | (go_at_call 6; refine (tok66 _ h3 h4).mono ?_; rintro e w1 ⟨rfl, hb⟩) | go_in)
    go_ret
    exact ⟨rfl, hb⟩
  · go_enter Tryd.func3, Tryd.ntmps3
    go_wp2_with (first | (go_at_call 6; refine (tok67 _ h4 h5).mono ?_; rintro e w1 ⟨rfl, hb⟩) | go_in)
    go_ret
    exact ⟨rfl, hb⟩
  · go_enter Tryd.func3, Tryd.ntmps3
    go_wp2_with (first | (go_at_call 6; refine (tok68 _ h5 h6).mono ?_; rintro e w1 ⟨rfl, hb⟩) | go_in)
    go_ret
    exact ⟨rfl, hb⟩
  · go_enter Tryd.func3, Tryd.ntmps3
    go_wp2_with (first | (go_at_call 6; refine (tok69 _ h6 h7).mono ?_; rintro e w1 ⟨rfl, hb⟩) | go_in)
    go_ret
    exact ⟨rfl, hb⟩
  · go_enter Tryd.func3, Tryd.ntmps3
    go_wp2_with (first | (go_at_call 6; refine (tok70 _ h7 h8).mono ?_; rintro e w1 ⟨rfl, hb⟩) | go_in)
    go_ret
    exact ⟨rfl, hb⟩
  · go_enter Tryd.func3, Tryd.ntmps3
    go_wp2_with (first | (go_at_call 6; refine (tok71 _ h8 h9).mono ?_; rintro e w1 ⟨rfl, hb⟩) | go_in)
    go_ret
    exact ⟨rfl, hb⟩
  · go_enter Tryd.func3, Tryd.ntmps3
    go_wp2_with (first | (go_at_call 6; refine (tok72 _ h9 h10).mono ?_; rintro e w1 ⟨rfl, hb⟩) | go_in)
    go_ret
    exact ⟨rfl, hb⟩
  · go_enter Tryd.func3, Tryd.ntmps3
    go_wp2_with (first | (go_at_call 6; refine (tok73 _ h10 h11).mono ?_; rintro e w1 ⟨rfl, hb⟩) | go_in)
    go_ret
    exact ⟨rfl, hb⟩
  · go_enter Tryd.func3, Tryd.ntmps3
    go_wp2_with (first | (go_at_call 6; refine (tok74 _ h11 h12).mono ?_; rintro e w1 ⟨rfl, hb⟩) | go_in)
    go_ret
    exact ⟨rfl, hb⟩
  · go_enter Tryd.func3, Tryd.ntmps3
    go_wp2_with (first | (go_at_call 6; refine (tok75 _ h12 h13).mono ?_; rintro e w1 ⟨rfl, hb⟩) | go_in)
    go_ret
    exact ⟨rfl, hb⟩
  · go_enter Tryd.func3, Tryd.ntmps3
    go_wp2_with (first | (go_at_call 6; refine (tok76 _ h13 h14).mono ?_; rintro e w1 ⟨rfl, hb⟩) | go_in)
    go_ret
    exact ⟨rfl, hb⟩
  · go_enter Tryd.func3, Tryd.ntmps3
    go_wp2_with (first | (go_at_call 6; refine (tok77 _ h14 h15).mono ?_; rintro e w1 ⟨rfl, hb⟩) | go_in)
    go_ret
    exact ⟨rfl, hb⟩
end Go.Proofs.YtkegnedapnabiacDoor.redir
