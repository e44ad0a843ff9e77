/-
  positionalRuneParam is the test on the closed range of the ASCII digits, in both instances: for every rune and every byte.
-/
import Derived.Test.YtccnpgmceoojmacBase
namespace Go.Proofs.Ytccnpgmceoojmac
open Go.RowKit

def digB (a : Int) : Bool := decide (48 ≤ a ∧ a ≤ 57)
theorem posR (a : Int) (w : World) : Calls Try.prog 39 #[.int .i32 a] w fun e w' => e = .returned (.bool (digB a)) ∧ w = w' := by
  go_enter Try.func39, Try.ntmps39
  go_wp2
  all_goals
    go_ret
    refine ⟨ret_bool ?_, rfl⟩
    rw [Bool.eq_iff_iff]
    simp [digB] at *
    try omega
theorem posB (a : Int) (w : World) : Calls Try.prog 40 #[.int .u8 a] w fun e w' => e = .returned (.bool (digB a)) ∧ w = w' := by
  go_enter Try.func40, Try.ntmps40
  go_wp2
  all_goals
    go_ret
    refine ⟨ret_bool ?_, rfl⟩
    rw [Bool.eq_iff_iff]
    simp [digB] at *
    try omega
theorem law3 (r b : Int) (w : World) : Calls Try.prog 3 #[.int .i32 r, .int .u8 b] w fun e w' => e = .returned (.bool true) ∧ Below w.heap.size w w' := by
  by_cases h1 : 48 ≤ r
  all_goals
    by_cases h2 : r ≤ 57
    all_goals
      by_cases h3 : 48 ≤ b
      all_goals
        by_cases h4 : b ≤ 57
        all_goals
          first
            | (exfalso; omega)
            | (have d1 : digB r = decide (48 ≤ r ∧ r ≤ 57) := rfl
               have d2 : digB b = decide (48 ≤ b ∧ b ≤ 57) := rfl
               simp only [h1, h2, h3, h4, and_true, and_false, false_and, true_and, decide_true, decide_false] at d1 d2
               go_enter Try.func3, Try.ntmps3
               go_wp2_with (first | (go_at_call 39; refine (posR _ _).mono ?_; rintro e w' ⟨rfl, rfl⟩) | (go_at_call 40; refine (posB _ _).mono ?_; rintro e w' ⟨rfl, rfl⟩) | go_in)
               go_ret
               exact ⟨rfl, Below.refl _ _⟩)
end Go.Proofs.Ytccnpgmceoojmac
