/-
  LangVariant.String gives a name exactly at zero and at the powers of two up to 32, and the known text otherwise: for every int.
-/
import Derived.Test.YtkegnedapnabiabBase
namespace Go.Proofs.Ytkegnedapnabiab
open Go.RowKit

theorem pw_all : ∀ n : Fin 33, 1 ≤ n.1 → (bits .and .i64 ((n.1 : Nat) : Int) (((n.1 : Nat) : Int) - 1) == 0) = decide (n.1 = 1 ∨ n.1 = 2 ∨ n.1 = 4 ∨ n.1 = 8 ∨ n.1 = 16 ∨ n.1 = 32) := by decide
theorem pw (l : Int) (h1 : 1 ≤ l) (h2 : l ≤ 32) : (bits .and .i64 l (l - 1) == 0) = decide (l = 1 ∨ l = 2 ∨ l = 4 ∨ l = 8 ∨ l = 16 ∨ l = 32) := by
  obtain ⟨n, rfl⟩ := Int.eq_ofNat_of_zero_le (show 0 ≤ l by omega)
  have h := pw_all ⟨n, by omega⟩ (by show 1 ≤ n; omega)
  simp only at h
  rw [h, Bool.eq_iff_iff]
  simp
  omega

theorem law4 (l : Int) (w : World) (hb : -9223372036854775808 ≤ l ∧ l ≤ 9223372036854775807) : Calls Try.prog 4 #[.int .i64 l] w fun e w' => e = .returned (.bool true) ∧ Below w.heap.size w w' := by
  by_cases hk : l = 0 ∨ l = 1 ∨ l = 2 ∨ l = 4 ∨ l = 8 ∨ l = 16 ∨ l = 32
  · rcases hk with rfl | rfl | rfl | rfl | rfl | rfl | rfl
    all_goals
      go_enter Try.func4, Try.ntmps4
      go_wp2
      go_ret
      exact ⟨rfl, Below.refl _ _⟩
  · have e0 : (l == 0) = false := by simp; omega
    have e1 : (l == 1) = false := by simp; omega
    have e2 : (l == 2) = false := by simp; omega
    have e3 : (l == 4) = false := by simp; omega
    have e4 : (l == 8) = false := by simp; omega
    have e5 : (l == 16) = false := by simp; omega
    have e6 : (l == 32) = false := by simp; omega
    by_cases hn : 0 < l
    · by_cases hm : l ≤ 32
      · have hp : (bits .and .i64 l (l - 1) == 0) = false := by rw [pw l (by omega) hm]; simp; omega
        clear hk
        go_enter Try.func4, Try.ntmps4
        go_wp2
        go_ret
        exact ⟨rfl, Below.refl _ _⟩
      · clear hk
        cases hp : (bits .and .i64 l (l - 1) == 0)
        all_goals
          go_enter Try.func4, Try.ntmps4
          go_wp2
          go_ret
          exact ⟨rfl, Below.refl _ _⟩
    · clear hk
      go_enter Try.func4, Try.ntmps4
      go_wp2
      go_ret
      exact ⟨rfl, Below.refl _ _⟩
end Go.Proofs.Ytkegnedapnabiab
