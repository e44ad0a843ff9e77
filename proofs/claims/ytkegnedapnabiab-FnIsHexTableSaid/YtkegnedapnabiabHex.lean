/-
  isHex is the test on the three ranges, and the loop over the table of 22 digits computes the same: for every int32.
-/
import Derived.Test.YtkegnedapnabiabBase
import Derived.PlainAid
namespace Go.Proofs.Ytkegnedapnabiab
open Go.RowKit Go.PlainAid

def hexB (a : Int) : Bool := decide ((48 ≤ a ∧ a ≤ 57) ∨ (97 ≤ a ∧ a ≤ 102) ∨ (65 ≤ a ∧ a ≤ 70))
abbrev hexS : ByteArray := ⟨#[48, 49, 50, 51, 52, 53, 54, 55, 56, 57, 97, 98, 99, 100, 101, 102, 65, 66, 67, 68, 69, 70]⟩
def hexTo (r : Int) (k : Nat) : Bool := ((List.range k).map (bt hexS)).any fun c => decide (r = c)
theorem hexTo_succ (r : Int) (k : Nat) : hexTo r (k + 1) = (hexTo r k || decide (r = bt hexS k)) := by
  simp [hexTo, List.range_succ]
theorem hexL : (List.range 22).map (bt hexS) = [48, 49, 50, 51, 52, 53, 54, 55, 56, 57, 97, 98, 99, 100, 101, 102, 65, 66, 67, 68, 69, 70] := by decide
theorem hexTo_all (r : Int) : hexTo r 22 = hexB r := by
  unfold hexTo
  rw [hexL, Bool.eq_iff_iff]
  simp [hexB]
  omega

theorem isHex19 (a : Int) (w : World) : Calls Try.prog 19 #[.int .i32 a] w fun e w' => e = .returned (.bool (hexB a)) ∧ w = w' := by
  go_enter Try.func19, Try.ntmps19
  go_wp2
  all_goals
    go_ret
    refine ⟨ret_bool ?_, rfl⟩
    rw [Bool.eq_iff_iff]
    simp [hexB] at *
    try omega

theorem isHex11 (a : Int) (w : World) : Calls Try.prog 11 #[.int .i32 a] w fun e w' => e = .returned (.bool (hexB a)) ∧ w = w' := by
  go_enter Try.func11, Try.ntmps11
  go_wp2_with (go_at_call 19; refine (isHex19 _ _).mono ?_; rintro e w' ⟨rfl, rfl⟩)
  go_ret
  exact ⟨rfl, rfl⟩

theorem law5 (r : Int) (w : World) : Calls Try.prog 5 #[.int .i32 r] w fun e w' => e = .returned (.bool true) ∧ Below w.heap.size w w' := by
  go_enter Try.func5, Try.ntmps5
  go_wp2
  go_loop [3, 4] (fun t i => ∃ k : Nat, k ≤ 22 ∧ i = .int .i64 k ∧ t = .bool (hexTo r k)) (fun _ i => 22 - (intOf i).toNat)
  case atStart => exact ⟨0, by omega, rfl, rfl⟩
  case round =>
    obtain ⟨k, hk, rfl, rfl⟩ := hrel
    by_cases hlt : k < 22
    · have HS := Lib.hid (hexTo_succ r k)
      have hb1 := bt_nonneg hexS k
      have hb2 := bt_le hexS k
      have hbk := get_bt hexS k hlt
      by_cases hr : r = bt hexS k
      · have t1 : (r == bt hexS k) = true := by simp [hr]
        have HR := Lib.hid hr
        clear hr
        go_wp2
        go_round
        case rel => exact ⟨k + 1, by omega, by go_num, by rw [HS.out, ← HR.out]; simp⟩
        case measure => simp [intOf]; omega
      · have t1 : (r == bt hexS k) = false := by simp [hr]
        have HR := Lib.hid hr
        clear hr
        go_wp2
        go_round
        case rel => exact ⟨k + 1, by omega, by go_num, by rw [HS.out]; simp [HR.out]⟩
        case measure => simp [intOf]; omega
    · have : k = 22 := by omega
      subst this
      have HA := Lib.hid (hexTo_all r)
      go_wp2_with (go_at_call 11; refine (isHex11 _ _).mono ?_; rintro e w' ⟨rfl, rfl⟩)
      go_ret
      exact ⟨by rw [HA.out]; simp, Below.refl _ _⟩
end Go.Proofs.Ytkegnedapnabiab
