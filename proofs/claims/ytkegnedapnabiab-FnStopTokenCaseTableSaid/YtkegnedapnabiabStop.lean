/-
  What stopToken answers on a parser built of a token and two counters, and what the case table stopModelB3 answers: for every value.
-/
import Derived.Test.YtkegnedapnabiabBase
namespace Go.Proofs.Ytkegnedapnabiab
open Go.RowKit

def stopB (t : Int) (q : Bool) : Bool := decide (t = 1 ∨ t = 2 ∨ (10 ≤ t ∧ t ≤ 16) ∨ t = 32 ∨ (34 ≤ t ∧ t ≤ 38)) || (decide (t = 9) && q)

theorem model (t : Int) (q : Bool) (w : World) : Calls Try.prog 9 #[.int .u32 t, .bool q] w fun e w' => e = .returned (.bool (stopB t q)) ∧ w = w' := by
  cases q
  all_goals
    go_enter Try.func9, Try.ntmps9
    go_wp2
    all_goals
      go_ret
      refine ⟨ret_bool ?_, rfl⟩
      rw [Bool.eq_iff_iff]
      simp [stopB] at *
      try omega

theorem bq22 (b : Nat) (o s : Int) (w : World) (h1 : w.cell? ⟨b, 30, none⟩ = some (.int .i64 o)) (h2 : w.cell? ⟨b, 32, none⟩ = some (.int .i64 s)) :
    Calls Try.prog 22 #[.pointer (some ⟨b, 0, none⟩)] w fun e w' => e = .returned (.bool (decide (s < o))) ∧ Below w.heap.size w w' := by
  go_enter Try.func22, Try.ntmps22
  go_wp2
  go_quiet (fail)
  go_wp2
  go_ret
  exact ⟨rfl, below_drewN (Below.refl _ _) _⟩

theorem stop18 (b : Nat) (t o s : Int) (w : World) (h0 : w.cell? ⟨b, 10, none⟩ = some (.int .u32 t)) (h1 : w.cell? ⟨b, 30, none⟩ = some (.int .i64 o)) (h2 : w.cell? ⟨b, 32, none⟩ = some (.int .i64 s)) :
    Calls Try.prog 18 #[.pointer (some ⟨b, 0, none⟩)] w fun e w' => e = .returned (.bool (stopB t (decide (s < o)))) ∧ Below w.heap.size w w' := by
  go_enter Try.func18, Try.ntmps18
  go_wp2_with (go_at_call 22; refine (bq22 b o s _ h1 h2).mono ?_; rintro e w' ⟨rfl, hb⟩)
  all_goals
    go_ret
    refine ⟨ret_bool ?_, by first | exact Below.refl _ _ | assumption⟩
    rw [Bool.eq_iff_iff]
    simp [stopB] at *
    try omega

theorem zStop (t o s : Int) (w : World) : Calls Try.prog 8 #[.int .u32 t, .int .i64 o, .int .i64 s] w fun e w' => e = .returned (.bool (stopB t (decide (s < o)))) ∧ Below w.heap.size w w' := by
  go_enter Try.func8, Try.ntmps8
  go_wp2_with (first | (refine wpList_value (o := ⟨some 11, _, _, _, _, _⟩) rfl (.agg (bigS Try.prog 54 [(10, .int .u32 t), (29, .int .i64 o), (31, .int .i64 s)])) w (by kernel_rfl) ?_) | (refine wpList_value (o := ⟨some 12, _, _, _, _, _⟩) rfl (.pointer (some ⟨w.heap.size, 0, none⟩)) (w.alloc (.cells (bigS Try.prog 54 [(10, .int .u32 t), (29, .int .i64 o), (31, .int .i64 s)]) 54)) (by kernel_rfl) ?_))
  refine (stop18 w.heap.size t o s _ (by rw [cell_new]; kernel_rfl) (by rw [cell_new]; kernel_rfl) (by rw [cell_new]; kernel_rfl)).mono ?_
  rintro e w' ⟨rfl, hb⟩
  go_wp2
  go_ret
  exact ⟨rfl, ((Below.refl _ _).alloc (Nat.le_refl _) _).trans (hb.mono (by simp))⟩

theorem law3 (t o s : Int) (w : World) (hb : -9223372036854775808 ≤ o ∧ o ≤ 9223372036854775807) : Calls Try.prog 3 #[.int .u32 t, .int .i64 o, .int .i64 s] w fun e w' => e = .returned (.bool true) ∧ Below w.heap.size w w' := by
  by_cases h1 : 143 < t
  · go_enter Try.func3, Try.ntmps3
    go_wp2
    go_ret
    exact ⟨rfl, Below.refl _ _⟩
  by_cases h2 : o < 0
  · go_enter Try.func3, Try.ntmps3
    go_wp2
    go_ret
    exact ⟨rfl, Below.refl _ _⟩
  by_cases h3 : s < 0
  · go_enter Try.func3, Try.ntmps3
    go_wp2
    go_ret
    exact ⟨rfl, Below.refl _ _⟩
  by_cases h4 : 0 < o
  · go_enter Try.func3, Try.ntmps3
    go_wp2_with (first | (go_at_call 8; refine (zStop _ _ _ _).mono ?_; rintro e w' ⟨rfl, hw⟩) | (go_at_call 9; refine (model _ _ _).mono ?_; rintro e w' ⟨rfl, rfl⟩))
    go_ret
    refine ⟨ret_bool ?_, hw⟩
    have e1 : decide (s < o) = decide (s ≤ o - 1) := by simp; omega
    simp [e1]
  · have e2 : decide (s < o) = false := by simp; omega
    have E2 := Lib.hid e2
    clear e2
    go_enter Try.func3, Try.ntmps3
    go_wp2_with (first | (go_at_call 8; refine (zStop _ _ _ _).mono ?_; rintro e w' ⟨rfl, hw⟩) | (go_at_call 9; refine (model _ _ _).mono ?_; rintro e w' ⟨rfl, rfl⟩))
    go_ret
    refine ⟨ret_bool ?_, hw⟩
    rw [E2.out]
    simp
end Go.Proofs.Ytkegnedapnabiab
