/-
  What singleRuneParam, positionalRuneParam, paramNameRune, paramNameStartRune, asciiLetter and asciiDigit compute, in the byte and the rune instance: each is a test on the number alone, for every value.
-/
import Derived.Test.YtccibpckfnhenaaRows
import Derived.WalkKit
import Derived.Handy
import Derived.ProofKit
namespace Go.Proofs.Ytccibpckfnhenaa
open Go.RowKit

theorem ret_bool {a b : Bool} (h : a = b) : Ending.returned (.bool a) = .returned (.bool b) := by rw [h]
def digB (a : Int) : Bool := decide (48 ≤ a ∧ a ≤ 57)
def letB (a : Int) : Bool := decide ((97 ≤ a ∧ a ≤ 122) ∨ (65 ≤ a ∧ a ≤ 90))
def sglB (a : Int) : Bool := decide (a = 64 ∨ a = 42 ∨ a = 35 ∨ a = 36 ∨ a = 63 ∨ a = 33 ∨ a = 45 ∨ (48 ≤ a ∧ a ≤ 57))
def namB (a : Int) : Bool := decide ((97 ≤ a ∧ a ≤ 122) ∨ (65 ≤ a ∧ a ≤ 90) ∨ (48 ≤ a ∧ a ≤ 57) ∨ a = 95)

theorem posB (a : Int) (w : World) : Calls Try.prog 20 #[.int .u8 a] w fun e w' => e = .returned (.bool (digB a)) ∧ w = w' := by
  go_enter Try.func20, Try.ntmps20
  go_wp2
  all_goals
    go_ret
    refine ⟨ret_bool ?_, rfl⟩
    rw [Bool.eq_iff_iff]
    simp [digB] at *
    try omega

theorem posR (a : Int) (w : World) : Calls Try.prog 21 #[.int .i32 a] w fun e w' => e = .returned (.bool (digB a)) ∧ w = w' := by
  go_enter Try.func21, Try.ntmps21
  go_wp2
  all_goals
    go_ret
    refine ⟨ret_bool ?_, rfl⟩
    rw [Bool.eq_iff_iff]
    simp [digB] at *
    try omega

theorem letR (a : Int) (w : World) : Calls Try.prog 12 #[.int .i32 a] w fun e w' => e = .returned (.bool (letB a)) ∧ w = w' := by
  go_enter Try.func12, Try.ntmps12
  go_wp2
  all_goals
    go_ret
    refine ⟨ret_bool ?_, rfl⟩
    rw [Bool.eq_iff_iff]
    simp [letB] at *
    try omega

theorem digR (a : Int) (w : World) : Calls Try.prog 13 #[.int .i32 a] w fun e w' => e = .returned (.bool (digB a)) ∧ w = w' := by
  go_enter Try.func13, Try.ntmps13
  go_wp2
  all_goals
    go_ret
    refine ⟨ret_bool ?_, rfl⟩
    rw [Bool.eq_iff_iff]
    simp [digB] at *
    try omega

theorem letU (a : Int) (w : World) : Calls Try.prog 22 #[.int .u8 a] w fun e w' => e = .returned (.bool (letB a)) ∧ w = w' := by
  go_enter Try.func22, Try.ntmps22
  go_wp2
  all_goals
    go_ret
    refine ⟨ret_bool ?_, rfl⟩
    rw [Bool.eq_iff_iff]
    simp [letB] at *
    try omega

theorem digU (a : Int) (w : World) : Calls Try.prog 23 #[.int .u8 a] w fun e w' => e = .returned (.bool (digB a)) ∧ w = w' := by
  go_enter Try.func23, Try.ntmps23
  go_wp2
  all_goals
    go_ret
    refine ⟨ret_bool ?_, rfl⟩
    rw [Bool.eq_iff_iff]
    simp [digB] at *
    try omega

theorem sglU (a : Int) (w : World) : Calls Try.prog 17 #[.int .u8 a] w fun e w' => e = .returned (.bool (sglB a)) ∧ w = w' := by
  go_enter Try.func17, Try.ntmps17
  go_wp2_with (first | (go_at_call 20; refine (posB _ _).mono ?_; rintro e w' ⟨rfl, rfl⟩))
  all_goals
    go_ret
    refine ⟨ret_bool ?_, rfl⟩
    rw [Bool.eq_iff_iff]
    simp [sglB, digB] at *
    try omega

theorem sglR (a : Int) (w : World) : Calls Try.prog 18 #[.int .i32 a] w fun e w' => e = .returned (.bool (sglB a)) ∧ w = w' := by
  go_enter Try.func18, Try.ntmps18
  go_wp2_with (first | (go_at_call 21; refine (posR _ _).mono ?_; rintro e w' ⟨rfl, rfl⟩))
  all_goals
    go_ret
    refine ⟨ret_bool ?_, rfl⟩
    rw [Bool.eq_iff_iff]
    simp [sglB, digB] at *
    try omega

theorem namR (a : Int) (w : World) : Calls Try.prog 14 #[.int .i32 a] w fun e w' => e = .returned (.bool (namB a)) ∧ w = w' := by
  go_enter Try.func14, Try.ntmps14
  go_wp2_with (first | (go_at_call 12; refine (letR _ _).mono ?_; rintro e w' ⟨rfl, rfl⟩) | (go_at_call 13; refine (digR _ _).mono ?_; rintro e w' ⟨rfl, rfl⟩))
  all_goals
    go_ret
    refine ⟨ret_bool ?_, rfl⟩
    rw [Bool.eq_iff_iff]
    simp [namB, letB, digB] at *
    try omega

theorem namU (a : Int) (w : World) : Calls Try.prog 19 #[.int .u8 a] w fun e w' => e = .returned (.bool (namB a)) ∧ w = w' := by
  go_enter Try.func19, Try.ntmps19
  go_wp2_with (first | (go_at_call 22; refine (letU _ _).mono ?_; rintro e w' ⟨rfl, rfl⟩) | (go_at_call 23; refine (digU _ _).mono ?_; rintro e w' ⟨rfl, rfl⟩))
  all_goals
    go_ret
    refine ⟨ret_bool ?_, rfl⟩
    rw [Bool.eq_iff_iff]
    simp [namB, letB, digB] at *
    try omega

def staB (a : Int) : Bool := sglB a || namB a
theorem staU (a : Int) (w : World) : Calls Try.prog 15 #[.int .u8 a] w fun e w' => e = .returned (.bool (staB a)) ∧ w = w' := by
  go_enter Try.func15, Try.ntmps15
  go_wp2_with (first | (go_at_call 17; refine (sglU _ _).mono ?_; rintro e w' ⟨rfl, rfl⟩) | (go_at_call 19; refine (namU _ _).mono ?_; rintro e w' ⟨rfl, rfl⟩))
  all_goals
    go_ret
    refine ⟨ret_bool ?_, rfl⟩
    simp [staB, *]

theorem staR (a : Int) (w : World) : Calls Try.prog 16 #[.int .i32 a] w fun e w' => e = .returned (.bool (staB a)) ∧ w = w' := by
  go_enter Try.func16, Try.ntmps16
  go_wp2_with (first | (go_at_call 18; refine (sglR _ _).mono ?_; rintro e w' ⟨rfl, rfl⟩) | (go_at_call 14; refine (namR _ _).mono ?_; rintro e w' ⟨rfl, rfl⟩))
  all_goals
    go_ret
    refine ⟨ret_bool ?_, rfl⟩
    simp [staB, *]

theorem zNamR (a : Int) (w : World) : Calls Try.prog 7 #[.int .i32 a] w fun e w' => e = .returned (.bool (namB a)) ∧ w = w' := by
  go_enter Try.func7, Try.ntmps7
  go_wp2_with (go_at_call 14; refine (namR _ _).mono ?_; rintro e w' ⟨rfl, rfl⟩)
  go_ret
  exact ⟨rfl, rfl⟩

theorem zStaU (a : Int) (w : World) : Calls Try.prog 8 #[.int .u8 a] w fun e w' => e = .returned (.bool (staB a)) ∧ w = w' := by
  go_enter Try.func8, Try.ntmps8
  go_wp2_with (go_at_call 15; refine (staU _ _).mono ?_; rintro e w' ⟨rfl, rfl⟩)
  go_ret
  exact ⟨rfl, rfl⟩

theorem zStaR (a : Int) (w : World) : Calls Try.prog 9 #[.int .i32 a] w fun e w' => e = .returned (.bool (staB a)) ∧ w = w' := by
  go_enter Try.func9, Try.ntmps9
  go_wp2_with (go_at_call 16; refine (staR _ _).mono ?_; rintro e w' ⟨rfl, rfl⟩)
  go_ret
  exact ⟨rfl, rfl⟩

theorem zSglU (a : Int) (w : World) : Calls Try.prog 10 #[.int .u8 a] w fun e w' => e = .returned (.bool (sglB a)) ∧ w = w' := by
  go_enter Try.func10, Try.ntmps10
  go_wp2_with (go_at_call 17; refine (sglU _ _).mono ?_; rintro e w' ⟨rfl, rfl⟩)
  go_ret
  exact ⟨rfl, rfl⟩

theorem zSglR (a : Int) (w : World) : Calls Try.prog 11 #[.int .i32 a] w fun e w' => e = .returned (.bool (sglB a)) ∧ w = w' := by
  go_enter Try.func11, Try.ntmps11
  go_wp2_with (go_at_call 18; refine (sglR _ _).mono ?_; rintro e w' ⟨rfl, rfl⟩)
  go_ret
  exact ⟨rfl, rfl⟩

end Go.Proofs.Ytccibpckfnhenaa
