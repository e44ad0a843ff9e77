/-
  No word is both a unary and a binary test operator, and no binary test operator is a keyword: for every string.
-/
import Derived.Test.YtkegnedapnabiacOps
namespace Go.Proofs.Ytkegnedapnabiac
open Go.RowKit Go.PlainAid

theorem kw_c0 (w : World) : Calls Try.prog 21 #[.string ⟨#[61]⟩] w fun e w' => e = .returned (.bool false) ∧ w = w' := by
  go_enter Try.func21, Try.ntmps21
  go_wp2
  go_ret
  exact ⟨rfl, rfl⟩
theorem law5_c0 (w : World) : Calls Try.prog 5 #[.string ⟨#[61]⟩] w fun e w' => e = .returned (.bool true) ∧ Below w.heap.size w w' := by
  have hu : uOp (⟨#[61]⟩ : ByteArray).toList = 0 := by rw [Lib.toList_data]; decide +kernel
  have hv : bOp (⟨#[61]⟩ : ByteArray).toList = 87 := by rw [Lib.toList_data]; decide +kernel
  go_enter Try.func5, Try.ntmps5
  go_wp2_with (first | (go_at_call 24; refine (un_any _ _).mono ?_; rintro e w' ⟨rfl, rfl⟩) | (go_at_call 25; refine (bi_any _ _).mono ?_; rintro e w' ⟨rfl, rfl⟩) | (go_at_call 21; refine (kw_c0 _).mono ?_; rintro e w' ⟨rfl, rfl⟩) | go_in)
  go_ret
  exact ⟨rfl, Below.refl _ _⟩
theorem kw_c1 (w : World) : Calls Try.prog 21 #[.string ⟨#[61, 61]⟩] w fun e w' => e = .returned (.bool false) ∧ w = w' := by
  go_enter Try.func21, Try.ntmps21
  go_wp2
  go_ret
  exact ⟨rfl, rfl⟩
theorem law5_c1 (w : World) : Calls Try.prog 5 #[.string ⟨#[61, 61]⟩] w fun e w' => e = .returned (.bool true) ∧ Below w.heap.size w w' := by
  have hu : uOp (⟨#[61, 61]⟩ : ByteArray).toList = 0 := by rw [Lib.toList_data]; decide +kernel
  have hv : bOp (⟨#[61, 61]⟩ : ByteArray).toList = 45 := by rw [Lib.toList_data]; decide +kernel
  go_enter Try.func5, Try.ntmps5
  go_wp2_with (first | (go_at_call 24; refine (un_any _ _).mono ?_; rintro e w' ⟨rfl, rfl⟩) | (go_at_call 25; refine (bi_any _ _).mono ?_; rintro e w' ⟨rfl, rfl⟩) | (go_at_call 21; refine (kw_c1 _).mono ?_; rintro e w' ⟨rfl, rfl⟩) | go_in)
  go_ret
  exact ⟨rfl, Below.refl _ _⟩
theorem kw_c2 (w : World) : Calls Try.prog 21 #[.string ⟨#[33, 61]⟩] w fun e w' => e = .returned (.bool false) ∧ w = w' := by
  go_enter Try.func21, Try.ntmps21
  go_wp2
  go_ret
  exact ⟨rfl, rfl⟩
theorem law5_c2 (w : World) : Calls Try.prog 5 #[.string ⟨#[33, 61]⟩] w fun e w' => e = .returned (.bool true) ∧ Below w.heap.size w w' := by
  have hu : uOp (⟨#[33, 61]⟩ : ByteArray).toList = 0 := by rw [Lib.toList_data]; decide +kernel
  have hv : bOp (⟨#[33, 61]⟩ : ByteArray).toList = 46 := by rw [Lib.toList_data]; decide +kernel
  go_enter Try.func5, Try.ntmps5
  go_wp2_with (first | (go_at_call 24; refine (un_any _ _).mono ?_; rintro e w' ⟨rfl, rfl⟩) | (go_at_call 25; refine (bi_any _ _).mono ?_; rintro e w' ⟨rfl, rfl⟩) | (go_at_call 21; refine (kw_c2 _).mono ?_; rintro e w' ⟨rfl, rfl⟩) | go_in)
  go_ret
  exact ⟨rfl, Below.refl _ _⟩
theorem kw_c3 (w : World) : Calls Try.prog 21 #[.string ⟨#[61, 126]⟩] w fun e w' => e = .returned (.bool false) ∧ w = w' := by
  go_enter Try.func21, Try.ntmps21
  go_wp2
  go_ret
  exact ⟨rfl, rfl⟩
theorem law5_c3 (w : World) : Calls Try.prog 5 #[.string ⟨#[61, 126]⟩] w fun e w' => e = .returned (.bool true) ∧ Below w.heap.size w w' := by
  have hu : uOp (⟨#[61, 126]⟩ : ByteArray).toList = 0 := by rw [Lib.toList_data]; decide +kernel
  have hv : bOp (⟨#[61, 126]⟩ : ByteArray).toList = 129 := by rw [Lib.toList_data]; decide +kernel
  go_enter Try.func5, Try.ntmps5
  go_wp2_with (first | (go_at_call 24; refine (un_any _ _).mono ?_; rintro e w' ⟨rfl, rfl⟩) | (go_at_call 25; refine (bi_any _ _).mono ?_; rintro e w' ⟨rfl, rfl⟩) | (go_at_call 21; refine (kw_c3 _).mono ?_; rintro e w' ⟨rfl, rfl⟩) | go_in)
  go_ret
  exact ⟨rfl, Below.refl _ _⟩
theorem kw_c4 (w : World) : Calls Try.prog 21 #[.string ⟨#[45, 110, 116]⟩] w fun e w' => e = .returned (.bool false) ∧ w = w' := by
  go_enter Try.func21, Try.ntmps21
  go_wp2
  go_ret
  exact ⟨rfl, rfl⟩
theorem law5_c4 (w : World) : Calls Try.prog 5 #[.string ⟨#[45, 110, 116]⟩] w fun e w' => e = .returned (.bool true) ∧ Below w.heap.size w w' := by
  have hu : uOp (⟨#[45, 110, 116]⟩ : ByteArray).toList = 0 := by rw [Lib.toList_data]; decide +kernel
  have hv : bOp (⟨#[45, 110, 116]⟩ : ByteArray).toList = 130 := by rw [Lib.toList_data]; decide +kernel
  go_enter Try.func5, Try.ntmps5
  go_wp2_with (first | (go_at_call 24; refine (un_any _ _).mono ?_; rintro e w' ⟨rfl, rfl⟩) | (go_at_call 25; refine (bi_any _ _).mono ?_; rintro e w' ⟨rfl, rfl⟩) | (go_at_call 21; refine (kw_c4 _).mono ?_; rintro e w' ⟨rfl, rfl⟩) | go_in)
  go_ret
  exact ⟨rfl, Below.refl _ _⟩
theorem kw_c5 (w : World) : Calls Try.prog 21 #[.string ⟨#[45, 111, 116]⟩] w fun e w' => e = .returned (.bool false) ∧ w = w' := by
  go_enter Try.func21, Try.ntmps21
  go_wp2
  go_ret
  exact ⟨rfl, rfl⟩
theorem law5_c5 (w : World) : Calls Try.prog 5 #[.string ⟨#[45, 111, 116]⟩] w fun e w' => e = .returned (.bool true) ∧ Below w.heap.size w w' := by
  have hu : uOp (⟨#[45, 111, 116]⟩ : ByteArray).toList = 0 := by rw [Lib.toList_data]; decide +kernel
  have hv : bOp (⟨#[45, 111, 116]⟩ : ByteArray).toList = 131 := by rw [Lib.toList_data]; decide +kernel
  go_enter Try.func5, Try.ntmps5
  go_wp2_with (first | (go_at_call 24; refine (un_any _ _).mono ?_; rintro e w' ⟨rfl, rfl⟩) | (go_at_call 25; refine (bi_any _ _).mono ?_; rintro e w' ⟨rfl, rfl⟩) | (go_at_call 21; refine (kw_c5 _).mono ?_; rintro e w' ⟨rfl, rfl⟩) | go_in)
  go_ret
  exact ⟨rfl, Below.refl _ _⟩
theorem kw_c6 (w : World) : Calls Try.prog 21 #[.string ⟨#[45, 101, 102]⟩] w fun e w' => e = .returned (.bool false) ∧ w = w' := by
  go_enter Try.func21, Try.ntmps21
  go_wp2
  go_ret
  exact ⟨rfl, rfl⟩
theorem law5_c6 (w : World) : Calls Try.prog 5 #[.string ⟨#[45, 101, 102]⟩] w fun e w' => e = .returned (.bool true) ∧ Below w.heap.size w w' := by
  have hu : uOp (⟨#[45, 101, 102]⟩ : ByteArray).toList = 0 := by rw [Lib.toList_data]; decide +kernel
  have hv : bOp (⟨#[45, 101, 102]⟩ : ByteArray).toList = 132 := by rw [Lib.toList_data]; decide +kernel
  go_enter Try.func5, Try.ntmps5
  go_wp2_with (first | (go_at_call 24; refine (un_any _ _).mono ?_; rintro e w' ⟨rfl, rfl⟩) | (go_at_call 25; refine (bi_any _ _).mono ?_; rintro e w' ⟨rfl, rfl⟩) | (go_at_call 21; refine (kw_c6 _).mono ?_; rintro e w' ⟨rfl, rfl⟩) | go_in)
  go_ret
  exact ⟨rfl, Below.refl _ _⟩
theorem kw_c7 (w : World) : Calls Try.prog 21 #[.string ⟨#[45, 101, 113]⟩] w fun e w' => e = .returned (.bool false) ∧ w = w' := by
  go_enter Try.func21, Try.ntmps21
  go_wp2
  go_ret
  exact ⟨rfl, rfl⟩
theorem law5_c7 (w : World) : Calls Try.prog 5 #[.string ⟨#[45, 101, 113]⟩] w fun e w' => e = .returned (.bool true) ∧ Below w.heap.size w w' := by
  have hu : uOp (⟨#[45, 101, 113]⟩ : ByteArray).toList = 0 := by rw [Lib.toList_data]; decide +kernel
  have hv : bOp (⟨#[45, 101, 113]⟩ : ByteArray).toList = 133 := by rw [Lib.toList_data]; decide +kernel
  go_enter Try.func5, Try.ntmps5
  go_wp2_with (first | (go_at_call 24; refine (un_any _ _).mono ?_; rintro e w' ⟨rfl, rfl⟩) | (go_at_call 25; refine (bi_any _ _).mono ?_; rintro e w' ⟨rfl, rfl⟩) | (go_at_call 21; refine (kw_c7 _).mono ?_; rintro e w' ⟨rfl, rfl⟩) | go_in)
  go_ret
  exact ⟨rfl, Below.refl _ _⟩
theorem kw_c8 (w : World) : Calls Try.prog 21 #[.string ⟨#[45, 110, 101]⟩] w fun e w' => e = .returned (.bool false) ∧ w = w' := by
  go_enter Try.func21, Try.ntmps21
  go_wp2
  go_ret
  exact ⟨rfl, rfl⟩
theorem law5_c8 (w : World) : Calls Try.prog 5 #[.string ⟨#[45, 110, 101]⟩] w fun e w' => e = .returned (.bool true) ∧ Below w.heap.size w w' := by
  have hu : uOp (⟨#[45, 110, 101]⟩ : ByteArray).toList = 0 := by rw [Lib.toList_data]; decide +kernel
  have hv : bOp (⟨#[45, 110, 101]⟩ : ByteArray).toList = 134 := by rw [Lib.toList_data]; decide +kernel
  go_enter Try.func5, Try.ntmps5
  go_wp2_with (first | (go_at_call 24; refine (un_any _ _).mono ?_; rintro e w' ⟨rfl, rfl⟩) | (go_at_call 25; refine (bi_any _ _).mono ?_; rintro e w' ⟨rfl, rfl⟩) | (go_at_call 21; refine (kw_c8 _).mono ?_; rintro e w' ⟨rfl, rfl⟩) | go_in)
  go_ret
  exact ⟨rfl, Below.refl _ _⟩
theorem kw_c9 (w : World) : Calls Try.prog 21 #[.string ⟨#[45, 108, 101]⟩] w fun e w' => e = .returned (.bool false) ∧ w = w' := by
  go_enter Try.func21, Try.ntmps21
  go_wp2
  go_ret
  exact ⟨rfl, rfl⟩
theorem law5_c9 (w : World) : Calls Try.prog 5 #[.string ⟨#[45, 108, 101]⟩] w fun e w' => e = .returned (.bool true) ∧ Below w.heap.size w w' := by
  have hu : uOp (⟨#[45, 108, 101]⟩ : ByteArray).toList = 0 := by rw [Lib.toList_data]; decide +kernel
  have hv : bOp (⟨#[45, 108, 101]⟩ : ByteArray).toList = 135 := by rw [Lib.toList_data]; decide +kernel
  go_enter Try.func5, Try.ntmps5
  go_wp2_with (first | (go_at_call 24; refine (un_any _ _).mono ?_; rintro e w' ⟨rfl, rfl⟩) | (go_at_call 25; refine (bi_any _ _).mono ?_; rintro e w' ⟨rfl, rfl⟩) | (go_at_call 21; refine (kw_c9 _).mono ?_; rintro e w' ⟨rfl, rfl⟩) | go_in)
  go_ret
  exact ⟨rfl, Below.refl _ _⟩
theorem kw_c10 (w : World) : Calls Try.prog 21 #[.string ⟨#[45, 103, 101]⟩] w fun e w' => e = .returned (.bool false) ∧ w = w' := by
  go_enter Try.func21, Try.ntmps21
  go_wp2
  go_ret
  exact ⟨rfl, rfl⟩
theorem law5_c10 (w : World) : Calls Try.prog 5 #[.string ⟨#[45, 103, 101]⟩] w fun e w' => e = .returned (.bool true) ∧ Below w.heap.size w w' := by
  have hu : uOp (⟨#[45, 103, 101]⟩ : ByteArray).toList = 0 := by rw [Lib.toList_data]; decide +kernel
  have hv : bOp (⟨#[45, 103, 101]⟩ : ByteArray).toList = 136 := by rw [Lib.toList_data]; decide +kernel
  go_enter Try.func5, Try.ntmps5
  go_wp2_with (first | (go_at_call 24; refine (un_any _ _).mono ?_; rintro e w' ⟨rfl, rfl⟩) | (go_at_call 25; refine (bi_any _ _).mono ?_; rintro e w' ⟨rfl, rfl⟩) | (go_at_call 21; refine (kw_c10 _).mono ?_; rintro e w' ⟨rfl, rfl⟩) | go_in)
  go_ret
  exact ⟨rfl, Below.refl _ _⟩
theorem kw_c11 (w : World) : Calls Try.prog 21 #[.string ⟨#[45, 108, 116]⟩] w fun e w' => e = .returned (.bool false) ∧ w = w' := by
  go_enter Try.func21, Try.ntmps21
  go_wp2
  go_ret
  exact ⟨rfl, rfl⟩
theorem law5_c11 (w : World) : Calls Try.prog 5 #[.string ⟨#[45, 108, 116]⟩] w fun e w' => e = .returned (.bool true) ∧ Below w.heap.size w w' := by
  have hu : uOp (⟨#[45, 108, 116]⟩ : ByteArray).toList = 0 := by rw [Lib.toList_data]; decide +kernel
  have hv : bOp (⟨#[45, 108, 116]⟩ : ByteArray).toList = 137 := by rw [Lib.toList_data]; decide +kernel
  go_enter Try.func5, Try.ntmps5
  go_wp2_with (first | (go_at_call 24; refine (un_any _ _).mono ?_; rintro e w' ⟨rfl, rfl⟩) | (go_at_call 25; refine (bi_any _ _).mono ?_; rintro e w' ⟨rfl, rfl⟩) | (go_at_call 21; refine (kw_c11 _).mono ?_; rintro e w' ⟨rfl, rfl⟩) | go_in)
  go_ret
  exact ⟨rfl, Below.refl _ _⟩
theorem kw_c12 (w : World) : Calls Try.prog 21 #[.string ⟨#[45, 103, 116]⟩] w fun e w' => e = .returned (.bool false) ∧ w = w' := by
  go_enter Try.func21, Try.ntmps21
  go_wp2
  go_ret
  exact ⟨rfl, rfl⟩
theorem law5_c12 (w : World) : Calls Try.prog 5 #[.string ⟨#[45, 103, 116]⟩] w fun e w' => e = .returned (.bool true) ∧ Below w.heap.size w w' := by
  have hu : uOp (⟨#[45, 103, 116]⟩ : ByteArray).toList = 0 := by rw [Lib.toList_data]; decide +kernel
  have hv : bOp (⟨#[45, 103, 116]⟩ : ByteArray).toList = 138 := by rw [Lib.toList_data]; decide +kernel
  go_enter Try.func5, Try.ntmps5
  go_wp2_with (first | (go_at_call 24; refine (un_any _ _).mono ?_; rintro e w' ⟨rfl, rfl⟩) | (go_at_call 25; refine (bi_any _ _).mono ?_; rintro e w' ⟨rfl, rfl⟩) | (go_at_call 21; refine (kw_c12 _).mono ?_; rintro e w' ⟨rfl, rfl⟩) | go_in)
  go_ret
  exact ⟨rfl, Below.refl _ _⟩

theorem law5 (s : ByteArray) (w : World) (hs : s.size ≤ maxLen) : Calls Try.prog 5 #[.string s] w fun e w' => e = .returned (.bool true) ∧ Below w.heap.size w w' := by
  unfold maxLen at hs
  by_cases h : 1048576 < s.size
  · go_enter Try.func5, Try.ntmps5
    go_wp2
    go_ret
    exact ⟨rfl, Below.refl _ _⟩
  by_cases h0 : s.toList = [61]
  · obtain rfl := of_list s _ h0
    exact law5_c0 w
  by_cases h1 : s.toList = [61, 61]
  · obtain rfl := of_list s _ h1
    exact law5_c1 w
  by_cases h2 : s.toList = [33, 61]
  · obtain rfl := of_list s _ h2
    exact law5_c2 w
  by_cases h3 : s.toList = [61, 126]
  · obtain rfl := of_list s _ h3
    exact law5_c3 w
  by_cases h4 : s.toList = [45, 110, 116]
  · obtain rfl := of_list s _ h4
    exact law5_c4 w
  by_cases h5 : s.toList = [45, 111, 116]
  · obtain rfl := of_list s _ h5
    exact law5_c5 w
  by_cases h6 : s.toList = [45, 101, 102]
  · obtain rfl := of_list s _ h6
    exact law5_c6 w
  by_cases h7 : s.toList = [45, 101, 113]
  · obtain rfl := of_list s _ h7
    exact law5_c7 w
  by_cases h8 : s.toList = [45, 110, 101]
  · obtain rfl := of_list s _ h8
    exact law5_c8 w
  by_cases h9 : s.toList = [45, 108, 101]
  · obtain rfl := of_list s _ h9
    exact law5_c9 w
  by_cases h10 : s.toList = [45, 103, 101]
  · obtain rfl := of_list s _ h10
    exact law5_c10 w
  by_cases h11 : s.toList = [45, 108, 116]
  · obtain rfl := of_list s _ h11
    exact law5_c11 w
  by_cases h12 : s.toList = [45, 103, 116]
  · obtain rfl := of_list s _ h12
    exact law5_c12 w
  have hz : bOp s.toList = 0 := bOp_zero _ (by simp [biW0, h0, h1, h2, h3, h4, h5, h6, h7, h8, h9, h10, h11, h12])
  clear h0 h1 h2 h3 h4 h5 h6 h7 h8 h9 h10 h11 h12
  cases hu : (uOp s.toList != 0)
  all_goals
    go_enter Try.func5, Try.ntmps5
    go_wp2_with (first | (go_at_call 24; refine (un_any _ _).mono ?_; rintro e w' ⟨rfl, rfl⟩) | (go_at_call 25; refine (bi_any _ _).mono ?_; rintro e w' ⟨rfl, rfl⟩) | go_in)
    go_ret
    exact ⟨rfl, Below.refl _ _⟩
end Go.Proofs.Ytkegnedapnabiac
