/-
  What the methods of Pos and posAddCol compute, for every value of the two raw fields: each reader as a function of the fields; posAddCol moves the offset and the column, kept within their bounds.
-/
import Derived.Test.YtccnpgmceoojmadBase
import Derived.Laws.BitsAllLaws
import Derived.WalkLawsBesides
import Derived.WalkSpells
namespace Go.Proofs.Ytccnpgmceoojmad
open Go.RowKit

/-- IsValid. -/
def vB (o l : Int) : Bool := decide (o ≤ 4294967284) && (l != 0)
/-- After. -/
def aB (o l q : Int) : Bool := vB o l && decide (q < o)
/-- Offset. -/
def oI (o : Int) : Int := if 4294967284 < o then 0 else o
/-- The offset of posAddCol's answer. -/
def pO (o l n : Int) : Int := if vB o l then (if 4294967284 < o + n then 4294967284 else o + n) else o
/-- The column of posAddCol's answer. -/
def pC (l n : Int) : Int := if 0 < l % 16384 ∧ l % 16384 + n ≤ 16383 then l % 16384 + n else 0
/-- The packed line and column of posAddCol's answer. -/
def pL (o l n : Int) : Int := if vB o l then (l - l % 16384) + pC l n else l

theorem and_col (l : Int) (h0 : 0 ≤ l) (h1 : l ≤ 4294967295) : bits .and .u32 l 16383 = l % 16384 := by
  rw [u32_and l 16383 h0 (by omega) (by omega) (by omega)]
  have e : l.toNat &&& (16383 : Int).toNat = l.toNat % 16384 := Nat.and_two_pow_sub_one_eq_mod l.toNat 14
  rw [e]
  omega
theorem and_high (n : Nat) (hn : n < 4294967296) : n &&& (4294967295 - 16383) = n - n % 16384 := by
  have e1 : 4294967295 - 16383 = (2 ^ 18 - 1) <<< 14 := by decide
  have e2 : n - n % 16384 = (n >>> 14) <<< 14 := by
    rw [Nat.shiftRight_eq_div_pow, Nat.shiftLeft_eq]
    omega
  rw [e1, e2]
  apply Nat.eq_of_testBit_eq
  intro i
  rw [Nat.testBit_and, Nat.testBit_shiftLeft, Nat.testBit_shiftLeft, Nat.testBit_two_pow_sub_one, Nat.testBit_shiftRight]
  by_cases h : 14 ≤ i
  · have : 14 + (i - 14) = i := by omega
    rw [this]
    by_cases h2 : i < 32
    · have h3 : i - 14 < 18 := by omega
      simp [h, h3]
    · have : n.testBit i = false := Nat.testBit_lt_two_pow (Nat.lt_of_lt_of_le hn (Nat.pow_le_pow_right (n := 2) (by decide) (show 32 ≤ i by omega)))
      simp [this]
  · simp [h]
theorem andNot_col (l : Int) (h0 : 0 ≤ l) (h1 : l ≤ 4294967295) : bits .andNot .u32 l 16383 = l - l % 16384 := by
  obtain ⟨n, rfl⟩ := Int.eq_ofNat_of_zero_le h0
  have hn : n < 4294967296 := by omega
  rw [show (16383 : Int) = ((16383 : Nat) : Int) from rfl, u32_andNot_nat n 16383 hn (by omega)]
  rw [and_high n hn]
  omega
theorem or_col (l c : Int) (h0 : 0 ≤ l) (h1 : l ≤ 4294967295) (c0 : 0 ≤ c) (c1 : c < 16384) : bits .or .u32 (l - l % 16384) c = l - l % 16384 + c := by
  rw [u32_or _ _ (by omega) (by omega) c0 (by omega)]
  rw [nat_join 14 _ _ (by omega) (by omega)]
  omega

theorem isValid (o l : Int) (w : World) : Calls Try.prog 25 #[.agg #[.int .u32 o, .int .u32 l]] w fun e w' => e = .returned (.bool (vB o l)) ∧ w.alloc (.cells #[.int .u32 o, .int .u32 l] 29) = w' := by
  go_enter Try.func25, Try.ntmps25
  go_wp2
  all_goals
    go_ret
    refine ⟨ret_bool ?_, rfl⟩
    simp [vB] at *
    try simp [*]
    try omega

theorem line (o l : Int) (w : World) (h0 : 0 ≤ l) (h1 : l ≤ 4294967295) : Calls Try.prog 15 #[.agg #[.int .u32 o, .int .u32 l]] w fun e w' => e = .returned (.int .u64 (l / 16384)) ∧ w.alloc (.cells #[.int .u32 o, .int .u32 l] 29) = w' := by
  go_enter Try.func15, Try.ntmps15
  go_wp2
  go_ret
  exact ⟨rfl, rfl⟩

theorem col (o l : Int) (w : World) (h0 : 0 ≤ l) (h1 : l ≤ 4294967295) : Calls Try.prog 16 #[.agg #[.int .u32 o, .int .u32 l]] w fun e w' => e = .returned (.int .u64 (l % 16384)) ∧ w.alloc (.cells #[.int .u32 o, .int .u32 l] 29) = w' := by
  have e := and_col l h0 h1
  go_enter Try.func16, Try.ntmps16
  go_wp2
  go_ret
  exact ⟨rfl, rfl⟩

theorem offset (o l : Int) (w : World) (h0 : 0 ≤ o) (h1 : o ≤ 4294967295) : Calls Try.prog 14 #[.agg #[.int .u32 o, .int .u32 l]] w fun e w' => e = .returned (.int .u64 (oI o)) ∧ w.alloc (.cells #[.int .u32 o, .int .u32 l] 29) = w' := by
  by_cases h : 4294967284 < o
  · go_enter Try.func14, Try.ntmps14
    go_wp2
    go_ret
    exact ⟨ret_int (by unfold oI; rw [if_pos h]), rfl⟩
  · go_enter Try.func14, Try.ntmps14
    go_wp2
    go_ret
    exact ⟨ret_int (by unfold oI; rw [if_neg (by omega)]), rfl⟩

theorem after (o l q m : Int) (w : World) : Calls Try.prog 63 #[.agg #[.int .u32 o, .int .u32 l], .agg #[.int .u32 q, .int .u32 m]] w fun e w' => e = .returned (.bool (aB o l q)) ∧ ((w.alloc (.cells #[.int .u32 o, .int .u32 l] 29)).alloc (.cells #[.int .u32 q, .int .u32 m] 29)).alloc (.cells #[.int .u32 o, .int .u32 l] 29) = w' := by
  cases hv : vB o l
  all_goals
    go_enter Try.func63, Try.ntmps63
    go_wp2_with (go_at_call 25; refine (isValid _ _ _).mono ?_; rintro e w' ⟨rfl, rfl⟩)
    go_ret
    exact ⟨by simp [aB, hv], rfl⟩

theorem posAdd_no (o l n : Int) (w : World) (hv : vB o l = false) : Calls Try.prog 27 #[.agg #[.int .u32 o, .int .u32 l], .int .i64 n] w fun e w' => e = .returned (.agg #[.int .u32 o, .int .u32 l]) ∧ ((w.alloc (.cells #[.int .u32 o, .int .u32 l] 29)).alloc (.cells #[.int .u32 o, .int .u32 l] 29)).alloc (.cells #[.int .u32 o, .int .u32 l] 29) = w' := by
  go_enter Try.func27, Try.ntmps27
  go_wp2_with (go_at_call 25; refine (isValid _ _ _).mono ?_; rintro e w' ⟨rfl, rfl⟩)
  go_returns
  exact ⟨rfl, rfl⟩
theorem posAdd_a0 (o l n : Int) (w : World) (h0 : 0 ≤ o) (h2 : 0 ≤ l) (h3 : l ≤ 4294967295) (h4 : 0 ≤ n) (h5 : n ≤ 1099511627776) (hv : vB o l = true) (hx : 4294967284 < o + n) (hc : ¬ 0 < l % 16384) : Calls Try.prog 27 #[.agg #[.int .u32 o, .int .u32 l], .int .i64 n] w fun e w' => e = .returned (.agg #[.int .u32 (pO o l n), .int .u32 (pL o l n)]) ∧ (((w.alloc (.cells #[.int .u32 (pO o l n), .int .u32 (pL o l n)] 29)).alloc (.cells #[.int .u32 (pO o l n), .int .u32 (pL o l n)] 29)).alloc (.cells #[.int .u32 o, .int .u32 l] 29)).alloc (.cells #[.int .u32 o, .int .u32 l] 29) = w' := by
  have ho : o ≤ 4294967284 := by simp [vB] at hv; omega
  have HO := Lib.hid (show pO o l n = 4294967284 by unfold pO; rw [if_pos hv]; first | rw [if_pos (by omega)] | rw [if_neg (by omega)])
  have HL := Lib.hid (show pL o l n = l by unfold pL pC; rw [if_pos hv]; first | rw [if_pos (by omega)] | (rw [if_neg (by omega)]; omega))
  have e1 := andNot_col l h2 h3
  have e2 : bits .or .u32 (l - l % 16384) (l % 16384) = l := by rw [or_col l (l % 16384) h2 h3 (by omega) (by omega)]; omega
  go_enter Try.func27, Try.ntmps27
  go_wp2_with (first | (go_at_call 25; refine (isValid _ _ _).mono ?_; rintro e w' ⟨rfl, rfl⟩) | (go_at_call 16; refine (col _ _ _ h2 h3).mono ?_; rintro e w' ⟨rfl, rfl⟩))
  go_returns
  exact ⟨by rw [HO.out, HL.out], by rw [HO.out, HL.out]⟩
theorem posAdd_b0 (o l n : Int) (w : World) (h0 : 0 ≤ o) (h2 : 0 ≤ l) (h3 : l ≤ 4294967295) (h4 : 0 ≤ n) (h5 : n ≤ 1099511627776) (hv : vB o l = true) (hx : 4294967284 < o + n) (hc : 0 < l % 16384) (hd : ¬ 16383 < l % 16384 + n) : Calls Try.prog 27 #[.agg #[.int .u32 o, .int .u32 l], .int .i64 n] w fun e w' => e = .returned (.agg #[.int .u32 (pO o l n), .int .u32 (pL o l n)]) ∧ (((w.alloc (.cells #[.int .u32 (pO o l n), .int .u32 (pL o l n)] 29)).alloc (.cells #[.int .u32 (pO o l n), .int .u32 (pL o l n)] 29)).alloc (.cells #[.int .u32 o, .int .u32 l] 29)).alloc (.cells #[.int .u32 o, .int .u32 l] 29) = w' := by
  have ho : o ≤ 4294967284 := by simp [vB] at hv; omega
  have HO := Lib.hid (show pO o l n = 4294967284 by unfold pO; rw [if_pos hv]; first | rw [if_pos (by omega)] | rw [if_neg (by omega)])
  have HL := Lib.hid (show pL o l n = l - l % 16384 + (l % 16384 + n) by unfold pL pC; rw [if_pos hv]; first | rw [if_pos (by omega)] | (rw [if_neg (by omega)]; omega))
  have e1 := andNot_col l h2 h3
  have e2 : bits .or .u32 (l - l % 16384) (l % 16384 + n) = l - l % 16384 + (l % 16384 + n) := or_col l (l % 16384 + n) h2 h3 (by omega) (by omega)
  go_enter Try.func27, Try.ntmps27
  go_wp2_with (first | (go_at_call 25; refine (isValid _ _ _).mono ?_; rintro e w' ⟨rfl, rfl⟩) | (go_at_call 16; refine (col _ _ _ h2 h3).mono ?_; rintro e w' ⟨rfl, rfl⟩))
  go_returns
  exact ⟨by rw [HO.out, HL.out], by rw [HO.out, HL.out]⟩
theorem posAdd_c0 (o l n : Int) (w : World) (h0 : 0 ≤ o) (h2 : 0 ≤ l) (h3 : l ≤ 4294967295) (h4 : 0 ≤ n) (h5 : n ≤ 1099511627776) (hv : vB o l = true) (hx : 4294967284 < o + n) (hc : 0 < l % 16384) (hd : 16383 < l % 16384 + n) : Calls Try.prog 27 #[.agg #[.int .u32 o, .int .u32 l], .int .i64 n] w fun e w' => e = .returned (.agg #[.int .u32 (pO o l n), .int .u32 (pL o l n)]) ∧ (((w.alloc (.cells #[.int .u32 (pO o l n), .int .u32 (pL o l n)] 29)).alloc (.cells #[.int .u32 (pO o l n), .int .u32 (pL o l n)] 29)).alloc (.cells #[.int .u32 o, .int .u32 l] 29)).alloc (.cells #[.int .u32 o, .int .u32 l] 29) = w' := by
  have ho : o ≤ 4294967284 := by simp [vB] at hv; omega
  have HO := Lib.hid (show pO o l n = 4294967284 by unfold pO; rw [if_pos hv]; first | rw [if_pos (by omega)] | rw [if_neg (by omega)])
  have HL := Lib.hid (show pL o l n = l - l % 16384 by unfold pL pC; rw [if_pos hv]; first | rw [if_pos (by omega)] | (rw [if_neg (by omega)]; omega))
  have e1 := andNot_col l h2 h3
  have e2 : bits .or .u32 (l - l % 16384) 0 = l - l % 16384 := by rw [or_col l 0 h2 h3 (by omega) (by omega)]; omega
  go_enter Try.func27, Try.ntmps27
  go_wp2_with (first | (go_at_call 25; refine (isValid _ _ _).mono ?_; rintro e w' ⟨rfl, rfl⟩) | (go_at_call 16; refine (col _ _ _ h2 h3).mono ?_; rintro e w' ⟨rfl, rfl⟩))
  go_returns
  exact ⟨by rw [HO.out, HL.out], by rw [HO.out, HL.out]⟩
theorem posAdd_a1 (o l n : Int) (w : World) (h0 : 0 ≤ o) (h2 : 0 ≤ l) (h3 : l ≤ 4294967295) (h4 : 0 ≤ n) (h5 : n ≤ 1099511627776) (hv : vB o l = true) (hx : ¬ 4294967284 < o + n) (hc : ¬ 0 < l % 16384) : Calls Try.prog 27 #[.agg #[.int .u32 o, .int .u32 l], .int .i64 n] w fun e w' => e = .returned (.agg #[.int .u32 (pO o l n), .int .u32 (pL o l n)]) ∧ (((w.alloc (.cells #[.int .u32 (pO o l n), .int .u32 (pL o l n)] 29)).alloc (.cells #[.int .u32 (pO o l n), .int .u32 (pL o l n)] 29)).alloc (.cells #[.int .u32 o, .int .u32 l] 29)).alloc (.cells #[.int .u32 o, .int .u32 l] 29) = w' := by
  have ho : o ≤ 4294967284 := by simp [vB] at hv; omega
  have HO := Lib.hid (show pO o l n = o + n by unfold pO; rw [if_pos hv]; first | rw [if_pos (by omega)] | rw [if_neg (by omega)])
  have HL := Lib.hid (show pL o l n = l by unfold pL pC; rw [if_pos hv]; first | rw [if_pos (by omega)] | (rw [if_neg (by omega)]; omega))
  have e1 := andNot_col l h2 h3
  have e2 : bits .or .u32 (l - l % 16384) (l % 16384) = l := by rw [or_col l (l % 16384) h2 h3 (by omega) (by omega)]; omega
  go_enter Try.func27, Try.ntmps27
  go_wp2_with (first | (go_at_call 25; refine (isValid _ _ _).mono ?_; rintro e w' ⟨rfl, rfl⟩) | (go_at_call 16; refine (col _ _ _ h2 h3).mono ?_; rintro e w' ⟨rfl, rfl⟩))
  go_returns
  exact ⟨by rw [HO.out, HL.out], by rw [HO.out, HL.out]⟩
theorem posAdd_b1 (o l n : Int) (w : World) (h0 : 0 ≤ o) (h2 : 0 ≤ l) (h3 : l ≤ 4294967295) (h4 : 0 ≤ n) (h5 : n ≤ 1099511627776) (hv : vB o l = true) (hx : ¬ 4294967284 < o + n) (hc : 0 < l % 16384) (hd : ¬ 16383 < l % 16384 + n) : Calls Try.prog 27 #[.agg #[.int .u32 o, .int .u32 l], .int .i64 n] w fun e w' => e = .returned (.agg #[.int .u32 (pO o l n), .int .u32 (pL o l n)]) ∧ (((w.alloc (.cells #[.int .u32 (pO o l n), .int .u32 (pL o l n)] 29)).alloc (.cells #[.int .u32 (pO o l n), .int .u32 (pL o l n)] 29)).alloc (.cells #[.int .u32 o, .int .u32 l] 29)).alloc (.cells #[.int .u32 o, .int .u32 l] 29) = w' := by
  have ho : o ≤ 4294967284 := by simp [vB] at hv; omega
  have HO := Lib.hid (show pO o l n = o + n by unfold pO; rw [if_pos hv]; first | rw [if_pos (by omega)] | rw [if_neg (by omega)])
  have HL := Lib.hid (show pL o l n = l - l % 16384 + (l % 16384 + n) by unfold pL pC; rw [if_pos hv]; first | rw [if_pos (by omega)] | (rw [if_neg (by omega)]; omega))
  have e1 := andNot_col l h2 h3
  have e2 : bits .or .u32 (l - l % 16384) (l % 16384 + n) = l - l % 16384 + (l % 16384 + n) := or_col l (l % 16384 + n) h2 h3 (by omega) (by omega)
  go_enter Try.func27, Try.ntmps27
  go_wp2_with (first | (go_at_call 25; refine (isValid _ _ _).mono ?_; rintro e w' ⟨rfl, rfl⟩) | (go_at_call 16; refine (col _ _ _ h2 h3).mono ?_; rintro e w' ⟨rfl, rfl⟩))
  go_returns
  exact ⟨by rw [HO.out, HL.out], by rw [HO.out, HL.out]⟩
theorem posAdd_c1 (o l n : Int) (w : World) (h0 : 0 ≤ o) (h2 : 0 ≤ l) (h3 : l ≤ 4294967295) (h4 : 0 ≤ n) (h5 : n ≤ 1099511627776) (hv : vB o l = true) (hx : ¬ 4294967284 < o + n) (hc : 0 < l % 16384) (hd : 16383 < l % 16384 + n) : Calls Try.prog 27 #[.agg #[.int .u32 o, .int .u32 l], .int .i64 n] w fun e w' => e = .returned (.agg #[.int .u32 (pO o l n), .int .u32 (pL o l n)]) ∧ (((w.alloc (.cells #[.int .u32 (pO o l n), .int .u32 (pL o l n)] 29)).alloc (.cells #[.int .u32 (pO o l n), .int .u32 (pL o l n)] 29)).alloc (.cells #[.int .u32 o, .int .u32 l] 29)).alloc (.cells #[.int .u32 o, .int .u32 l] 29) = w' := by
  have ho : o ≤ 4294967284 := by simp [vB] at hv; omega
  have HO := Lib.hid (show pO o l n = o + n by unfold pO; rw [if_pos hv]; first | rw [if_pos (by omega)] | rw [if_neg (by omega)])
  have HL := Lib.hid (show pL o l n = l - l % 16384 by unfold pL pC; rw [if_pos hv]; first | rw [if_pos (by omega)] | (rw [if_neg (by omega)]; omega))
  have e1 := andNot_col l h2 h3
  have e2 : bits .or .u32 (l - l % 16384) 0 = l - l % 16384 := by rw [or_col l 0 h2 h3 (by omega) (by omega)]; omega
  go_enter Try.func27, Try.ntmps27
  go_wp2_with (first | (go_at_call 25; refine (isValid _ _ _).mono ?_; rintro e w' ⟨rfl, rfl⟩) | (go_at_call 16; refine (col _ _ _ h2 h3).mono ?_; rintro e w' ⟨rfl, rfl⟩))
  go_returns
  exact ⟨by rw [HO.out, HL.out], by rw [HO.out, HL.out]⟩
/-- posAddCol from a valid position, with the world that it leaves. -/
theorem posAddX (o l n : Int) (w : World) (h0 : 0 ≤ o) (h2 : 0 ≤ l) (h3 : l ≤ 4294967295) (h4 : 0 ≤ n) (h5 : n ≤ 1099511627776) (hv : vB o l = true) : Calls Try.prog 27 #[.agg #[.int .u32 o, .int .u32 l], .int .i64 n] w fun e w' => e = .returned (.agg #[.int .u32 (pO o l n), .int .u32 (pL o l n)]) ∧ (((w.alloc (.cells #[.int .u32 (pO o l n), .int .u32 (pL o l n)] 29)).alloc (.cells #[.int .u32 (pO o l n), .int .u32 (pL o l n)] 29)).alloc (.cells #[.int .u32 o, .int .u32 l] 29)).alloc (.cells #[.int .u32 o, .int .u32 l] 29) = w' := by
  by_cases hx : 4294967284 < o + n
  · by_cases hc : 0 < l % 16384
    · by_cases hd : 16383 < l % 16384 + n
      · exact posAdd_c0 o l n w h0 h2 h3 h4 h5 hv hx hc hd
      · exact posAdd_b0 o l n w h0 h2 h3 h4 h5 hv hx hc hd
    · exact posAdd_a0 o l n w h0 h2 h3 h4 h5 hv hx hc
  · by_cases hc : 0 < l % 16384
    · by_cases hd : 16383 < l % 16384 + n
      · exact posAdd_c1 o l n w h0 h2 h3 h4 h5 hv hx hc hd
      · exact posAdd_b1 o l n w h0 h2 h3 h4 h5 hv hx hc hd
    · exact posAdd_a1 o l n w h0 h2 h3 h4 h5 hv hx hc
/-- posAddCol by a distance that is not negative. -/
theorem posAdd (o l n : Int) (w : World) (h0 : 0 ≤ o) (h2 : 0 ≤ l) (h3 : l ≤ 4294967295) (h4 : 0 ≤ n) (h5 : n ≤ 1099511627776) : Calls Try.prog 27 #[.agg #[.int .u32 o, .int .u32 l], .int .i64 n] w fun e w' => e = .returned (.agg #[.int .u32 (pO o l n), .int .u32 (pL o l n)]) ∧ Below w.heap.size w w' := by
  cases hv : vB o l with
  | false =>
    have e1 : pO o l n = o := by unfold pO; rw [if_neg (by simp [hv])]
    have e2 : pL o l n = l := by unfold pL; rw [if_neg (by simp [hv])]
    rw [e1, e2]
    refine (posAdd_no o l n w hv).mono ?_
    rintro e w' ⟨rfl, rfl⟩
    exact ⟨rfl, by go_grown⟩
  | true =>
    refine (posAddX o l n w h0 h2 h3 h4 h5 hv).mono ?_
    rintro e w' ⟨rfl, rfl⟩
    exact ⟨rfl, by go_grown⟩
/-- posAddCol's answer lies within its type. -/
theorem pO_bounds (o l n : Int) (h0 : 0 ≤ o) (h1 : o ≤ 4294967295) (h4 : 0 ≤ n) : 0 ≤ pO o l n ∧ pO o l n ≤ 4294967295 := by
  unfold pO
  repeat' split
  all_goals omega
theorem pL_bounds (o l n : Int) (h2 : 0 ≤ l) (h3 : l ≤ 4294967295) (h4 : 0 ≤ n) : 0 ≤ pL o l n ∧ pL o l n ≤ 4294967295 := by
  unfold pL pC
  repeat' split
  all_goals omega
end Go.Proofs.Ytccnpgmceoojmad
