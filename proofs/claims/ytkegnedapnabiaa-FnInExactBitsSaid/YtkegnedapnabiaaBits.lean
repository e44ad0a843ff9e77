/-
  LangVariant.in is the subset test on the 64 bits, and the loop of zzSubsetBits computes the same: for every pair of ints.
-/
import Derived.Test.YtkegnedapnabiaaBase
import Derived.Laws.BitsAllLaws
namespace Go.Proofs.Ytkegnedapnabiaa
open Go.RowKit

/-- Bit k of a 64-bit number. -/
def bitAt (a : Int) (k : Nat) : Bool := (BitVec.ofInt 64 a).toNat.testBit k
theorem wrap_nat (a : Int) : IntKind.u64.wrap a = ((BitVec.ofInt 64 a).toNat : Int) := by
  rw [IntKind.wrap_u64, BitVec.toNat_ofInt]
  omega
theorem bit_run (a : Int) (k : Nat) : bits .and .u64 (IntKind.u64.wrap a / 2 ^ k) 1 = if bitAt a k then 1 else 0 := by
  have hlt : (BitVec.ofInt 64 a).toNat < 18446744073709551616 := (BitVec.ofInt 64 a).isLt
  rw [wrap_nat]
  have e : (((BitVec.ofInt 64 a).toNat : Int) / 2 ^ k) = (((BitVec.ofInt 64 a).toNat / 2 ^ k : Nat) : Int) := by
    rw [Int.natCast_ediv, Int.natCast_pow]; rfl
  have hd : (BitVec.ofInt 64 a).toNat / 2 ^ k < 18446744073709551616 := Nat.lt_of_le_of_lt (Nat.div_le_self _ _) hlt
  rw [e, show (1 : Int) = ((1 : Nat) : Int) from rfl, u64_and_nat _ _ hd (by omega), nat_mask1]
  unfold bitAt
  rw [Nat.testBit_eq_decide_div_mod_eq]
  generalize (BitVec.ofInt 64 a).toNat / 2 ^ k = n
  by_cases h : n % 2 = 1
  · simp [h]
  · have h0 : n % 2 = 0 := by omega
    simp [h0]
theorem wrap_toInt (B : BitVec 64) : IntKind.i64.wrap (B.toNat : Int) = B.toInt := by
  rw [IntKind.wrap_i64, BitVec.toInt_eq_toNat_cond]
  have := B.isLt
  split <;> omega
theorem ofInt_toInt (a : Int) (ha : -9223372036854775808 ≤ a ∧ a ≤ 9223372036854775807) : (BitVec.ofInt 64 a).toInt = a := by
  rw [BitVec.toInt_ofInt]
  unfold Int.bmod
  simp
  split <;> omega
theorem and_iff (a b : Int) (ha : -9223372036854775808 ≤ a ∧ a ≤ 9223372036854775807) : (bits .and .i64 a b == a) = true ↔ ∀ k, k < 64 → bitAt a k = true → bitAt b k = true := by
  have e : bits .and .i64 a b = (BitVec.ofInt 64 a &&& BitVec.ofInt 64 b).toInt := by
    rw [← wrap_toInt]; rfl
  rw [beq_iff_eq, e]
  constructor
  · intro h k hk hak
    have h2 : BitVec.ofInt 64 a &&& BitVec.ofInt 64 b = BitVec.ofInt 64 a := by
      apply BitVec.eq_of_toInt_eq
      rw [h, ofInt_toInt a ha]
    have h3 : (BitVec.ofInt 64 a &&& BitVec.ofInt 64 b).getLsbD k = (BitVec.ofInt 64 a).getLsbD k := by rw [h2]
    rw [BitVec.getLsbD_and] at h3
    have hak' : (BitVec.ofInt 64 a).getLsbD k = true := hak
    rw [hak'] at h3
    have h4 : (BitVec.ofInt 64 b).getLsbD k = true := by simpa using h3
    exact h4
  · intro h
    have h2 : BitVec.ofInt 64 a &&& BitVec.ofInt 64 b = BitVec.ofInt 64 a := by
      apply BitVec.eq_of_getLsbD_eq
      intro k hk
      rw [BitVec.getLsbD_and]
      cases hak : (BitVec.ofInt 64 a).getLsbD k with
      | false => rfl
      | true => 
        have : (BitVec.ofInt 64 b).getLsbD k = true := h k hk hak
        rw [this]; rfl
    rw [h2, ofInt_toInt a ha]

def subTo (a b : Int) (n : Nat) : Prop := ∀ k, k < n → bitAt a k = true → bitAt b k = true

theorem in16 (a b : Int) (w : World) : Calls Try.prog 16 #[.int .i64 a, .int .i64 b] w fun e w' => e = .returned (.bool (bits .and .i64 a b == a)) ∧ w = w' := by
  go_enter Try.func16, Try.ntmps16
  go_wp2
  go_ret
  exact ⟨rfl, rfl⟩

theorem sub6 (a b : Int) (w : World) (ha : -9223372036854775808 ≤ a ∧ a ≤ 9223372036854775807) : Calls Try.prog 6 #[.int .i64 a, .int .i64 b] w fun e w' => e = .returned (.bool (bits .and .i64 a b == a)) ∧ w = w' := by
  have HA := Lib.hid (and_iff a b ha)
  go_enter Try.func6, Try.ntmps6
  go_wp2
  go_loop [7] (fun i => ∃ k : Nat, k ≤ 64 ∧ i = .int .i64 k ∧ subTo a b k) (fun i => 64 - (intOf i).toNat)
  case atStart => exact ⟨0, by omega, rfl, fun k hk => absurd hk (by omega)⟩
  case round =>
    obtain ⟨k, hk, rfl, hs⟩ := hrel
    by_cases hlt : k < 64
    · have ra := bit_run a k
      have rb := bit_run b k
      cases hak : bitAt a k with
      | false =>
        have HN := Lib.hid (show subTo a b (k + 1) from fun j hj hja => by
          by_cases e : j = k
          · subst e; rw [hak] at hja; exact absurd hja (by decide)
          · exact hs j (by omega) hja)
        rw [hak] at ra
        simp at ra
        clear rb hs hak
        go_wp2
        go_round
        case rel => exact ⟨k + 1, by omega, by go_num, HN.out⟩
        case measure => simp [intOf]; omega
      | true =>
        rw [hak] at ra
        simp at ra
        cases hbk : bitAt b k with
        | true =>
          have HN := Lib.hid (show subTo a b (k + 1) from fun j hj hja => by
            by_cases e : j = k
            · subst e; exact hbk
            · exact hs j (by omega) hja)
          rw [hbk] at rb
          simp at rb
          clear hs hak hbk
          go_wp2
          go_round
          case rel => exact ⟨k + 1, by omega, by go_num, HN.out⟩
          case measure => simp [intOf]; omega
        | false =>
          have hf : (bits .and .i64 a b == a) = false := by
            cases h : (bits .and .i64 a b == a) with
            | false => rfl
            | true =>
              have := HA.out.1 h k hlt hak
              rw [hbk] at this
              exact absurd this (by decide)
          have HF := Lib.hid hf
          rw [hbk] at rb
          simp at rb
          clear hs hak hbk hf
          go_wp2
          go_ret
          exact ⟨by rw [HF.out]; rfl, rfl⟩
    · have hf : (bits .and .i64 a b == a) = true := HA.out.2 fun j hj => hs j (by omega)
      have HF := Lib.hid hf
      clear hs hf
      go_wp2
      go_ret
      exact ⟨by rw [HF.out]; rfl, rfl⟩

theorem law3 (a b : Int) (w : World) (ha : -9223372036854775808 ≤ a ∧ a ≤ 9223372036854775807) : Calls Try.prog 3 #[.int .i64 a, .int .i64 b] w fun e w' => e = .returned (.bool true) ∧ Below w.heap.size w w' := by
  go_enter Try.func3, Try.ntmps3
  go_wp2_with (first | (go_at_call 16; refine (in16 _ _ _).mono ?_; rintro e w' ⟨rfl, rfl⟩) | (go_at_call 6; refine (sub6 _ _ _ ha).mono ?_; rintro e w' ⟨rfl, rfl⟩) | go_in)
  go_ret
  exact ⟨by simp, Below.refl _ _⟩
end Go.Proofs.Ytkegnedapnabiaa
