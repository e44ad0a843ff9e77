/-
  What the letter table unaryModel answers: the same code as testUnaryOp, for every string.
-/
import Derived.Test.YtkegnedapnabiabOps
namespace Go.Proofs.Ytkegnedapnabiab
open Go.RowKit Go.PlainAid

theorem two (s : ByteArray) (h : s.size = 2) : ∃ a b, s = ⟨#[a, b]⟩ := by
  obtain ⟨⟨l⟩⟩ := s
  have hl : l.length = 2 := h
  match l, hl with
  | [a, b], _ => exact ⟨a, b, rfl⟩

theorem uOp_len (s : ByteArray) (h : s.size ≠ 2) (h1 : s.toList ≠ [33]) : uOp s.toList = 0 := by
  have e : s.toList.length = s.size := by rw [Lib.toList_data]; rfl
  unfold uOp
  split
  · exact absurd (by assumption) h1
  · rename_i hl
    rw [hl] at e
    exact absurd e.symm h
  · rfl
theorem uOp_two (a b : UInt8) : uOp (⟨#[a, b]⟩ : ByteArray).toList = if a = 45 then uLet b else 0 := by
  rw [Lib.toList_data]
  show uOp [a, b] = _
  by_cases h : a = 45
  · subst h
    simp [uOp]
  · simp [uOp, h]

abbrev letS : ByteArray := ⟨#[101, 102, 100, 99, 98, 112, 83, 76, 107, 103, 117, 71, 79, 78, 114, 119, 120, 115, 116, 122, 110, 111, 118, 82]⟩
theorem letS_at : ∀ k : Fin 24, ∀ h : k.1 < letS.size, uLet (letS[k.1]'h) = 105 + (k.1 : Int) := by decide +kernel
theorem uLet_no (c : UInt8) (h1 : c ≠ 97) (h2 : c ≠ 104) (h : ∀ j, ∀ hj : j < 24, (letS[j]'hj) ≠ c) : uLet c = 0 := by
  unfold uLet
  rw [if_neg h1, if_neg h2, find_none]
  intro hm
  obtain ⟨j, hj, e⟩ := List.getElem_of_mem hm
  exact h j hj e

theorem um_sz (s : ByteArray) (w : World) (h : s.size ≠ 2) (h1 : s.toList ≠ [33]) : Calls Try.prog 17 #[.string s] w fun e w' => e = .returned (.int .u32 0) ∧ w = w' := by
  have e1 : (s.toList == [33]) = false := by simp [h1]
  have e2 : ((s.size : Int) != 2) = true := by simp; omega
  clear h h1
  go_enter Try.func17, Try.ntmps17
  go_wp2
  go_ret
  exact ⟨rfl, rfl⟩

theorem um_one (w : World) : Calls Try.prog 17 #[.string ⟨#[33]⟩] w fun e w' => e = .returned (.int .u32 39) ∧ w = w' := by
  go_enter Try.func17, Try.ntmps17
  go_wp2
  go_ret
  exact ⟨rfl, rfl⟩

theorem um_two (a b : UInt8) (w : World) (h : a ≠ 45) : Calls Try.prog 17 #[.string ⟨#[a, b]⟩] w fun e w' => e = .returned (.int .u32 0) ∧ w = w' := by
  have e2 : ((a.toNat : Int) != 45) = true := by
    simp
    intro h2
    exact h (UInt8.toNat_inj.1 (by simp; omega))
  have g0 : (((⟨#[a, b]⟩ : ByteArray)[0]'(by show 0 < 2; decide)).toNat : Int) = (a.toNat : Int) := rfl
  clear h
  go_enter Try.func17, Try.ntmps17
  go_wp2
  go_ret
  exact ⟨rfl, rfl⟩

theorem um_a (w : World) : Calls Try.prog 17 #[.string ⟨#[45, 97]⟩] w fun e w' => e = .returned (.int .u32 105) ∧ w = w' := by
  go_enter Try.func17, Try.ntmps17
  go_wp2
  go_ret
  exact ⟨rfl, rfl⟩
theorem um_h (w : World) : Calls Try.prog 17 #[.string ⟨#[45, 104]⟩] w fun e w' => e = .returned (.int .u32 112) ∧ w = w' := by
  go_enter Try.func17, Try.ntmps17
  go_wp2
  go_ret
  exact ⟨rfl, rfl⟩

/-- No letter ahead of place k is b. -/
def noneTo (b : UInt8) (k : Nat) : Prop := ∀ j, ∀ hj : j < 24, j < k → (letS[j]'hj) ≠ b
theorem noneTo_succ {b : UInt8} {k : Nat} (h : noneTo b k) (hk : k < 24) (hne : (letS[k]'hk) ≠ b) : noneTo b (k + 1) := by
  intro j hj hjk
  by_cases e : j = k
  · subst e; exact hne
  · exact h j hj (by omega)

theorem um_dash (b : UInt8) (w : World) (h1 : b ≠ 97) (h2 : b ≠ 104) : Calls Try.prog 17 #[.string ⟨#[45, b]⟩] w fun e w' => e = .returned (.int .u32 (uLet b)) ∧ w = w' := by
  have g0 : (((⟨#[45, b]⟩ : ByteArray)[0]'(by show 0 < 2; decide)).toNat : Int) = 45 := rfl
  have g1 : (((⟨#[45, b]⟩ : ByteArray)[1]'(by show 1 < 2; decide)).toNat : Int) = (b.toNat : Int) := rfl
  have e1 : ((b.toNat : Int) == 97) = false := by
    simp
    intro h3
    exact h1 (UInt8.toNat_inj.1 (by simp; omega))
  have e2 : ((b.toNat : Int) == 104) = false := by
    simp
    intro h3
    exact h2 (UInt8.toNat_inj.1 (by simp; omega))
  have H1 := Lib.hid h1
  have H2 := Lib.hid h2
  clear h1 h2
  go_enter Try.func17, Try.ntmps17
  go_wp2
  go_loop [4] (fun i => ∃ k : Nat, k ≤ 24 ∧ i = .int .i64 k ∧ noneTo b k) (fun i => 24 - (intOf i).toNat)
  case atStart => exact ⟨0, by omega, rfl, fun j _ h => absurd h (by omega)⟩
  case round =>
    obtain ⟨k, hk, rfl, hn⟩ := hrel
    by_cases hlt : k < 24
    · have hbk := get_bt letS k hlt
      have hb2 := bt_le letS k
      have hb1 := bt_nonneg letS k
      by_cases he : (letS[k]'hlt) = b
      · have hl : uLet b = 105 + (k : Int) := by rw [← he]; exact letS_at ⟨k, hlt⟩ hlt
        have t1 : (bt letS k == (b.toNat : Int)) = true := by rw [← hbk, he]; simp
        have HL := Lib.hid hl
        clear he hl hn
        go_wp2
        go_ret
        exact ⟨by rw [HL.out]; rfl, rfl⟩
      · have t1 : (bt letS k == (b.toNat : Int)) = false := by
          rw [← hbk]
          simp
          intro h3
          exact he (UInt8.toNat_inj.1 (by omega))
        have HS := Lib.hid (noneTo_succ hn hlt he)
        clear he hn
        go_wp2
        go_round
        case rel => exact ⟨k + 1, by omega, by go_num, HS.out⟩
        case measure => simp [intOf]; omega
    · have hl : uLet b = 0 := uLet_no b H1.out H2.out fun j hj => hn j hj (by omega)
      have HL := Lib.hid hl
      clear hl hn
      go_wp2
      go_ret
      exact ⟨by rw [HL.out]; rfl, rfl⟩

theorem um17 (s : ByteArray) (w : World) : Calls Try.prog 17 #[.string s] w fun e w' => e = .returned (.int .u32 (uOp s.toList)) ∧ w = w' := by
  by_cases h1 : s.toList = [33]
  · have e : uOp s.toList = 39 := by rw [h1]; rfl
    rw [e]
    obtain rfl := of_list s _ h1
    exact um_one w
  by_cases h2 : s.size = 2
  · obtain ⟨a, b, rfl⟩ := two s h2
    rw [uOp_two]
    by_cases ha : a = 45
    · subst ha
      rw [if_pos rfl]
      by_cases hb : b = 97
      · subst hb; exact um_a w
      by_cases hc : b = 104
      · subst hc; exact um_h w
      exact um_dash b w hb hc
    · rw [if_neg ha]
      exact um_two a b w ha
  · rw [uOp_len s h2 h1]
    exact um_sz s w h2 h1

theorem law7 (s : ByteArray) (w : World) (hs : s.size ≤ maxLen) : Calls Try.prog 7 #[.string s] w fun e w' => e = .returned (.bool true) ∧ Below w.heap.size w w' := by
  unfold maxLen at hs
  by_cases h : 1048576 < s.size
  · go_enter Try.func7, Try.ntmps7
    go_wp2
    go_ret
    exact ⟨rfl, Below.refl _ _⟩
  · go_enter Try.func7, Try.ntmps7
    go_wp2_with (first | (go_at_call 21; refine (un_any _ _).mono ?_; rintro e w' ⟨rfl, rfl⟩) | (go_at_call 17; refine (um17 _ _).mono ?_; rintro e w' ⟨rfl, rfl⟩) | go_in)
    go_ret
    exact ⟨by simp, Below.refl _ _⟩

end Go.Proofs.Ytkegnedapnabiab
