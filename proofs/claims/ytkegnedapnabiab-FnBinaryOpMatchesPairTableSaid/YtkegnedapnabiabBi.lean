/-
  What the pair table binaryModel answers: the same code as testBinaryOp, for every string.
-/
import Derived.Test.YtkegnedapnabiabOps
namespace Go.Proofs.Ytkegnedapnabiab
open Go.RowKit Go.PlainAid

theorem three (s : ByteArray) (h : s.size = 3) : ∃ a b c, s = ⟨#[a, b, c]⟩ := by
  obtain ⟨⟨l⟩⟩ := s
  have hl : l.length = 3 := h
  match l, hl with
  | [a, b, c], _ => exact ⟨a, b, c, rfl⟩

theorem bOp_len (s : ByteArray) (h : s.size ≠ 3) (h1 : s.toList ≠ [61]) (h2 : s.toList ≠ [61, 61]) (h3 : s.toList ≠ [33, 61]) (h4 : s.toList ≠ [61, 126]) : bOp s.toList = 0 := by
  have e : s.toList.length = s.size := by rw [Lib.toList_data]; rfl
  unfold bOp
  split
  · exact absurd (by assumption) h1
  · exact absurd (by assumption) h2
  · exact absurd (by assumption) h3
  · exact absurd (by assumption) h4
  · rename_i hl
    rw [hl] at e
    exact absurd e.symm h
  · rfl
theorem bOp_three (a b c : UInt8) : bOp (⟨#[a, b, c]⟩ : ByteArray).toList = if a = 45 then bPair b c else 0 := by
  rw [Lib.toList_data]
  show bOp [a, b, c] = _
  by_cases h : a = 45
  · subst h
    simp [bOp]
  · simp [bOp, h]

abbrev parS : ByteArray := ⟨#[110, 116, 111, 116, 101, 102, 101, 113, 110, 101, 108, 101, 103, 101, 108, 116, 103, 116]⟩
theorem parS_at : ∀ k : Fin 9, ∀ h : 2 * k.1 < parS.size, ∀ h' : 2 * k.1 + 1 < parS.size, bPair (parS[2 * k.1]'h) (parS[2 * k.1 + 1]'h') = 130 + (k.1 : Int) := by decide +kernel
theorem parS_pairs : ∀ k : Fin 9, ∀ h : 2 * k.1 < parS.size, ∀ h' : 2 * k.1 + 1 < parS.size, ∀ hk : k.1 < bPairs.length, bPairs[k.1]'hk = (parS[2 * k.1]'h, parS[2 * k.1 + 1]'h') := by decide +kernel
def nonePair (b c : UInt8) (k : Nat) : Prop := ∀ j, ∀ hj : j < 9, j < k → ¬ ((parS[2 * j]'(by show 2 * j < 18; omega)) = b ∧ (parS[2 * j + 1]'(by show 2 * j + 1 < 18; omega)) = c)
theorem nonePair_succ {b c : UInt8} {k : Nat} (h : nonePair b c k) (hk : k < 9) (hne : ¬ ((parS[2 * k]'(by show 2 * k < 18; omega)) = b ∧ (parS[2 * k + 1]'(by show 2 * k + 1 < 18; omega)) = c)) : nonePair b c (k + 1) := by
  intro j hj hjk
  by_cases e : j = k
  · subst e; exact hne
  · exact h j hj (by omega)
theorem bPair_no (b c : UInt8) (h : nonePair b c 9) : bPair b c = 0 := by
  unfold bPair
  rw [find_none]
  intro hm
  obtain ⟨j, hj, e⟩ := List.getElem_of_mem hm
  have hj9 : j < 9 := hj
  rw [parS_pairs ⟨j, hj9⟩ (by show 2 * j < 18; omega) (by show 2 * j + 1 < 18; omega) hj] at e
  simp only [Prod.mk.injEq] at e
  exact h j hj9 hj9 e

theorem bm_c0 (w : World) : Calls Try.prog 14 #[.string ⟨#[61]⟩] w fun e w' => e = .returned (.int .u32 87) ∧ Below w.heap.size w w' := by
  go_enter Try.func14, Try.ntmps14
  go_wp2
  go_ret
  exact ⟨rfl, Below.refl _ _⟩
theorem bm_c1 (w : World) : Calls Try.prog 14 #[.string ⟨#[61, 61]⟩] w fun e w' => e = .returned (.int .u32 45) ∧ Below w.heap.size w w' := by
  go_enter Try.func14, Try.ntmps14
  go_wp2
  go_ret
  exact ⟨rfl, Below.refl _ _⟩
theorem bm_c2 (w : World) : Calls Try.prog 14 #[.string ⟨#[33, 61]⟩] w fun e w' => e = .returned (.int .u32 46) ∧ Below w.heap.size w w' := by
  go_enter Try.func14, Try.ntmps14
  go_wp2
  go_ret
  exact ⟨rfl, Below.refl _ _⟩
theorem bm_c3 (w : World) : Calls Try.prog 14 #[.string ⟨#[61, 126]⟩] w fun e w' => e = .returned (.int .u32 129) ∧ Below w.heap.size w w' := by
  go_enter Try.func14, Try.ntmps14
  go_wp2
  go_ret
  exact ⟨rfl, Below.refl _ _⟩
theorem bm_sz (s : ByteArray) (w : World) (h : s.size ≠ 3) (h1 : s.toList ≠ [61]) (h2 : s.toList ≠ [61, 61]) (h3 : s.toList ≠ [33, 61]) (h4 : s.toList ≠ [61, 126]) : Calls Try.prog 14 #[.string s] w fun e w' => e = .returned (.int .u32 0) ∧ Below w.heap.size w w' := by
  have e1 : (s.toList == [61]) = false := by simp [h1]
  have e2 : (s.toList == [61, 61]) = false := by simp [h2]
  have e3 : (s.toList == [33, 61]) = false := by simp [h3]
  have e4 : (s.toList == [61, 126]) = false := by simp [h4]
  have e5 : ((s.size : Int) != 3) = true := by simp; omega
  clear h h1 h2 h3 h4
  go_enter Try.func14, Try.ntmps14
  go_wp2
  go_ret
  exact ⟨rfl, Below.refl _ _⟩
theorem bm_three (a b c : UInt8) (w : World) (h : a ≠ 45) : Calls Try.prog 14 #[.string ⟨#[a, b, c]⟩] w fun e w' => e = .returned (.int .u32 0) ∧ Below w.heap.size w w' := by
  have e2 : ((a.toNat : Int) != 45) = true := by
    simp
    intro h2
    exact h (UInt8.toNat_inj.1 (by simp; omega))
  have g0 : (((⟨#[a, b, c]⟩ : ByteArray)[0]'(by show 0 < 3; decide)).toNat : Int) = (a.toNat : Int) := rfl
  clear h
  go_enter Try.func14, Try.ntmps14
  go_wp2
  go_ret
  exact ⟨rfl, Below.refl _ _⟩

theorem ne_of_toNat {a b : UInt8} (h : a ≠ b) : ((a.toNat : Int) == (b.toNat : Int)) = false := by
  simp
  intro h3
  exact h (UInt8.toNat_inj.1 (by omega))

theorem bm_dash (b c : UInt8) (w : World) : Calls Try.prog 14 #[.string ⟨#[45, b, c]⟩] w fun e w' => e = .returned (.int .u32 (bPair b c)) ∧ Below w.heap.size w w' := by
  have g0 : (((⟨#[45, b, c]⟩ : ByteArray)[0]'(by show 0 < 3; decide)).toNat : Int) = 45 := rfl
  have g1 : (((⟨#[45, b, c]⟩ : ByteArray)[1]'(by show 1 < 3; decide)).toNat : Int) = (b.toNat : Int) := rfl
  have g2 : (((⟨#[45, b, c]⟩ : ByteArray)[2]'(by show 2 < 3; decide)).toNat : Int) = (c.toNat : Int) := rfl
  go_enter Try.func14, Try.ntmps14
  go_wp2
  go_loopw [3] (fun i wr => ∃ k : Nat, k ≤ 9 ∧ i = .int .i64 k ∧ nonePair b c k ∧ Below w.heap.size w wr) (fun i _ => 9 - (intOf i).toNat)
  case atStart => exact ⟨0, by omega, rfl, fun j _ h => absurd h (by omega), Below.refl _ _⟩
  case round =>
    obtain ⟨k, hk, rfl, hn, hbel⟩ := hrel
    by_cases hlt : k < 9
    · have i0 : 2 * k < parS.size := by show 2 * k < 18; omega
      have i1 : 2 * k + 1 < parS.size := by show 2 * k + 1 < 18; omega
      have hbk := get_bt parS (2 * k) i0
      have hbk1 := get_bt parS (2 * k + 1) i1
      have x1 : IntKind.i64.wrap (2 * (k : Int)) = 2 * (k : Int) := IntWalk.i64_in _ (by omega)
      have x2 : IntKind.i64.wrap (2 * (k : Int) + 1) = 2 * (k : Int) + 1 := IntWalk.i64_in _ (by omega)
      have x3 : (2 * (k : Int)).toNat = 2 * k := by omega
      have x4 : (2 * (k : Int) + 1).toNat = 2 * k + 1 := by omega
      have x5 : 0 ≤ 2 * (k : Int) := by omega
      have x6 : 0 ≤ 2 * (k : Int) + 1 := by omega
      have x7 : 2 * (k : Int) < 18 := by omega
      have x8 : 2 * (k : Int) + 1 < 18 := by omega
      by_cases hp : (parS[2 * k]'i0) = b
      · have t1 : (bt parS (2 * k) == (b.toNat : Int)) = true := by rw [← hbk, hp]; simp
        by_cases hq : (parS[2 * k + 1]'i1) = c
        · have t2 : (bt parS (2 * k + 1) == (c.toNat : Int)) = true := by rw [← hbk1, hq]; simp
          have hl : bPair b c = 130 + (k : Int) := by rw [← hp, ← hq]; exact parS_at ⟨k, hlt⟩ i0 i1
          have HL := Lib.hid hl
          clear hp hq hl hn
          go_wp2
          go_quiet (fail)
          go_wp2
          go_ret
          exact ⟨by rw [HL.out]; rfl, below_drewN hbel _⟩
        · have t2 : (bt parS (2 * k + 1) == (c.toNat : Int)) = false := by rw [← hbk1]; exact ne_of_toNat hq
          have HS := Lib.hid (nonePair_succ hn hlt (fun h => hq h.2))
          clear hp hq hn
          go_wp2
          go_quiet (fail)
          go_wp2
          go_roundw
          case rel => exact ⟨k + 1, by omega, by go_num, HS.out, below_drewN hbel _⟩
          case measure => simp [intOf]; omega
      · have t1 : (bt parS (2 * k) == (b.toNat : Int)) = false := by rw [← hbk]; exact ne_of_toNat hp
        have HS := Lib.hid (nonePair_succ hn hlt (fun h => hp h.1))
        clear hp hn
        go_wp2
        go_quiet (fail)
        go_wp2
        go_roundw
        case rel => exact ⟨k + 1, by omega, by go_num, HS.out, below_drewN hbel _⟩
        case measure => simp [intOf]; omega
    · have hl : bPair b c = 0 := bPair_no b c (fun j hj _ => hn j hj (by omega))
      have HL := Lib.hid hl
      clear hl hn
      go_wp2
      go_ret
      exact ⟨by rw [HL.out]; rfl, hbel⟩

theorem bm14 (s : ByteArray) (w : World) : Calls Try.prog 14 #[.string s] w fun e w' => e = .returned (.int .u32 (bOp s.toList)) ∧ Below w.heap.size w w' := by
  by_cases h1 : s.toList = [61]
  · have e : bOp s.toList = 87 := by rw [h1]; rfl
    rw [e]
    obtain rfl := of_list s _ h1
    exact bm_c0 w
  by_cases h2 : s.toList = [61, 61]
  · have e : bOp s.toList = 45 := by rw [h2]; rfl
    rw [e]
    obtain rfl := of_list s _ h2
    exact bm_c1 w
  by_cases h3 : s.toList = [33, 61]
  · have e : bOp s.toList = 46 := by rw [h3]; rfl
    rw [e]
    obtain rfl := of_list s _ h3
    exact bm_c2 w
  by_cases h4 : s.toList = [61, 126]
  · have e : bOp s.toList = 129 := by rw [h4]; rfl
    rw [e]
    obtain rfl := of_list s _ h4
    exact bm_c3 w
  by_cases h5 : s.size = 3
  · obtain ⟨a, b, c, rfl⟩ := three s h5
    rw [bOp_three]
    by_cases ha : a = 45
    · subst ha
      rw [if_pos rfl]
      exact bm_dash b c w
    · rw [if_neg ha]
      exact bm_three a b c w ha
  · rw [bOp_len s h5 h1 h2 h3 h4]
    exact bm_sz s w h5 h1 h2 h3 h4

theorem law6 (s : ByteArray) (w : World) (hs : s.size ≤ maxLen) : Calls Try.prog 6 #[.string s] w fun e w' => e = .returned (.bool true) ∧ Below w.heap.size w w' := by
  unfold maxLen at hs
  by_cases h : 1048576 < s.size
  · go_enter Try.func6, Try.ntmps6
    go_wp2
    go_ret
    exact ⟨rfl, Below.refl _ _⟩
  · go_enter Try.func6, Try.ntmps6
    go_wp2_with (first | (go_at_call 20; refine (bi_any _ _).mono ?_; rintro e w' ⟨rfl, rfl⟩) | (go_at_call 14; refine (bm14 _ _).mono ?_; rintro e w' ⟨rfl, hb⟩) | go_in)
    go_ret
    exact ⟨by simp, hb⟩
end Go.Proofs.Ytkegnedapnabiab
