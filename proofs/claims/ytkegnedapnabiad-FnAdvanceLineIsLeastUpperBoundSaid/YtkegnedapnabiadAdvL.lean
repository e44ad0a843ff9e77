/-
  The printer's line after advanceLine over a script of lines is the least upper bound of the start and all the lines: for every script.
-/
import Derived.Test.YtkegnedapnabiadAdv
namespace Go.Proofs.Ytkegnedapnabiad.adv
open Go.RowKit

def RowAt (K : IntKind) (w : World) (g len : Nat) (zs : List Int) : Prop := ∀ i, i < len → w.cell? ⟨g, i, none⟩ = some (.int K (zs.getD i 0))
theorem RowAt.later {K : IntKind} {w wx : World} {g len : Nat} {zs : List Int} (h : RowAt K w g len zs) (hb : Below w.heap.size w wx) : RowAt K wx g len zs := fun i hi => cell_later hb (h i hi)
theorem RowAt.copy (K : IntKind) (w : World) (E len : Nat) (zs : List Int) : RowAt K (w.alloc (.cells (cpL K zs len len) E)) w.heap.size len zs := fun i hi => by
  rw [cell_new, cpL_get K zs len len i hi]
  simp [hi]
def Lub (s : Int) (zs : List Int) (k : Nat) (c : Int) : Prop := s ≤ c ∧ (∀ i, i < k → zs.getD i 0 ≤ c) ∧ (c = s ∨ ∃ i, i < k ∧ c = zs.getD i 0)
theorem Lub.zero (s : Int) (zs : List Int) : Lub s zs 0 s := ⟨Int.le_refl _, fun i h => absurd h (by omega), .inl rfl⟩
theorem Lub.succ {s c : Int} {zs : List Int} {k : Nat} (h : Lub s zs k c) : Lub s zs (k + 1) (mx c (zs.getD k 0)) := by
  obtain ⟨h1, h2, h3⟩ := h
  unfold mx
  split
  · refine ⟨by omega, fun i hi => ?_, .inr ⟨k, by omega, rfl⟩⟩
    by_cases e : i = k
    · subst e; exact Int.le_refl _
    · have := h2 i (by omega); omega
  · refine ⟨h1, fun i hi => ?_, ?_⟩
    · by_cases e : i = k
      · subst e; omega
      · exact h2 i (by omega)
    · rcases h3 with h3 | ⟨i, hi, h3⟩
      · exact .inl h3
      · exact .inr ⟨i, by omega, h3⟩
/-- Whether c is the start or one of the first k lines. -/
def Att (s : Int) (zs : List Int) (k : Nat) (c : Int) (t : Bool) : Prop := t = true ↔ (c = s ∨ ∃ i, i < k ∧ c = zs.getD i 0)

set_option maxHeartbeats 1000000 in
theorem law_pos (s : Int) (b off len cap : Nat) (zs : List Int) (w : World) (hl : 0 < len) (hm : len ≤ 65536) (hc : ∀ i, i < len → w.cell? ⟨b, off + i, none⟩ = some (.int .u64 (zs.getD i 0))) :
    Calls Try.prog 4 #[.int .u64 s, .slice (some ⟨b, off, none⟩) len cap] w fun e w' => e = .returned (.bool true) ∧ Below w.heap.size w w' := by
  have HC := Lib.hid hc
  clear hc
  have g1 : ¬ (65536 : Int) < (len : Int) := by omega
  have g2 : ¬ (1048576 : Int) < (len : Int) := by omega
  go_enter Try.func4, Try.ntmps4
  go_wp2_with (first | (go_at_call 11; refine (cp_pos b off len cap zs _ hl (by omega) HC.out).mono ?_; rintro e w' ⟨rfl, rfl⟩) | go_in)
  go_loopw [5, 6] (fun c i wr => ∃ (k : Nat) (x : Int), k ≤ len ∧ i = .int .i64 k ∧ c = .int .u64 x ∧ Lub s zs k x ∧ RowAt .u64 wr w.heap.size len zs ∧ Below w.heap.size w wr) (fun _ i _ => len - (intOf i).toNat)
  case atStart => exact ⟨0, s, by omega, rfl, rfl, Lub.zero s zs, RowAt.copy .u64 w 41 len zs, by go_grown⟩
  case round =>
    obtain ⟨k, x, hk, rfl, rfl, hL, hR, BW⟩ := hrel
    have HL := Lib.hid hL
    have HR := Lib.hid hR
    clear hL hR
    by_cases hkl : k < len
    · have c1 := HR.out k hkl
      have HS := Lib.hid HL.out.succ
      generalize zs.getD k 0 = z at *
      go_wp2_with (go_at_call 12; refine (adv12 _ _ _).mono ?_; rintro e w' ⟨rfl, hb⟩)
      go_roundw
      case rel => exact ⟨k + 1, mx x z, by omega, by go_num, rfl, HS.out, HR.out.later hb, Below.trans BW (Below.mono hb BW.size)⟩
      case measure => simp [intOf]; omega
    · obtain rfl : k = len := by omega
      have g3 : ¬ x < s := by have := HL.out.1; omega
      have hA : Att s zs 0 x (x == s) := by
        unfold Att
        constructor
        · intro h
          exact .inl (by simpa using h)
        · rintro (h | ⟨i, hi, _⟩)
          · simpa using h
          · omega
      have HA := Lib.hid hA
      clear hA
      go_wp2
      go_loop [7, 8] (fun a i => ∃ (j : Nat) (t : Bool), j ≤ k ∧ i = .int .i64 j ∧ a = .bool t ∧ Att s zs j x t) (fun _ i => k - (intOf i).toNat)
      case atStart => exact ⟨0, (x == s), by omega, rfl, rfl, HA.out⟩
      case round =>
        obtain ⟨j, t, hj, rfl, rfl, hT⟩ := hrel
        have HT := Lib.hid hT
        clear hT
        by_cases hjk : j < k
        · have c1 := HR.out j hjk
          have l1 := HL.out.2.1 j hjk
          by_cases he : x = zs.getD j 0
          · have HN := Lib.hid (show Att s zs (j + 1) x true from ⟨fun _ => .inr ⟨j, by omega, he⟩, fun _ => rfl⟩)
            have e1 : (x == zs.getD j 0) = true := by simpa using he
            clear he
            generalize zs.getD j 0 = z at *
            have l2 : ¬ x < z := by omega
            go_wp2
            go_round
            case rel => exact ⟨j + 1, true, by omega, by go_num, rfl, HN.out⟩
            case measure => simp [intOf]; omega
          · have HN := Lib.hid (show Att s zs (j + 1) x t from by
              have h := HT.out
              unfold Att at h ⊢
              rw [h]
              constructor
              · rintro (h1 | ⟨i, hi, h1⟩)
                · exact .inl h1
                · exact .inr ⟨i, by omega, h1⟩
              · rintro (h1 | ⟨i, hi, h1⟩)
                · exact .inl h1
                · by_cases e : i = j
                  · subst e; exact absurd h1 he
                  · exact .inr ⟨i, by omega, h1⟩)
            have e1 : (x == zs.getD j 0) = false := by simpa using he
            clear he
            generalize zs.getD j 0 = z at *
            have l2 : ¬ x < z := by omega
            go_wp2
            go_round
            case rel => exact ⟨j + 1, t, by omega, by go_num, rfl, HN.out⟩
            case measure => simp [intOf]; omega
        · obtain rfl : j = k := by omega
          have ht : t = true := HT.out.2 HL.out.2.2
          subst ht
          go_wp2
          go_ret
          exact ⟨rfl, BW⟩

theorem law_zero (s : Int) (a : Option Addr) (cap : Nat) (w : World) (h : a = none → cap = 0) :
    Calls Try.prog 4 #[.int .u64 s, .slice a 0 cap] w fun e w' => e = .returned (.bool true) ∧ Below w.heap.size w w' := by
  cases a with
  | none =>
    obtain rfl := h rfl
    go_enter Try.func4, Try.ntmps4
    go_wp2_with (first | (go_at_call 11; refine (cp_nil _).mono ?_; rintro e w' ⟨rfl, rfl⟩) | go_in)
    refine wp_loop_rounds 1 ?_
    rw [rounds_succ]
    go_wp2
    refine wp_loop_rounds 1 ?_
    rw [rounds_succ]
    go_wp2
    go_ret
    exact ⟨rfl, by go_grown⟩
  | some x =>
    clear h
    go_enter Try.func4, Try.ntmps4
    go_wp2_with (first | (go_at_call 11; refine (cp_zero x cap [] _).mono ?_; rintro e w' ⟨rfl, rfl⟩) | go_in)
    refine wp_loop_rounds 1 ?_
    rw [rounds_succ]
    go_wp2
    refine wp_loop_rounds 1 ?_
    rw [rounds_succ]
    go_wp2
    go_ret
    exact ⟨rfl, by go_grown⟩

theorem law4 (s : Int) (a : Option Addr) (len cap : Nat) (zs : List Int) (w : World) (h : IsRowB .u64 w a len cap zs) :
    Calls Try.prog 4 #[.int .u64 s, .slice a len cap] w fun e w' => e = .returned (.bool true) ∧ Below w.heap.size w w' := by
  by_cases hb : 65536 < len
  · rcases h with ⟨rfl, rfl, rfl, rfl⟩ | ⟨x, rfl, hl, hm, hz, hcell, hwz⟩
    · omega
    · unfold maxLen at hm
      have g1 : (65536 : Int) < (len : Int) := by omega
      have g3 : (len : Int) ≤ 9223372036854775807 := by omega
      clear hcell hwz hz
      by_cases g2 : (1048576 : Int) < (len : Int)
      · go_enter Try.func4, Try.ntmps4
        go_wp2
        go_ret
        exact ⟨rfl, Below.refl _ _⟩
      · go_enter Try.func4, Try.ntmps4
        go_wp2
        go_ret
        exact ⟨rfl, Below.refl _ _⟩
  by_cases h0 : len = 0
  · subst h0
    refine law_zero s a cap w ?_
    rcases h with ⟨rfl, _, rfl, rfl⟩ | ⟨x, rfl, hl, hm, hz, hcell, hwz⟩
    · exact fun _ => rfl
    · intro h; cases h
  · rcases h with ⟨rfl, rfl, rfl, rfl⟩ | ⟨x, rfl, hl, hm, hz, hcell, hwz⟩
    · omega
    · obtain ⟨b, off, rfl, hc⟩ := row_at hcell (by omega)
      exact law_pos s b off len cap zs w (by omega) (by omega) (fun i hi => hc i (by omega))
end Go.Proofs.Ytkegnedapnabiad.adv
