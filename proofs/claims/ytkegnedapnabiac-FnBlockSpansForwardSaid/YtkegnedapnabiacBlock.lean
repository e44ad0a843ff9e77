/-
  A Block with Lbrace not after Rbrace, Rbrace on a known line and below the greatest offset, ends strictly after it starts, on Rbrace's line, one byte behind it: for every value of the four raw fields.
-/
import Derived.Test.YtkegnedapnabiacPos
import Derived.Deep.RegionHeld3
import Derived.StillTailTactics
namespace Go.Proofs.Ytkegnedapnabiac
open Go.RowKit

theorem mkPos (o l : Int) (w : World) : Calls Try.prog 11 #[.int .u32 o, .int .u32 l] w fun e w' => e = .returned (.agg #[.int .u32 o, .int .u32 l]) ∧ w.alloc (.cells #[.int .u32 o, .int .u32 l] 35) = w' := by
  go_enter Try.func11, Try.ntmps11
  go_wp2
  go_returns
  exact ⟨rfl, rfl⟩

def rB (o l : Int) : Bool := decide (o ≤ 4294967284) || (decide (o = 4294967285) && decide (l = 0))
theorem reach (o l : Int) (w : World) : Calls Try.prog 10 #[.int .u32 o, .int .u32 l] w fun e w' => e = .returned (.bool (rB o l)) ∧ w = w' := by
  go_enter Try.func10, Try.ntmps10
  go_wp2
  all_goals
    go_ret
    refine ⟨ret_bool ?_, rfl⟩
    rw [Bool.eq_iff_iff]
    simp [rB] at *
    try omega

theorem blockEnd (b : Nat) (o l : Int) (w : World) (h0 : 0 ≤ o) (h2 : 0 ≤ l) (h3 : l ≤ 4294967295) (c2 : w.cell? ⟨b, 2, none⟩ = some (.int .u32 o)) (c3 : w.cell? ⟨b, 3, none⟩ = some (.int .u32 l)) :
    Calls Try.prog 12 #[.pointer (some ⟨b, 0, none⟩)] w fun e w' => e = .returned (.agg #[.int .u32 (pO o l 1), .int .u32 (pL o l 1)]) ∧ Below w.heap.size w w' := by
  have hlt := lt_of_cell c2
  have hne : b ≠ w.heap.size := by omega
  go_enter Try.func12, Try.ntmps12
  go_wp2_with fail
  refine (posAdd _ _ _ _ h0 h2 h3 (by omega) (by omega)).mono ?_
  rintro e w1 ⟨rfl, hb⟩
  obtain ⟨hc, hf⟩ := bcell hb
  have hz : w.heap.size < w1.heap.size := by have := hb.size; simp at this; omega
  go_wp2
  refine bodyPost_ret (v := .agg #[.int .u32 (pO o l 1), .int .u32 (pL o l 1)]) (by simp [results, Try.results12, go_sem, hc, hz]) rfl ⟨rfl, ?_⟩
  exact (((((Below.refl _ _).alloc (Nat.le_refl _) _).trans (hb.mono (by simp))).setCell (by simp) _).setCell (by simp) _)

theorem blockPos (b : Nat) (o l : Int) (w : World) (c0 : w.cell? ⟨b, 0, none⟩ = some (.int .u32 o)) (c1 : w.cell? ⟨b, 1, none⟩ = some (.int .u32 l)) :
    Calls Try.prog 13 #[.pointer (some ⟨b, 0, none⟩)] w fun e w' => e = .returned (.agg #[.int .u32 o, .int .u32 l]) ∧ w.alloc (.cells #[.int .u32 o, .int .u32 l] 35) = w' := by
  have hlt := lt_of_cell c0
  go_enter Try.func13, Try.ntmps13
  go_wp2
  go_returns
  exact ⟨rfl, rfl⟩

set_option maxHeartbeats 2000000 in
theorem law4 (a b c d : Int) (w : World) (ha : 0 ≤ a ∧ a ≤ 4294967295) (hb : 0 ≤ b ∧ b ≤ 4294967295) (hc : 0 ≤ c ∧ c ≤ 4294967295) (hd : 0 ≤ d ∧ d ≤ 4294967295) : Calls Try.prog 4 #[.int .u32 a, .int .u32 b, .int .u32 c, .int .u32 d] w fun e w' => e = .returned (.bool true) ∧ Below w.heap.size w w' := by
  cases h1 : rB a b with
  | false =>
    go_enter Try.func4, Try.ntmps4
    go_wp2_with (go_at_call 10; refine (reach _ _ _).mono ?_; rintro e w' ⟨rfl, rfl⟩)
    go_ret
    exact ⟨rfl, Below.refl _ _⟩
  | true =>
    cases h2 : rB c d with
    | false =>
      go_enter Try.func4, Try.ntmps4
      go_wp2_with (go_at_call 10; refine (reach _ _ _).mono ?_; rintro e w' ⟨rfl, rfl⟩)
      go_ret
      exact ⟨rfl, Below.refl _ _⟩
    | true =>
      by_cases h3 : 4294967284 ≤ c
      · go_enter Try.func4, Try.ntmps4
        go_wp2_with (go_at_call 10; refine (reach _ _ _).mono ?_; rintro e w' ⟨rfl, rfl⟩)
        all_goals
          go_ret
          exact ⟨rfl, Below.refl _ _⟩
      by_cases h4 : d / 16384 = 0
      · have t4 : (d / 16384 == 0) = true := by simp; omega
        clear h4
        go_enter Try.func4, Try.ntmps4
        go_wp2_with (go_at_call 10; refine (reach _ _ _).mono ?_; rintro e w' ⟨rfl, rfl⟩)
        all_goals
          go_ret
          exact ⟨rfl, Below.refl _ _⟩
      by_cases h5 : c < a
      · have t4 : (d / 16384 == 0) = false := by simp; omega
        clear h4
        go_enter Try.func4, Try.ntmps4
        go_wp2_with (go_at_call 10; refine (reach _ _ _).mono ?_; rintro e w' ⟨rfl, rfl⟩)
        all_goals
          go_ret
          exact ⟨rfl, Below.refl _ _⟩
      have t4 : (d / 16384 == 0) = false := by simp; omega
      have h4' : 0 < d / 16384 := by omega
      clear h4
      go_enter Try.func4, Try.ntmps4
      go_wp2_with (first | (go_at_call 10; refine (reach _ _ _).mono ?_; rintro e w' ⟨rfl, rfl⟩) | (go_at_call 11; refine (mkPos _ _ _).mono ?_; rintro e w' ⟨rfl, rfl⟩))
      go_region_held3 (fun w' => w'.cell? ⟨w.heap.size + 1, 0, none⟩ = some (.int .u32 c) ∧ w'.cell? ⟨w.heap.size + 1, 1, none⟩ = some (.int .u32 d)) (go_keep) (first | (go_at_call 11; refine (mkPos _ _ _).mono ?_; rintro e w' ⟨rfl, rfl⟩))
      go_wp2_with fail
      refine (blockEnd _ c d _ hc.1 hd.1 hd.2 (by simp [go_sem]) (by simp [go_sem])).mono ?_
      rintro e w1 ⟨rfl, hb1⟩
      have k0 : w1.cell? ⟨w.heap.size + 1 + 1 + 1, 0, none⟩ = some (.int .u32 a) := by rw [hb1.cell (by simp)]; simp [go_sem]
      have k1 : w1.cell? ⟨w.heap.size + 1 + 1 + 1, 1, none⟩ = some (.int .u32 b) := by rw [hb1.cell (by simp)]; simp [go_sem]
      have k2 : w1.cell? ⟨w.heap.size + 1, 0, none⟩ = some (.int .u32 c) := by rw [hb1.cell (by simp)]; simp [go_sem]
      have k3 : w1.cell? ⟨w.heap.size + 1, 1, none⟩ = some (.int .u32 d) := by rw [hb1.cell (by simp)]; simp [go_sem]
      have hz := lt_of_cell k0
      have hz2 := lt_of_cell k2
      have B1 : Below w.heap.size w w1 := Below.trans (by go_grown) (hb1.mono (by simp; omega))
      clear hb1
      go_wp2_with fail
      refine (blockPos _ a b _ (by simp [go_sem, k0, hz]) (by simp [go_sem, k1, hz])).mono ?_
      rintro e w2 ⟨rfl, rfl⟩
      go_wp2_with fail
      have bP := pO_bounds c d 1 hc.1 hc.2 (by omega)
      have bL := pL_bounds c d 1 hd.1 hd.2 (by omega)
      have hP : pO c d 1 = c + 1 := by unfold pO; rw [if_pos (by simp [vB]; omega), if_neg (by omega)]
      have hL : pL c d 1 / 16384 = d / 16384 := by unfold pL pC; rw [if_pos (by simp [vB]; omega)]; split <;> omega
      generalize pO c d 1 = P at *
      generalize pL c d 1 = L at *
      have hv : vB P L = true := by simp [vB]; omega
      have ha1 : aB P L a = true := by simp [aB, hv]; omega
      have ha2 : aB a b P = false := by simp [aB]; omega
      have hl : (L / 16384 == d / 16384) = true := by simp [hL]
      have o1 : oI P = P := by unfold oI; rw [if_neg (by omega)]
      have o2 : oI c = c := by unfold oI; rw [if_neg (by omega)]
      have o3 : IntKind.u64.wrap (c + 1) = c + 1 := IntWalk.u64_in _ (by omega)
      have ho : (P == c + 1) = true := by simp [hP]
      clear hP hL
      refine wp_world (fun W => W.cell? ⟨w1.heap.size, 0, none⟩ = some (.int .u32 P) ∧ W.cell? ⟨w1.heap.size, 1, none⟩ = some (.int .u32 L) ∧ W.cell? ⟨w1.heap.size + 1 + 1, 0, none⟩ = some (.int .u32 a) ∧ W.cell? ⟨w1.heap.size + 1 + 1, 1, none⟩ = some (.int .u32 b) ∧ W.cell? ⟨w.heap.size + 1, 0, none⟩ = some (.int .u32 c) ∧ W.cell? ⟨w.heap.size + 1, 1, none⟩ = some (.int .u32 d) ∧ Below w.heap.size w W)
        ⟨by simp [go_sem], by simp [go_sem], by simp [go_sem], by simp [go_sem], cell_later (by go_grown) k2, cell_later (by go_grown) k3, Below.trans B1 (by go_grown)⟩ ?_
      rintro W ⟨s0, s1, s2, s3, s4, s5, BW⟩
      clear B1 k0 k1 k2 k3
      go_region_held3 (fun w' => w'.cell? ⟨w1.heap.size, 0, none⟩ = some (.int .u32 P) ∧ w'.cell? ⟨w1.heap.size, 1, none⟩ = some (.int .u32 L) ∧ w'.cell? ⟨w1.heap.size + 1 + 1, 0, none⟩ = some (.int .u32 a) ∧ w'.cell? ⟨w1.heap.size + 1 + 1, 1, none⟩ = some (.int .u32 b) ∧ w'.cell? ⟨w.heap.size + 1, 0, none⟩ = some (.int .u32 c) ∧ w'.cell? ⟨w.heap.size + 1, 1, none⟩ = some (.int .u32 d)) (exact ⟨cell_later (w := W) (by go_grown) s0, cell_later (w := W) (by go_grown) s1, cell_later (w := W) (by go_grown) s2, cell_later (w := W) (by go_grown) s3, cell_later (w := W) (by go_grown) s4, cell_later (w := W) (by go_grown) s5⟩) (first | (go_at_call 14; refine (isValid _ _ _).mono ?_; rintro e w' ⟨rfl, rfl⟩) | (go_at_call 15; refine (after _ _ _ _ _).mono ?_; rintro e w' ⟨rfl, rfl⟩) | (go_at_call 16; refine (line _ _ _ (by omega) (by omega)).mono ?_; rintro e w' ⟨rfl, rfl⟩) | (go_at_call 17; refine (offset _ _ _ (by omega) (by omega)).mono ?_; rintro e w' ⟨rfl, rfl⟩))
      go_wp2
      go_ret
      exact ⟨rfl, Below.trans BW (Below.mono (w := W) (by go_grown) BW.size)⟩
end Go.Proofs.Ytkegnedapnabiac
