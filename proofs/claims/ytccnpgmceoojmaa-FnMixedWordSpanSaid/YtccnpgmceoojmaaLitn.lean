/-
  Redirect.Pos, Assign.Pos and Assign.End over a literal, and the case table for the position one byte to the right.
-/
import Derived.Test.YtccnpgmceoojmaaWord
namespace Go.Proofs.Ytccnpgmceoojmaa.litn
open Go.RowKit

theorem mkPos21 (o l : Int) (w : World) : Calls Try.prog 33 #[.int .u32 o, .int .u32 l] w fun e w' => e = .returned (.agg #[.int .u32 o, .int .u32 l]) ∧ w.alloc (.cells #[.int .u32 o, .int .u32 l] 26) = w' := by
  go_enter Try.func33, Try.ntmps33
  go_wp2
  go_returns
  exact ⟨rfl, rfl⟩
theorem zOffs55 (o l : Int) (w : World) : Calls Try.prog 55 #[.agg #[.int .u32 o, .int .u32 l]] w fun e w' => e = .returned (.int .u32 o) ∧ w.alloc (.cells #[.int .u32 o, .int .u32 l] 26) = w' := by
  go_enter Try.func55, Try.ntmps55
  go_wp2
  go_ret
  exact ⟨rfl, rfl⟩
theorem zLc56 (o l : Int) (w : World) : Calls Try.prog 56 #[.agg #[.int .u32 o, .int .u32 l]] w fun e w' => e = .returned (.int .u32 l) ∧ w.alloc (.cells #[.int .u32 o, .int .u32 l] 26) = w' := by
  go_enter Try.func56, Try.ntmps56
  go_wp2
  go_ret
  exact ⟨rfl, rfl⟩
theorem same36 (o l : Int) (w : World) : Calls Try.prog 36 #[.agg #[.int .u32 o, .int .u32 l], .int .u32 o, .int .u32 l] w fun e w' => e = .returned (.bool true) ∧ ((w.alloc (.cells #[.int .u32 o, .int .u32 l] 26)).alloc (.cells #[.int .u32 o, .int .u32 l] 26)).alloc (.cells #[.int .u32 o, .int .u32 l] 26) = w' := by
  go_enter Try.func36, Try.ntmps36
  go_wp2_with (first | (go_at_call 55; refine (zOffs55 _ _ _).mono ?_; rintro e w' ⟨rfl, rfl⟩) | (go_at_call 56; refine (zLc56 _ _ _).mono ?_; rintro e w' ⟨rfl, rfl⟩))
  go_ret
  exact ⟨rfl, rfl⟩
theorem litPosX (b : Nat) (o l : Int) (w : World) (c0 : w.cell? ⟨b, 0, none⟩ = some (.int .u32 o)) (c1 : w.cell? ⟨b, 1, none⟩ = some (.int .u32 l)) :
    Calls Try.prog 35 #[.pointer (some ⟨b, 0, none⟩)] w fun e w' => e = .returned (.agg #[.int .u32 o, .int .u32 l]) ∧ w.alloc (.cells #[.int .u32 o, .int .u32 l] 26) = w' := by
  have hlt := lt_of_cell c0
  go_enter Try.func35, Try.ntmps35
  go_wp2
  go_returns
  exact ⟨rfl, rfl⟩
theorem redPosN (b lb : Nat) (o l : Int) (w : World) (cn : w.cell? ⟨b, 3, none⟩ = some (.pointer (some ⟨lb, 0, none⟩))) (c0 : w.cell? ⟨lb, 0, none⟩ = some (.int .u32 o)) (c1 : w.cell? ⟨lb, 1, none⟩ = some (.int .u32 l)) : Calls Try.prog 34 #[.pointer (some ⟨b, 0, none⟩)] w fun e w' => e = .returned (.agg #[.int .u32 o, .int .u32 l]) ∧ (w.alloc (.cells #[.int .u32 o, .int .u32 l] 26)).alloc (.cells #[.int .u32 o, .int .u32 l] 26) = w' := by
  have hl0 := lt_of_cell cn
  have hl1 := lt_of_cell c0
  go_enter Try.func34, Try.ntmps34
  go_wp2_with (go_at_call 35; refine (litPosX _ o l _ (cell_later (by go_grown) c0) (cell_later (by go_grown) c1)).mono ?_; rintro e w' ⟨rfl, rfl⟩)
  go_returns
  exact ⟨rfl, rfl⟩
theorem redPos0 (b : Nat) (o l : Int) (w : World) (cn : w.cell? ⟨b, 3, none⟩ = some (.pointer none)) (c0 : w.cell? ⟨b, 0, none⟩ = some (.int .u32 o)) (c1 : w.cell? ⟨b, 1, none⟩ = some (.int .u32 l)) : Calls Try.prog 34 #[.pointer (some ⟨b, 0, none⟩)] w fun e w' => e = .returned (.agg #[.int .u32 o, .int .u32 l]) ∧ w.alloc (.cells #[.int .u32 o, .int .u32 l] 26) = w' := by
  have hl0 := lt_of_cell cn
  go_enter Try.func34, Try.ntmps34
  go_wp2_with fail
  go_returns
  exact ⟨rfl, rfl⟩
theorem asPos (b lb : Nat) (o l : Int) (w : World) (cn : w.cell? ⟨b, 2, none⟩ = some (.pointer (some ⟨lb, 0, none⟩))) (c0 : w.cell? ⟨lb, 0, none⟩ = some (.int .u32 o)) (c1 : w.cell? ⟨lb, 1, none⟩ = some (.int .u32 l)) : Calls Try.prog 37 #[.pointer (some ⟨b, 0, none⟩)] w fun e w' => e = .returned (.agg #[.int .u32 o, .int .u32 l]) ∧ (w.alloc (.cells #[.int .u32 o, .int .u32 l] 26)).alloc (.cells #[.int .u32 o, .int .u32 l] 26) = w' := by
  have hl0 := lt_of_cell cn
  have hl1 := lt_of_cell c0
  go_enter Try.func37, Try.ntmps37
  go_wp2_with (go_at_call 35; refine (litPosX _ o l _ (cell_later (by go_grown) c0) (cell_later (by go_grown) c1)).mono ?_; rintro e w' ⟨rfl, rfl⟩)
  go_returns
  exact ⟨rfl, rfl⟩
theorem asEndK (b lb : Nat) (o l : Int) (w : World) (cv : w.cell? ⟨b, 4, none⟩ = some (.pointer none)) (ca : w.cell? ⟨b, 5, none⟩ = some (.pointer none)) (ci : w.cell? ⟨b, 3, none⟩ = some .nilIface) (ck : w.cell? ⟨b, 1, none⟩ = some (.bool true)) (cn : w.cell? ⟨b, 2, none⟩ = some (.pointer (some ⟨lb, 0, none⟩))) (c0 : w.cell? ⟨lb, 2, none⟩ = some (.int .u32 o)) (c1 : w.cell? ⟨lb, 3, none⟩ = some (.int .u32 l)) : Calls Try.prog 38 #[.pointer (some ⟨b, 0, none⟩)] w fun e w' => e = .returned (.agg #[.int .u32 o, .int .u32 l]) ∧ (w.alloc (.cells #[.int .u32 o, .int .u32 l] 26)).alloc (.cells #[.int .u32 o, .int .u32 l] 26) = w' := by
  have hl0 := lt_of_cell cn
  have hl1 := lt_of_cell c0
  go_enter Try.func38, Try.ntmps38
  go_wp2_with (go_at_call 39; refine (litEnd _ o l _ (cell_later (by go_grown) c0) (cell_later (by go_grown) c1)).mono ?_; rintro e w' ⟨rfl, rfl⟩)
  go_returns
  exact ⟨rfl, rfl⟩
theorem asEndY (b lb : Nat) (o l : Int) (w : World) (h0 : 0 ≤ o) (h2 : 0 ≤ l) (h3 : l ≤ 4294967295) (hv : vB o l = true) (cv : w.cell? ⟨b, 4, none⟩ = some (.pointer none)) (ca : w.cell? ⟨b, 5, none⟩ = some (.pointer none)) (ci : w.cell? ⟨b, 3, none⟩ = some .nilIface) (ck : w.cell? ⟨b, 1, none⟩ = some (.bool false)) (cn : w.cell? ⟨b, 2, none⟩ = some (.pointer (some ⟨lb, 0, none⟩))) (c0 : w.cell? ⟨lb, 2, none⟩ = some (.int .u32 o)) (c1 : w.cell? ⟨lb, 3, none⟩ = some (.int .u32 l)) : Calls Try.prog 38 #[.pointer (some ⟨b, 0, none⟩)] w fun e w' => e = .returned (.agg #[.int .u32 (pO o l 1), .int .u32 (pL o l 1)]) ∧ (((((w.alloc (.cells #[.int .u32 (pO o l 1), .int .u32 (pL o l 1)] 26)).alloc (.cells #[.int .u32 o, .int .u32 l] 26)).alloc (.cells #[.int .u32 (pO o l 1), .int .u32 (pL o l 1)] 26)).alloc (.cells #[.int .u32 (pO o l 1), .int .u32 (pL o l 1)] 26)).alloc (.cells #[.int .u32 o, .int .u32 l] 26)).alloc (.cells #[.int .u32 o, .int .u32 l] 26) = w' := by
  have hl0 := lt_of_cell cn
  have hl1 := lt_of_cell c0
  go_enter Try.func38, Try.ntmps38
  go_wp2_with (first | (go_at_call 39; refine (litEnd _ o l _ (cell_later (by go_grown) c0) (cell_later (by go_grown) c1)).mono ?_; rintro e w' ⟨rfl, rfl⟩) | (go_at_call 49; refine (posAddX _ _ _ _ h0 h2 h3 (by omega) (by omega) hv).mono ?_; rintro e w' ⟨rfl, rfl⟩))
  go_returns
  exact ⟨rfl, rfl⟩
theorem asEndN (b lb : Nat) (o l : Int) (w : World) (h0 : 0 ≤ o) (h2 : 0 ≤ l) (h3 : l ≤ 4294967295) (hv : vB o l = false) (cv : w.cell? ⟨b, 4, none⟩ = some (.pointer none)) (ca : w.cell? ⟨b, 5, none⟩ = some (.pointer none)) (ci : w.cell? ⟨b, 3, none⟩ = some .nilIface) (ck : w.cell? ⟨b, 1, none⟩ = some (.bool false)) (cn : w.cell? ⟨b, 2, none⟩ = some (.pointer (some ⟨lb, 0, none⟩))) (c0 : w.cell? ⟨lb, 2, none⟩ = some (.int .u32 o)) (c1 : w.cell? ⟨lb, 3, none⟩ = some (.int .u32 l)) : Calls Try.prog 38 #[.pointer (some ⟨b, 0, none⟩)] w fun e w' => e = .returned (.agg #[.int .u32 o, .int .u32 l]) ∧ ((((w.alloc (.cells #[.int .u32 o, .int .u32 l] 26)).alloc (.cells #[.int .u32 o, .int .u32 l] 26)).alloc (.cells #[.int .u32 o, .int .u32 l] 26)).alloc (.cells #[.int .u32 o, .int .u32 l] 26)).alloc (.cells #[.int .u32 o, .int .u32 l] 26) = w' := by
  have hl0 := lt_of_cell cn
  have hl1 := lt_of_cell c0
  go_enter Try.func38, Try.ntmps38
  go_wp2_with (first | (go_at_call 39; refine (litEnd _ o l _ (cell_later (by go_grown) c0) (cell_later (by go_grown) c1)).mono ?_; rintro e w' ⟨rfl, rfl⟩) | (go_at_call 49; refine (posAdd_no _ _ _ _ hv).mono ?_; rintro e w' ⟨rfl, rfl⟩))
  go_returns
  exact ⟨rfl, rfl⟩

theorem mNextN (o l : Int) (w : World) (hv : vB o l = false) : Calls Try.prog 40 #[.int .u32 o, .int .u32 l] w fun e w' => e = .returned (.tuple #[.int .u32 o, .int .u32 l]) ∧ w = w' := by
  by_cases h1 : 4294967284 < o
  · go_enter Try.func40, Try.ntmps40
    go_wp2
    go_ret2
    exact ⟨rfl, rfl⟩
  · have h2 : (l == 0) = true := by simp [vB] at hv; simp; omega
    go_enter Try.func40, Try.ntmps40
    go_wp2
    go_ret2
    exact ⟨rfl, rfl⟩
theorem mNextY (o l : Int) (w : World) (h0 : 0 ≤ o) (h2 : 0 ≤ l) (h3 : l ≤ 4294967295) (hv : vB o l = true) : Calls Try.prog 40 #[.int .u32 o, .int .u32 l] w fun e w' => e = .returned (.tuple #[.int .u32 (pO o l 1), .int .u32 (pL o l 1)]) ∧ w = w' := by
  have g1 : ¬ 4294967284 < o := by simp [vB] at hv; omega
  have g2 : (l == 0) = false := by simp [vB] at hv; simp; omega
  have m1 := and_col l h2 h3
  have HO := Lib.hid (show pO o l 1 = if 4294967284 < o + 1 then 4294967284 else o + 1 by unfold pO; rw [if_pos hv])
  have HL := Lib.hid (show pL o l 1 = l - l % 16384 + pC l 1 by unfold pL; rw [if_pos hv])
  clear hv
  by_cases g3 : o < 4294967284
  all_goals
    by_cases g4 : l % 16384 = 0
    · have g4b : (l % 16384 != 0) = false := by simp [g4]
      have HC := Lib.hid (show pC l 1 = 0 by unfold pC; rw [if_neg (by omega)])
      clear g4
      go_enter Try.func40, Try.ntmps40
      go_wp2
      go_ret2
      refine ⟨?_, rfl⟩
      rw [HO.out, HL.out, HC.out]
      first | (rw [if_neg (by omega)]; simp; done) | (rw [if_pos (by omega)]; simp; omega)
    · have g4b : (l % 16384 != 0) = true := by simp [g4]
      by_cases g5 : l % 16384 = 16383
      · have g5b : (l % 16384 != 16383) = false := by simp [g5]
        have HC := Lib.hid (show pC l 1 = 0 by unfold pC; rw [if_neg (by omega)])
        clear g4 g5
        go_enter Try.func40, Try.ntmps40
        go_wp2
        go_ret2
        refine ⟨?_, rfl⟩
        rw [HO.out, HL.out, HC.out]
        first | (rw [if_neg (by omega)]; simp; done) | (rw [if_pos (by omega)]; simp; omega)
      · have g5b : (l % 16384 != 16383) = true := by simp [g5]
        have HC := Lib.hid (show pC l 1 = l % 16384 + 1 by unfold pC; rw [if_pos (by omega)])
        have g6 : l % 16384 < 16383 := by omega
        clear g4 g5
        go_enter Try.func40, Try.ntmps40
        go_wp2
        go_ret2
        refine ⟨?_, rfl⟩
        rw [HO.out, HL.out, HC.out]
        first | (rw [if_neg (by omega)]; simp; done) | (rw [if_pos (by omega)]; simp; omega)
end Go.Proofs.Ytccnpgmceoojmaa.litn
