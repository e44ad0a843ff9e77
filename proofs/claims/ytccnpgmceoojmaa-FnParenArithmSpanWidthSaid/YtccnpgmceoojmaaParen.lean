/-
  ParenArithm: Pos is the opening paren, End lies one byte behind the closing one; the span's width: for every value of the four raw fields.
-/
import Derived.Test.YtccnpgmceoojmaaPos
namespace Go.Proofs.Ytccnpgmceoojmaa
open Go.RowKit

theorem mkPos (o l : Int) (w : World) : Calls Try.prog 9 #[.int .u32 o, .int .u32 l] w fun e w' => e = .returned (.agg #[.int .u32 o, .int .u32 l]) ∧ w.alloc (.cells #[.int .u32 o, .int .u32 l] 26) = w' := by
  go_enter Try.func9, Try.ntmps9
  go_wp2
  go_returns
  exact ⟨rfl, rfl⟩
theorem zOffs50 (o l : Int) (w : World) : Calls Try.prog 50 #[.agg #[.int .u32 o, .int .u32 l]] w fun e w' => e = .returned (.int .u32 o) ∧ w.alloc (.cells #[.int .u32 o, .int .u32 l] 26) = w' := by
  go_enter Try.func50, Try.ntmps50
  go_wp2
  go_ret
  exact ⟨rfl, rfl⟩
theorem zLc51 (o l : Int) (w : World) : Calls Try.prog 51 #[.agg #[.int .u32 o, .int .u32 l]] w fun e w' => e = .returned (.int .u32 l) ∧ w.alloc (.cells #[.int .u32 o, .int .u32 l] 26) = w' := by
  go_enter Try.func51, Try.ntmps51
  go_wp2
  go_ret
  exact ⟨rfl, rfl⟩
theorem same13 (o l : Int) (w : World) : Calls Try.prog 13 #[.agg #[.int .u32 o, .int .u32 l], .int .u32 o, .int .u32 l] w fun e w' => e = .returned (.bool true) ∧ ((w.alloc (.cells #[.int .u32 o, .int .u32 l] 26)).alloc (.cells #[.int .u32 o, .int .u32 l] 26)).alloc (.cells #[.int .u32 o, .int .u32 l] 26) = w' := by
  go_enter Try.func13, Try.ntmps13
  go_wp2_with (first | (go_at_call 50; refine (zOffs50 _ _ _).mono ?_; rintro e w' ⟨rfl, rfl⟩) | (go_at_call 51; refine (zLc51 _ _ _).mono ?_; rintro e w' ⟨rfl, rfl⟩))
  go_ret
  exact ⟨rfl, rfl⟩
theorem parPos (b : Nat) (o l : Int) (w : World) (c0 : w.cell? ⟨b, 0, none⟩ = some (.int .u32 o)) (c1 : w.cell? ⟨b, 1, none⟩ = some (.int .u32 l)) :
    Calls Try.prog 18 #[.pointer (some ⟨b, 0, none⟩)] w fun e w' => e = .returned (.agg #[.int .u32 o, .int .u32 l]) ∧ w.alloc (.cells #[.int .u32 o, .int .u32 l] 26) = w' := by
  have hlt := lt_of_cell c0
  go_enter Try.func18, Try.ntmps18
  go_wp2
  go_returns
  exact ⟨rfl, rfl⟩
theorem parEnd (b : Nat) (o l : Int) (w : World) (h0 : 0 ≤ o) (h2 : 0 ≤ l) (h3 : l ≤ 4294967295) (hv : vB o l = true) (c0 : w.cell? ⟨b, 2, none⟩ = some (.int .u32 o)) (c1 : w.cell? ⟨b, 3, none⟩ = some (.int .u32 l)) :
    Calls Try.prog 19 #[.pointer (some ⟨b, 0, none⟩)] w fun e w' => e = .returned (.agg #[.int .u32 (pO o l 1), .int .u32 (pL o l 1)]) ∧ ((((w.alloc (.cells #[.int .u32 (pO o l 1), .int .u32 (pL o l 1)] 26)).alloc (.cells #[.int .u32 (pO o l 1), .int .u32 (pL o l 1)] 26)).alloc (.cells #[.int .u32 (pO o l 1), .int .u32 (pL o l 1)] 26)).alloc (.cells #[.int .u32 o, .int .u32 l] 26)).alloc (.cells #[.int .u32 o, .int .u32 l] 26) = w' := by
  have hlt := lt_of_cell c0
  go_enter Try.func19, Try.ntmps19
  go_wp2_with (go_at_call 49; refine (posAddX _ _ _ _ h0 h2 h3 (by omega) (by omega) hv).mono ?_; rintro e w' ⟨rfl, rfl⟩)
  go_returns
  exact ⟨rfl, rfl⟩
theorem isV17 (o l : Int) (w : World) : Calls Try.prog 17 #[.int .u32 o, .int .u32 l] w fun e w' => e = .returned (.bool (vB o l)) ∧ w = w' := by
  go_enter Try.func17, Try.ntmps17
  go_wp2
  all_goals
    go_ret
    refine ⟨ret_bool ?_, rfl⟩
    simp [vB] at *
    try simp [*]
    try omega
set_option maxHeartbeats 2000000 in
theorem law4 (a b c d : Int) (w : World) (ha : 0 ≤ a ∧ a ≤ 4294967295) (hb : 0 ≤ b ∧ b ≤ 4294967295) (hc : 0 ≤ c ∧ c ≤ 4294967295) (hd : 0 ≤ d ∧ d ≤ 4294967295) : Calls Try.prog 4 #[.int .u32 a, .int .u32 b, .int .u32 c, .int .u32 d] w fun e w' => e = .returned (.bool true) ∧ Below w.heap.size w w' := by
  cases h1 : vB a b with
  | false =>
    go_enter Try.func4, Try.ntmps4
    go_wp2_with (go_at_call 17; refine (isV17 _ _ _).mono ?_; rintro e w' ⟨rfl, rfl⟩)
    all_goals
      go_ret
      exact ⟨rfl, Below.refl _ _⟩
  | true =>
  cases h2 : vB c d with
  | false =>
    go_enter Try.func4, Try.ntmps4
    go_wp2_with (go_at_call 17; refine (isV17 _ _ _).mono ?_; rintro e w' ⟨rfl, rfl⟩)
    all_goals
      go_ret
      exact ⟨rfl, Below.refl _ _⟩
  | true =>
  by_cases h3 : c < a
  · clear ha hb hc hd
    go_enter Try.func4, Try.ntmps4
    go_wp2_with (go_at_call 17; refine (isV17 _ _ _).mono ?_; rintro e w' ⟨rfl, rfl⟩)
    all_goals
      go_ret
      exact ⟨rfl, Below.refl _ _⟩
  by_cases h4 : 4294967284 ≤ c
  · clear ha hb hc hd
    go_enter Try.func4, Try.ntmps4
    go_wp2_with (go_at_call 17; refine (isV17 _ _ _).mono ?_; rintro e w' ⟨rfl, rfl⟩)
    all_goals
      go_ret
      exact ⟨rfl, Below.refl _ _⟩
  have hP : pO c d 1 = c + 1 := by unfold pO; rw [if_pos h2, if_neg (by omega)]
  have bL := pL_bounds c d 1 hd.1 hd.2 (by omega)
  have HP := Lib.hid hP
  have ha2 : aB a b (pO c d 1) = false := by simp [aB, hP]; omega
  clear hP
  go_enter Try.func4, Try.ntmps4
  go_wp2_with (first | (go_at_call 17; refine (isV17 _ _ _).mono ?_; rintro e w' ⟨rfl, rfl⟩) | (go_at_call 9; refine (mkPos _ _ _).mono ?_; rintro e w' ⟨rfl, rfl⟩) | (go_at_call 18; refine (parPos _ a b _ (by simp [go_sem]) (by simp [go_sem])).mono ?_; rintro e w' ⟨rfl, rfl⟩) | (go_at_call 19; refine (parEnd _ c d _ hc.1 hd.1 hd.2 h2 (by simp [go_sem]) (by simp [go_sem])).mono ?_; rintro e w' ⟨rfl, rfl⟩) | (go_at_call 13; refine (same13 _ _ _).mono ?_; rintro e w' ⟨rfl, rfl⟩) | (go_at_call 20; refine (after _ _ _ _ _).mono ?_; rintro e w' ⟨rfl, rfl⟩))
  refine wp_world (fun W => W.cell? ⟨w.heap.size + 1 + 1 + 1 + 1, 0, none⟩ = some (.int .u32 a) ∧ W.cell? ⟨w.heap.size + 1 + 1 + 1 + 1, 1, none⟩ = some (.int .u32 b) ∧ W.cell? ⟨w.heap.size + 1 + 1 + 1 + 1 + 1 + 1 + 1 + 1 + 1 + 1, 0, none⟩ = some (.int .u32 (c + 1)) ∧ W.cell? ⟨w.heap.size + 1 + 1 + 1 + 1 + 1 + 1 + 1 + 1 + 1 + 1, 1, none⟩ = some (.int .u32 (pL c d 1)) ∧ Below w.heap.size w W)
    ⟨by simp [go_sem], by simp [go_sem], by simp [go_sem, HP.out], by simp [go_sem], by go_grown⟩ ?_
  rintro W ⟨s0, s1, s2, s3, BW⟩
  have o1 : oI (c + 1) = c + 1 := by unfold oI; rw [if_neg (by omega)]
  have o2 : oI a = a := by unfold oI; rw [if_neg (by simp [vB] at h1; omega)]
  have h5 : ¬ c + 1 < a := by omega
  have x1 : IntKind.u64.wrap (c + 1 - a) = c + 1 - a := IntWalk.u64_in _ (by omega)
  have x2 : IntKind.u32.wrap (c - a) = c - a := IntWalk.u32_in _ (by omega)
  have x3 : IntKind.u64.wrap (c - a) = c - a := IntWalk.u64_in _ (by omega)
  have x4 : IntKind.u64.wrap (c - a + 1) = c - a + 1 := IntWalk.u64_in _ (by omega)
  have x5 : (c + 1 - a == c - a + 1) = true := by simp; omega
  go_region_held3 (fun W => W.cell? ⟨w.heap.size + 1 + 1 + 1 + 1, 0, none⟩ = some (.int .u32 a) ∧ W.cell? ⟨w.heap.size + 1 + 1 + 1 + 1, 1, none⟩ = some (.int .u32 b) ∧ W.cell? ⟨w.heap.size + 1 + 1 + 1 + 1 + 1 + 1 + 1 + 1 + 1 + 1, 0, none⟩ = some (.int .u32 (c + 1)) ∧ W.cell? ⟨w.heap.size + 1 + 1 + 1 + 1 + 1 + 1 + 1 + 1 + 1 + 1, 1, none⟩ = some (.int .u32 (pL c d 1))) (exact ⟨cell_later (w := W) (by go_grown) s0, cell_later (w := W) (by go_grown) s1, cell_later (w := W) (by go_grown) s2, cell_later (w := W) (by go_grown) s3⟩) (first | (go_at_call 16; refine (offset _ _ _ (by omega) (by omega)).mono ?_; rintro e w' ⟨rfl, rfl⟩))
  go_wp2_with fail
  refine wp_world (fun W' => W'.cell? ⟨w.heap.size + 1 + 1 + 1 + 1, 0, none⟩ = some (.int .u32 a) ∧ W'.cell? ⟨w.heap.size + 1 + 1 + 1 + 1, 1, none⟩ = some (.int .u32 b) ∧ W'.cell? ⟨w.heap.size + 1 + 1 + 1 + 1 + 1 + 1 + 1 + 1 + 1 + 1, 0, none⟩ = some (.int .u32 (c + 1)) ∧ W'.cell? ⟨w.heap.size + 1 + 1 + 1 + 1 + 1 + 1 + 1 + 1 + 1 + 1, 1, none⟩ = some (.int .u32 (pL c d 1)) ∧ Below w.heap.size w W')
    ⟨cell_later (w := W) (by go_grown) s0, cell_later (w := W) (by go_grown) s1, cell_later (w := W) (by go_grown) s2, cell_later (w := W) (by go_grown) s3, Below.trans BW (Below.mono (by go_grown) BW.size)⟩ ?_
  rintro W2 ⟨t0, t1, t2, t3, BW2⟩
  go_region_held3 (fun W => W.cell? ⟨w.heap.size + 1 + 1 + 1 + 1, 0, none⟩ = some (.int .u32 a) ∧ W.cell? ⟨w.heap.size + 1 + 1 + 1 + 1, 1, none⟩ = some (.int .u32 b) ∧ W.cell? ⟨w.heap.size + 1 + 1 + 1 + 1 + 1 + 1 + 1 + 1 + 1 + 1, 0, none⟩ = some (.int .u32 (c + 1)) ∧ W.cell? ⟨w.heap.size + 1 + 1 + 1 + 1 + 1 + 1 + 1 + 1 + 1 + 1, 1, none⟩ = some (.int .u32 (pL c d 1))) (exact ⟨cell_later (w := W2) (by go_grown) t0, cell_later (w := W2) (by go_grown) t1, cell_later (w := W2) (by go_grown) t2, cell_later (w := W2) (by go_grown) t3⟩) (first | (go_at_call 16; refine (offset _ _ _ (by omega) (by omega)).mono ?_; rintro e w' ⟨rfl, rfl⟩))
  go_wp2
  go_ret
  exact ⟨rfl, Below.trans BW2 (Below.mono (by go_grown) BW2.size)⟩
end Go.Proofs.Ytccnpgmceoojmaa
