/-
  CaseClause: Pos is the case position, End lies behind the closing keyword; the span in bytes and in columns: for every value of the raw fields.
-/
import Derived.Test.YtccnpgmceoojmabPos
namespace Go.Proofs.Ytccnpgmceoojmab
open Go.RowKit

theorem mkPos (o l : Int) (w : World) : Calls Try.prog 10 #[.int .u32 o, .int .u32 l] w fun e w' => e = .returned (.agg #[.int .u32 o, .int .u32 l]) ∧ w.alloc (.cells #[.int .u32 o, .int .u32 l] 25) = w' := by
  go_enter Try.func10, Try.ntmps10
  go_wp2
  go_returns
  exact ⟨rfl, rfl⟩
theorem casePos (b : Nat) (o l : Int) (w : World) (c0 : w.cell? ⟨b, 0, none⟩ = some (.int .u32 o)) (c1 : w.cell? ⟨b, 1, none⟩ = some (.int .u32 l)) :
    Calls Try.prog 15 #[.pointer (some ⟨b, 0, none⟩)] w fun e w' => e = .returned (.agg #[.int .u32 o, .int .u32 l]) ∧ w.alloc (.cells #[.int .u32 o, .int .u32 l] 25) = w' := by
  have hlt := lt_of_cell c0
  go_enter Try.func15, Try.ntmps15
  go_wp2
  go_returns
  exact ⟨rfl, rfl⟩
theorem caseEnd1 (b : Nat) (o l : Int) (w : World) (h0 : 0 ≤ o) (h2 : 0 ≤ l) (h3 : l ≤ 4294967295) (hv : vB o l = true) (cb : w.cell? ⟨b, 6, none⟩ = some (.bool true)) (c0 : w.cell? ⟨b, 4, none⟩ = some (.int .u32 o)) (c1 : w.cell? ⟨b, 5, none⟩ = some (.int .u32 l)) :
    Calls Try.prog 16 #[.pointer (some ⟨b, 0, none⟩)] w fun e w' => e = .returned (.agg #[.int .u32 (pO o l 1), .int .u32 (pL o l 1)]) ∧ ((((w.alloc (.cells #[.int .u32 (pO o l 1), .int .u32 (pL o l 1)] 25)).alloc (.cells #[.int .u32 (pO o l 1), .int .u32 (pL o l 1)] 25)).alloc (.cells #[.int .u32 (pO o l 1), .int .u32 (pL o l 1)] 25)).alloc (.cells #[.int .u32 o, .int .u32 l] 25)).alloc (.cells #[.int .u32 o, .int .u32 l] 25) = w' := by
  have hlt := lt_of_cell c0
  go_enter Try.func16, Try.ntmps16
  go_wp2_with (go_at_call 42; refine (posAddX _ _ _ _ h0 h2 h3 (by omega) (by omega) hv).mono ?_; rintro e w' ⟨rfl, rfl⟩)
  go_returns
  exact ⟨rfl, rfl⟩
theorem caseEnd4 (b : Nat) (o l : Int) (w : World) (h0 : 0 ≤ o) (h2 : 0 ≤ l) (h3 : l ≤ 4294967295) (hv : vB o l = true) (cb : w.cell? ⟨b, 6, none⟩ = some (.bool false)) (c0 : w.cell? ⟨b, 4, none⟩ = some (.int .u32 o)) (c1 : w.cell? ⟨b, 5, none⟩ = some (.int .u32 l)) :
    Calls Try.prog 16 #[.pointer (some ⟨b, 0, none⟩)] w fun e w' => e = .returned (.agg #[.int .u32 (pO o l 4), .int .u32 (pL o l 4)]) ∧ ((((w.alloc (.cells #[.int .u32 (pO o l 4), .int .u32 (pL o l 4)] 25)).alloc (.cells #[.int .u32 (pO o l 4), .int .u32 (pL o l 4)] 25)).alloc (.cells #[.int .u32 (pO o l 4), .int .u32 (pL o l 4)] 25)).alloc (.cells #[.int .u32 o, .int .u32 l] 25)).alloc (.cells #[.int .u32 o, .int .u32 l] 25) = w' := by
  have hlt := lt_of_cell c0
  go_enter Try.func16, Try.ntmps16
  go_wp2_with (go_at_call 42; refine (posAddX _ _ _ _ h0 h2 h3 (by omega) (by omega) hv).mono ?_; rintro e w' ⟨rfl, rfl⟩)
  go_returns
  exact ⟨rfl, rfl⟩
set_option maxHeartbeats 4000000 in
theorem main1 (a b c d : Int) (w : World) (ha : 0 ≤ a ∧ a ≤ 4294967295) (hb : 0 ≤ b ∧ b ≤ 4294967295) (hc : 0 ≤ c ∧ c ≤ 4294967295) (hd : 0 ≤ d ∧ d ≤ 4294967295) (g1 : ¬ 4294967284 < a) (g2 : (b == 0) = false) (g3 : ¬ 4294967284 < c) (g4 : (d == 0) = false) (g5 : ¬ c < a) (g6 : ¬ 4294967284 < c + 4) :
    Calls Try.prog 4 #[.int .u32 a, .int .u32 b, .int .u32 c, .int .u32 d, .bool true] w fun e w' => e = .returned (.bool true) ∧ Below w.heap.size w w' := by
  have hv : vB c d = true := by simp [vB]; simp at g4; omega
  have HP := Lib.hid (show pO c d 1 = c + 1 by unfold pO; rw [if_pos hv, if_neg (by omega)])
  have bL := pL_bounds c d 1 hd.1 hd.2 (by omega)
  have HL := Lib.hid (show pL c d 1 = d - d % 16384 + pC d 1 by unfold pL; rw [if_pos hv])
  have g7 : IntKind.u64.wrap (c + 4) = c + 4 := IntWalk.u64_in _ (by omega)
  go_enter Try.func4, Try.ntmps4
  go_wp2_with (first | (go_at_call 10; refine (mkPos _ _ _).mono ?_; rintro e w' ⟨rfl, rfl⟩) | (go_at_call 15; refine (casePos _ a b _ (by simp [go_sem]) (by simp [go_sem])).mono ?_; rintro e w' ⟨rfl, rfl⟩) | (go_at_call 16; refine (caseEnd1 _ c d _ hc.1 hd.1 hd.2 hv (by simp [go_sem]) (by simp [go_sem]) (by simp [go_sem])).mono ?_; rintro e w' ⟨rfl, rfl⟩))
  refine wp_world (fun W => W.cell? ⟨w.heap.size + 1 + 1 + 1 + 1, 0, none⟩ = some (.int .u32 a) ∧ W.cell? ⟨w.heap.size + 1 + 1 + 1 + 1, 1, none⟩ = some (.int .u32 b) ∧ W.cell? ⟨w.heap.size + 1 + 1 + 1 + 1 + 1 + 1 + 1 + 1 + 1 + 1, 0, none⟩ = some (.int .u32 (c + 1)) ∧ W.cell? ⟨w.heap.size + 1 + 1 + 1 + 1 + 1 + 1 + 1 + 1 + 1 + 1, 1, none⟩ = some (.int .u32 (pL c d 1)) ∧ Below w.heap.size w W)
    ⟨by simp [go_sem], by simp [go_sem], by simp [go_sem, HP.out], by simp [go_sem], by go_grown⟩ ?_
  rintro W ⟨s0, s1, s2, s3, BW⟩
  have o1 : oI (c + 1) = c + 1 := by unfold oI; rw [if_neg (by omega)]
  have o2 : oI a = a := by unfold oI; rw [if_neg (by omega)]
  have x0 : IntKind.u64.wrap 1 = 1 := IntWalk.u64_in _ (by omega)
  have x1 : IntKind.u64.wrap (c + 1 - a) = c + 1 - a := IntWalk.u64_in _ (by omega)
  have x2 : IntKind.u32.wrap (c - a) = c - a := IntWalk.u32_in _ (by omega)
  have x3 : IntKind.u64.wrap (c - a) = c - a := IntWalk.u64_in _ (by omega)
  have x4 : IntKind.u64.wrap (c - a + 1) = c - a + 1 := IntWalk.u64_in _ (by omega)
  have x5 : (c + 1 - a != c - a + 1) = false := by simp; omega
  go_region_held3 (fun W => W.cell? ⟨w.heap.size + 1 + 1 + 1 + 1, 0, none⟩ = some (.int .u32 a) ∧ W.cell? ⟨w.heap.size + 1 + 1 + 1 + 1, 1, none⟩ = some (.int .u32 b) ∧ W.cell? ⟨w.heap.size + 1 + 1 + 1 + 1 + 1 + 1 + 1 + 1 + 1 + 1, 0, none⟩ = some (.int .u32 (c + 1)) ∧ W.cell? ⟨w.heap.size + 1 + 1 + 1 + 1 + 1 + 1 + 1 + 1 + 1 + 1, 1, none⟩ = some (.int .u32 (pL c d 1))) (exact ⟨cell_later (w := W) (by go_grown) s0, cell_later (w := W) (by go_grown) s1, cell_later (w := W) (by go_grown) s2, cell_later (w := W) (by go_grown) s3⟩) (first | (go_at_call 17; refine (offset _ _ _ (by omega) (by omega)).mono ?_; rintro e w' ⟨rfl, rfl⟩))
  clear x1 x2 x3 x4 o1 o2
  by_cases q1 : b / 16384 = d / 16384
  · have q1b : (b / 16384 == d / 16384) = true := by simp; omega
    by_cases q2 : b / 16384 = 0
    · have q2b : (b / 16384 != 0) = false := by simp; omega
      clear q1 q2
      go_wp2
      go_ret
      exact ⟨rfl, Below.trans BW (Below.mono (by go_grown) BW.size)⟩
    have q2b : (b / 16384 != 0) = true := by simp; omega
    have m1 := and_col b hb.1 hb.2
    have m2 := and_col d hd.1 hd.2
    by_cases q3 : b % 16384 = 0
    · have q3b : (b % 16384 != 0) = false := by simp; omega
      clear q1 q2 q3
      go_wp2
      go_ret
      exact ⟨rfl, Below.trans BW (Below.mono (by go_grown) BW.size)⟩
    have q3b : (b % 16384 != 0) = true := by simp; omega
    by_cases q4 : b % 16384 ≤ d % 16384
    · have x6 : IntKind.u32.wrap (d % 16384 + 1) = d % 16384 + 1 := IntWalk.u32_in _ (by omega)
      by_cases q5 : d % 16384 + 1 ≤ 16383
      · have hC : pC d 1 = d % 16384 + 1 := by unfold pC; rw [if_pos (by omega)]
        have y1 : pL c d 1 % 16384 = d % 16384 + 1 := by rw [HL.out, hC]; omega
        have z1 : IntKind.u64.wrap (d % 16384 + 1 - b % 16384) = d % 16384 + 1 - b % 16384 := IntWalk.u64_in _ (by omega)
        have z2 : IntKind.u32.wrap (d % 16384 - b % 16384) = d % 16384 - b % 16384 := IntWalk.u32_in _ (by omega)
        have z3 : IntKind.u64.wrap (d % 16384 - b % 16384) = d % 16384 - b % 16384 := IntWalk.u64_in _ (by omega)
        have z4 : IntKind.u64.wrap (d % 16384 - b % 16384 + 1) = d % 16384 - b % 16384 + 1 := IntWalk.u64_in _ (by omega)
        have z5 : (d % 16384 + 1 - b % 16384 == d % 16384 - b % 16384 + 1) = true := by simp; omega
        clear q1 q2 q3 hC
        go_wp2_with fail
        refine wp_world (fun W' => W'.cell? ⟨w.heap.size + 1 + 1 + 1 + 1, 0, none⟩ = some (.int .u32 a) ∧ W'.cell? ⟨w.heap.size + 1 + 1 + 1 + 1, 1, none⟩ = some (.int .u32 b) ∧ W'.cell? ⟨w.heap.size + 1 + 1 + 1 + 1 + 1 + 1 + 1 + 1 + 1 + 1, 0, none⟩ = some (.int .u32 (c + 1)) ∧ W'.cell? ⟨w.heap.size + 1 + 1 + 1 + 1 + 1 + 1 + 1 + 1 + 1 + 1, 1, none⟩ = some (.int .u32 (pL c d 1)) ∧ Below w.heap.size w W')
          ⟨cell_later (w := W) (by go_grown) s0, cell_later (w := W) (by go_grown) s1, cell_later (w := W) (by go_grown) s2, cell_later (w := W) (by go_grown) s3, Below.trans BW (Below.mono (by go_grown) BW.size)⟩ ?_
        rintro W2 ⟨t0, t1, t2, t3, BW2⟩
        go_region_held3 (fun W => W.cell? ⟨w.heap.size + 1 + 1 + 1 + 1, 0, none⟩ = some (.int .u32 a) ∧ W.cell? ⟨w.heap.size + 1 + 1 + 1 + 1, 1, none⟩ = some (.int .u32 b) ∧ W.cell? ⟨w.heap.size + 1 + 1 + 1 + 1 + 1 + 1 + 1 + 1 + 1 + 1, 0, none⟩ = some (.int .u32 (c + 1)) ∧ W.cell? ⟨w.heap.size + 1 + 1 + 1 + 1 + 1 + 1 + 1 + 1 + 1 + 1, 1, none⟩ = some (.int .u32 (pL c d 1))) (exact ⟨cell_later (w := W2) (by go_grown) t0, cell_later (w := W2) (by go_grown) t1, cell_later (w := W2) (by go_grown) t2, cell_later (w := W2) (by go_grown) t3⟩) (first | (go_at_call 18; refine (col _ _ _ (by omega) (by omega)).mono ?_; rintro e w' ⟨rfl, rfl⟩))
        go_wp2
        go_ret
        exact ⟨rfl, Below.trans BW2 (Below.mono (by go_grown) BW2.size)⟩
      · clear q1 q2 q3
        go_wp2
        go_ret
        exact ⟨rfl, Below.trans BW (Below.mono (by go_grown) BW.size)⟩
    · clear q1 q2 q3
      go_wp2
      go_ret
      exact ⟨rfl, Below.trans BW (Below.mono (by go_grown) BW.size)⟩
  · have q1b : (b / 16384 == d / 16384) = false := by simp; omega
    clear q1
    go_wp2
    go_ret
    exact ⟨rfl, Below.trans BW (Below.mono (by go_grown) BW.size)⟩
set_option maxHeartbeats 4000000 in
theorem main4 (a b c d : Int) (w : World) (ha : 0 ≤ a ∧ a ≤ 4294967295) (hb : 0 ≤ b ∧ b ≤ 4294967295) (hc : 0 ≤ c ∧ c ≤ 4294967295) (hd : 0 ≤ d ∧ d ≤ 4294967295) (g1 : ¬ 4294967284 < a) (g2 : (b == 0) = false) (g3 : ¬ 4294967284 < c) (g4 : (d == 0) = false) (g5 : ¬ c < a) (g6 : ¬ 4294967284 < c + 4) :
    Calls Try.prog 4 #[.int .u32 a, .int .u32 b, .int .u32 c, .int .u32 d, .bool false] w fun e w' => e = .returned (.bool true) ∧ Below w.heap.size w w' := by
  have hv : vB c d = true := by simp [vB]; simp at g4; omega
  have HP := Lib.hid (show pO c d 4 = c + 4 by unfold pO; rw [if_pos hv, if_neg (by omega)])
  have bL := pL_bounds c d 4 hd.1 hd.2 (by omega)
  have HL := Lib.hid (show pL c d 4 = d - d % 16384 + pC d 4 by unfold pL; rw [if_pos hv])
  have g7 : IntKind.u64.wrap (c + 4) = c + 4 := IntWalk.u64_in _ (by omega)
  go_enter Try.func4, Try.ntmps4
  go_wp2_with (first | (go_at_call 10; refine (mkPos _ _ _).mono ?_; rintro e w' ⟨rfl, rfl⟩) | (go_at_call 15; refine (casePos _ a b _ (by simp [go_sem]) (by simp [go_sem])).mono ?_; rintro e w' ⟨rfl, rfl⟩) | (go_at_call 16; refine (caseEnd4 _ c d _ hc.1 hd.1 hd.2 hv (by simp [go_sem]) (by simp [go_sem]) (by simp [go_sem])).mono ?_; rintro e w' ⟨rfl, rfl⟩))
  refine wp_world (fun W => W.cell? ⟨w.heap.size + 1 + 1 + 1 + 1, 0, none⟩ = some (.int .u32 a) ∧ W.cell? ⟨w.heap.size + 1 + 1 + 1 + 1, 1, none⟩ = some (.int .u32 b) ∧ W.cell? ⟨w.heap.size + 1 + 1 + 1 + 1 + 1 + 1 + 1 + 1 + 1 + 1, 0, none⟩ = some (.int .u32 (c + 4)) ∧ W.cell? ⟨w.heap.size + 1 + 1 + 1 + 1 + 1 + 1 + 1 + 1 + 1 + 1, 1, none⟩ = some (.int .u32 (pL c d 4)) ∧ Below w.heap.size w W)
    ⟨by simp [go_sem], by simp [go_sem], by simp [go_sem, HP.out], by simp [go_sem], by go_grown⟩ ?_
  rintro W ⟨s0, s1, s2, s3, BW⟩
  have o1 : oI (c + 4) = c + 4 := by unfold oI; rw [if_neg (by omega)]
  have o2 : oI a = a := by unfold oI; rw [if_neg (by omega)]
  have x0 : IntKind.u64.wrap 4 = 4 := IntWalk.u64_in _ (by omega)
  have x1 : IntKind.u64.wrap (c + 4 - a) = c + 4 - a := IntWalk.u64_in _ (by omega)
  have x2 : IntKind.u32.wrap (c - a) = c - a := IntWalk.u32_in _ (by omega)
  have x3 : IntKind.u64.wrap (c - a) = c - a := IntWalk.u64_in _ (by omega)
  have x4 : IntKind.u64.wrap (c - a + 4) = c - a + 4 := IntWalk.u64_in _ (by omega)
  have x5 : (c + 4 - a != c - a + 4) = false := by simp; omega
  go_region_held3 (fun W => W.cell? ⟨w.heap.size + 1 + 1 + 1 + 1, 0, none⟩ = some (.int .u32 a) ∧ W.cell? ⟨w.heap.size + 1 + 1 + 1 + 1, 1, none⟩ = some (.int .u32 b) ∧ W.cell? ⟨w.heap.size + 1 + 1 + 1 + 1 + 1 + 1 + 1 + 1 + 1 + 1, 0, none⟩ = some (.int .u32 (c + 4)) ∧ W.cell? ⟨w.heap.size + 1 + 1 + 1 + 1 + 1 + 1 + 1 + 1 + 1 + 1, 1, none⟩ = some (.int .u32 (pL c d 4))) (exact ⟨cell_later (w := W) (by go_grown) s0, cell_later (w := W) (by go_grown) s1, cell_later (w := W) (by go_grown) s2, cell_later (w := W) (by go_grown) s3⟩) (first | (go_at_call 17; refine (offset _ _ _ (by omega) (by omega)).mono ?_; rintro e w' ⟨rfl, rfl⟩))
  clear x1 x2 x3 x4 o1 o2
  by_cases q1 : b / 16384 = d / 16384
  · have q1b : (b / 16384 == d / 16384) = true := by simp; omega
    by_cases q2 : b / 16384 = 0
    · have q2b : (b / 16384 != 0) = false := by simp; omega
      clear q1 q2
      go_wp2
      go_ret
      exact ⟨rfl, Below.trans BW (Below.mono (by go_grown) BW.size)⟩
    have q2b : (b / 16384 != 0) = true := by simp; omega
    have m1 := and_col b hb.1 hb.2
    have m2 := and_col d hd.1 hd.2
    by_cases q3 : b % 16384 = 0
    · have q3b : (b % 16384 != 0) = false := by simp; omega
      clear q1 q2 q3
      go_wp2
      go_ret
      exact ⟨rfl, Below.trans BW (Below.mono (by go_grown) BW.size)⟩
    have q3b : (b % 16384 != 0) = true := by simp; omega
    by_cases q4 : b % 16384 ≤ d % 16384
    · have x6 : IntKind.u32.wrap (d % 16384 + 4) = d % 16384 + 4 := IntWalk.u32_in _ (by omega)
      by_cases q5 : d % 16384 + 4 ≤ 16383
      · have hC : pC d 4 = d % 16384 + 4 := by unfold pC; rw [if_pos (by omega)]
        have y1 : pL c d 4 % 16384 = d % 16384 + 4 := by rw [HL.out, hC]; omega
        have z1 : IntKind.u64.wrap (d % 16384 + 4 - b % 16384) = d % 16384 + 4 - b % 16384 := IntWalk.u64_in _ (by omega)
        have z2 : IntKind.u32.wrap (d % 16384 - b % 16384) = d % 16384 - b % 16384 := IntWalk.u32_in _ (by omega)
        have z3 : IntKind.u64.wrap (d % 16384 - b % 16384) = d % 16384 - b % 16384 := IntWalk.u64_in _ (by omega)
        have z4 : IntKind.u64.wrap (d % 16384 - b % 16384 + 4) = d % 16384 - b % 16384 + 4 := IntWalk.u64_in _ (by omega)
        have z5 : (d % 16384 + 4 - b % 16384 == d % 16384 - b % 16384 + 4) = true := by simp; omega
        clear q1 q2 q3 hC
        go_wp2_with fail
        refine wp_world (fun W' => W'.cell? ⟨w.heap.size + 1 + 1 + 1 + 1, 0, none⟩ = some (.int .u32 a) ∧ W'.cell? ⟨w.heap.size + 1 + 1 + 1 + 1, 1, none⟩ = some (.int .u32 b) ∧ W'.cell? ⟨w.heap.size + 1 + 1 + 1 + 1 + 1 + 1 + 1 + 1 + 1 + 1, 0, none⟩ = some (.int .u32 (c + 4)) ∧ W'.cell? ⟨w.heap.size + 1 + 1 + 1 + 1 + 1 + 1 + 1 + 1 + 1 + 1, 1, none⟩ = some (.int .u32 (pL c d 4)) ∧ Below w.heap.size w W')
          ⟨cell_later (w := W) (by go_grown) s0, cell_later (w := W) (by go_grown) s1, cell_later (w := W) (by go_grown) s2, cell_later (w := W) (by go_grown) s3, Below.trans BW (Below.mono (by go_grown) BW.size)⟩ ?_
        rintro W2 ⟨t0, t1, t2, t3, BW2⟩
        go_region_held3 (fun W => W.cell? ⟨w.heap.size + 1 + 1 + 1 + 1, 0, none⟩ = some (.int .u32 a) ∧ W.cell? ⟨w.heap.size + 1 + 1 + 1 + 1, 1, none⟩ = some (.int .u32 b) ∧ W.cell? ⟨w.heap.size + 1 + 1 + 1 + 1 + 1 + 1 + 1 + 1 + 1 + 1, 0, none⟩ = some (.int .u32 (c + 4)) ∧ W.cell? ⟨w.heap.size + 1 + 1 + 1 + 1 + 1 + 1 + 1 + 1 + 1 + 1, 1, none⟩ = some (.int .u32 (pL c d 4))) (exact ⟨cell_later (w := W2) (by go_grown) t0, cell_later (w := W2) (by go_grown) t1, cell_later (w := W2) (by go_grown) t2, cell_later (w := W2) (by go_grown) t3⟩) (first | (go_at_call 18; refine (col _ _ _ (by omega) (by omega)).mono ?_; rintro e w' ⟨rfl, rfl⟩))
        go_wp2
        go_ret
        exact ⟨rfl, Below.trans BW2 (Below.mono (by go_grown) BW2.size)⟩
      · clear q1 q2 q3
        go_wp2
        go_ret
        exact ⟨rfl, Below.trans BW (Below.mono (by go_grown) BW.size)⟩
    · clear q1 q2 q3
      go_wp2
      go_ret
      exact ⟨rfl, Below.trans BW (Below.mono (by go_grown) BW.size)⟩
  · have q1b : (b / 16384 == d / 16384) = false := by simp; omega
    clear q1
    go_wp2
    go_ret
    exact ⟨rfl, Below.trans BW (Below.mono (by go_grown) BW.size)⟩

theorem law4 (a b c d : Int) (br : Bool) (w : World) (ha : 0 ≤ a ∧ a ≤ 4294967295) (hb : 0 ≤ b ∧ b ≤ 4294967295) (hc : 0 ≤ c ∧ c ≤ 4294967295) (hd : 0 ≤ d ∧ d ≤ 4294967295) :
    Calls Try.prog 4 #[.int .u32 a, .int .u32 b, .int .u32 c, .int .u32 d, .bool br] w fun e w' => e = .returned (.bool true) ∧ Below w.heap.size w w' := by
  have g7 : IntKind.u64.wrap (c + 4) = c + 4 := IntWalk.u64_in _ (by omega)
  by_cases g1 : 4294967284 < a
  · clear ha hb hc hd
    go_enter Try.func4, Try.ntmps4
    go_wp2
    all_goals
      go_ret
      exact ⟨rfl, Below.refl _ _⟩
  cases g2 : (b == 0) with
  | true =>
    go_enter Try.func4, Try.ntmps4
    go_wp2
    all_goals
      go_ret
      exact ⟨rfl, Below.refl _ _⟩
  | false =>
  by_cases g3 : 4294967284 < c
  · clear ha hb hc hd
    go_enter Try.func4, Try.ntmps4
    go_wp2
    all_goals
      go_ret
      exact ⟨rfl, Below.refl _ _⟩
  cases g4 : (d == 0) with
  | true =>
    go_enter Try.func4, Try.ntmps4
    go_wp2
    all_goals
      go_ret
      exact ⟨rfl, Below.refl _ _⟩
  | false =>
  by_cases g5 : c < a
  · clear ha hb hc hd
    go_enter Try.func4, Try.ntmps4
    go_wp2
    all_goals
      go_ret
      exact ⟨rfl, Below.refl _ _⟩
  by_cases g6 : 4294967284 < c + 4
  · go_enter Try.func4, Try.ntmps4
    go_wp2
    all_goals
      go_ret
      exact ⟨rfl, Below.refl _ _⟩
  cases br
  · exact main4 a b c d w ha hb hc hd g1 g2 g3 g4 g5 g6
  · exact main1 a b c d w ha hb hc hd g1 g2 g3 g4 g5 g6
end Go.Proofs.Ytccnpgmceoojmab
