/-
  A coproc clause laid out in source order starts at its keyword and does not start after it ends: for every value of the raw fields.
-/
import Derived.Test.YtkegnedapnabiadStmt
namespace Go.Proofs.Ytkegnedapnabiad
open Go.RowKit

theorem copEnd (q b : Nat) (p pl s sl : Int) (neg cop dis : Bool) (w : World) (c0 : w.cell? ⟨q, 3, none⟩ = some (.pointer (some ⟨b, 0, none⟩))) (hp : 0 ≤ p ∧ p ≤ 4294967295) (hpl : 0 ≤ pl ∧ pl ≤ 4294967295) (hs : 0 ≤ s ∧ s ≤ 4294967295) (hsl : 0 ≤ sl ∧ sl ≤ 4294967295) (d1 : w.cell? ⟨b, 1, none⟩ = some .nilIface) (d2 : w.cell? ⟨b, 2, none⟩ = some (.int .u32 p)) (d3 : w.cell? ⟨b, 3, none⟩ = some (.int .u32 pl)) (c4 : w.cell? ⟨b, 4, none⟩ = some (.int .u32 s)) (c5 : w.cell? ⟨b, 5, none⟩ = some (.int .u32 sl)) (c6 : w.cell? ⟨b, 6, none⟩ = some (.bool neg)) (c8 : w.cell? ⟨b, 8, none⟩ = some (.bool cop)) (c9 : w.cell? ⟨b, 9, none⟩ = some (.bool dis)) (c10 : w.cell? ⟨b, 10, none⟩ = some (.slice none 0 0)) :
    Calls Try.prog 9 #[.pointer (some ⟨q, 0, none⟩)] w fun e w' => e = .returned (.agg #[.int .u32 (stO p pl s sl neg (cop || dis)), .int .u32 (stL p pl s sl neg (cop || dis))]) ∧ Below w.heap.size w w' := by
  have hlq := lt_of_cell c0
  have hlb := lt_of_cell d1
  go_enter Try.func9, Try.ntmps9
  go_wp2_with fail
  refine (stmtEnd b p pl s sl neg cop dis _ hp hpl hs hsl (cell_later (by go_grown) d1) (cell_later (by go_grown) d2) (cell_later (by go_grown) d3) (cell_later (by go_grown) c4) (cell_later (by go_grown) c5) (cell_later (by go_grown) c6) (cell_later (by go_grown) c8) (cell_later (by go_grown) c9) (cell_later (by go_grown) c10)).mono ?_
  rintro e w1 ⟨rfl, hb⟩
  obtain ⟨hc, hf⟩ := bcell hb
  have hz : w.heap.size < w1.heap.size := by have := hb.size; simp at this; omega
  go_wp2
  refine bodyPost_ret (v := .agg #[.int .u32 (stO p pl s sl neg (cop || dis)), .int .u32 (stL p pl s sl neg (cop || dis))]) (by simp [results, Try.results9, go_sem, hc, hz]) rfl ⟨rfl, ?_⟩
  exact (((((Below.refl _ _).alloc (Nat.le_refl _) _).trans (hb.mono (by simp))).setCell (by simp) _).setCell (by simp) _)


set_option maxHeartbeats 2000000 in
theorem law3_main (c cl p pl s sl : Int) (neg cop dis : Bool) (w : World) (hc : 0 ≤ c ∧ c ≤ 4294967295) (hcl : 0 ≤ cl ∧ cl ≤ 4294967295) (hp : 0 ≤ p ∧ p ≤ 4294967295) (hpl : 0 ≤ pl ∧ pl ≤ 4294967295) (hs : 0 ≤ s ∧ s ≤ 4294967295) (hsl : 0 ≤ sl ∧ sl ≤ 4294967295) (r1 : rB c cl = true) (r2 : rB p pl = true) (r3 : rB s sl = true) (h1 : ¬ p < c) (h2 : vB s sl = true → p ≤ s) :
    Calls Try.prog 3 #[.int .u32 c, .int .u32 cl, .int .u32 p, .int .u32 pl, .int .u32 s, .int .u32 sl, .bool neg, .bool cop, .bool dis] w fun e w' => e = .returned (.bool true) ∧ Below w.heap.size w w' := by
  have hge := stO_ge p pl s sl neg (cop || dis) h2
  have hA : aB c cl (stO p pl s sl neg (cop || dis)) = false := by simp [aB]; omega
  have HA := Lib.hid hA
  have h2b : (decide (s ≤ 4294967284) && (sl != 0) && decide (s < p)) = false := by
    cases hv : vB s sl
    · unfold vB at hv; rw [hv]; rfl
    · have := h2 hv; simp; omega
  clear hA hge h2
  by_cases h3 : s ≤ 4294967284
  · cases h4 : (sl != 0)
    all_goals
      simp only [h3, h4, decide_true, Bool.true_and, Bool.false_and, decide_eq_false_iff_not] at h2b
      go_enter Try.func3, Try.ntmps3
      go_wp2_with (first | (go_at_call 5; refine (reach _ _ _).mono ?_; rintro e w' ⟨rfl, rfl⟩) | (go_at_call 6; refine (mkPos _ _ _).mono ?_; rintro e w' ⟨rfl, rfl⟩))
      refine wp_world (fun W => W.cell? ⟨w.heap.size + 1, 0, none⟩ = some (.int .u32 c) ∧ W.cell? ⟨w.heap.size + 1, 1, none⟩ = some (.int .u32 cl) ∧ W.cell? ⟨w.heap.size + 1 + 1 + 1 + 1 + 1, 0, none⟩ = some (.int .u32 c) ∧ W.cell? ⟨w.heap.size + 1 + 1 + 1 + 1 + 1, 1, none⟩ = some (.int .u32 cl) ∧ W.cell? ⟨w.heap.size + 1 + 1 + 1 + 1 + 1, 3, none⟩ = some (.pointer (some ⟨w.heap.size + 1 + 1 + 1 + 1, 0, none⟩)) ∧ W.cell? ⟨w.heap.size + 1 + 1 + 1 + 1, 1, none⟩ = some .nilIface ∧ W.cell? ⟨w.heap.size + 1 + 1 + 1 + 1, 2, none⟩ = some (.int .u32 p) ∧ W.cell? ⟨w.heap.size + 1 + 1 + 1 + 1, 3, none⟩ = some (.int .u32 pl) ∧ W.cell? ⟨w.heap.size + 1 + 1 + 1 + 1, 4, none⟩ = some (.int .u32 s) ∧ W.cell? ⟨w.heap.size + 1 + 1 + 1 + 1, 5, none⟩ = some (.int .u32 sl) ∧ W.cell? ⟨w.heap.size + 1 + 1 + 1 + 1, 6, none⟩ = some (.bool neg) ∧ W.cell? ⟨w.heap.size + 1 + 1 + 1 + 1, 8, none⟩ = some (.bool cop) ∧ W.cell? ⟨w.heap.size + 1 + 1 + 1 + 1, 9, none⟩ = some (.bool dis) ∧ W.cell? ⟨w.heap.size + 1 + 1 + 1 + 1, 10, none⟩ = some (.slice none 0 0) ∧ Below w.heap.size w W)
        ⟨by simp [go_sem], by simp [go_sem], by simp [go_sem], by simp [go_sem], by simp [go_sem], by simp [go_sem], by simp [go_sem], by simp [go_sem], by simp [go_sem], by simp [go_sem], by simp [go_sem], by simp [go_sem], by simp [go_sem], by simp [go_sem], by go_grown⟩ ?_
      rintro W ⟨s0, s1, s2, s3, s4, s5, s6, s7, s8, s9, s10, s11, s12, s13, BW⟩
      go_region_held3 (fun W => W.cell? ⟨w.heap.size + 1, 0, none⟩ = some (.int .u32 c) ∧ W.cell? ⟨w.heap.size + 1, 1, none⟩ = some (.int .u32 cl) ∧ W.cell? ⟨w.heap.size + 1 + 1 + 1 + 1 + 1, 0, none⟩ = some (.int .u32 c) ∧ W.cell? ⟨w.heap.size + 1 + 1 + 1 + 1 + 1, 1, none⟩ = some (.int .u32 cl)) (exact ⟨cell_later (w := W) (by go_grown) s0, cell_later (w := W) (by go_grown) s1, cell_later (w := W) (by go_grown) s2, cell_later (w := W) (by go_grown) s3⟩) (first | (go_at_call 7; refine (copPos _ c cl _ (cell_later (w := W) (by go_grown) s2) (cell_later (w := W) (by go_grown) s3)).mono ?_; rintro e w' ⟨rfl, rfl⟩))
      go_wp2_with fail
      refine (copPos _ c cl _ (cell_later (w := W) (by go_grown) s2) (cell_later (w := W) (by go_grown) s3)).mono ?_
      rintro e w' ⟨rfl, rfl⟩
      go_wp2_with fail
      refine (copEnd _ _ p pl s sl neg cop dis _ (cell_later (w := W) (by go_grown) s4) hp hpl hs hsl (cell_later (w := W) (by go_grown) s5) (cell_later (w := W) (by go_grown) s6) (cell_later (w := W) (by go_grown) s7) (cell_later (w := W) (by go_grown) s8) (cell_later (w := W) (by go_grown) s9) (cell_later (w := W) (by go_grown) s10) (cell_later (w := W) (by go_grown) s11) (cell_later (w := W) (by go_grown) s12) (cell_later (w := W) (by go_grown) s13)).mono ?_
      rintro e w1 ⟨rfl, hb1⟩
      have B1 : Below w.heap.size w w1 := Below.trans (Below.trans BW (Below.mono (by go_grown) BW.size)) (hb1.mono (by have := BW.size; simp; omega))
      clear hb1
      go_wp2_with fail
      refine (after _ _ _ _ _).mono ?_
      rintro e w2 ⟨rfl, rfl⟩
      rw [HA.out]
      go_wp2
      go_ret
      exact ⟨rfl, Below.trans B1 (Below.mono (by go_grown) B1.size)⟩
  · clear h2b
    go_enter Try.func3, Try.ntmps3
    go_wp2_with (first | (go_at_call 5; refine (reach _ _ _).mono ?_; rintro e w' ⟨rfl, rfl⟩) | (go_at_call 6; refine (mkPos _ _ _).mono ?_; rintro e w' ⟨rfl, rfl⟩))
    refine wp_world (fun W => W.cell? ⟨w.heap.size + 1, 0, none⟩ = some (.int .u32 c) ∧ W.cell? ⟨w.heap.size + 1, 1, none⟩ = some (.int .u32 cl) ∧ W.cell? ⟨w.heap.size + 1 + 1 + 1 + 1 + 1, 0, none⟩ = some (.int .u32 c) ∧ W.cell? ⟨w.heap.size + 1 + 1 + 1 + 1 + 1, 1, none⟩ = some (.int .u32 cl) ∧ W.cell? ⟨w.heap.size + 1 + 1 + 1 + 1 + 1, 3, none⟩ = some (.pointer (some ⟨w.heap.size + 1 + 1 + 1 + 1, 0, none⟩)) ∧ W.cell? ⟨w.heap.size + 1 + 1 + 1 + 1, 1, none⟩ = some .nilIface ∧ W.cell? ⟨w.heap.size + 1 + 1 + 1 + 1, 2, none⟩ = some (.int .u32 p) ∧ W.cell? ⟨w.heap.size + 1 + 1 + 1 + 1, 3, none⟩ = some (.int .u32 pl) ∧ W.cell? ⟨w.heap.size + 1 + 1 + 1 + 1, 4, none⟩ = some (.int .u32 s) ∧ W.cell? ⟨w.heap.size + 1 + 1 + 1 + 1, 5, none⟩ = some (.int .u32 sl) ∧ W.cell? ⟨w.heap.size + 1 + 1 + 1 + 1, 6, none⟩ = some (.bool neg) ∧ W.cell? ⟨w.heap.size + 1 + 1 + 1 + 1, 8, none⟩ = some (.bool cop) ∧ W.cell? ⟨w.heap.size + 1 + 1 + 1 + 1, 9, none⟩ = some (.bool dis) ∧ W.cell? ⟨w.heap.size + 1 + 1 + 1 + 1, 10, none⟩ = some (.slice none 0 0) ∧ Below w.heap.size w W)
      ⟨by simp [go_sem], by simp [go_sem], by simp [go_sem], by simp [go_sem], by simp [go_sem], by simp [go_sem], by simp [go_sem], by simp [go_sem], by simp [go_sem], by simp [go_sem], by simp [go_sem], by simp [go_sem], by simp [go_sem], by simp [go_sem], by go_grown⟩ ?_
    rintro W ⟨s0, s1, s2, s3, s4, s5, s6, s7, s8, s9, s10, s11, s12, s13, BW⟩
    go_region_held3 (fun W => W.cell? ⟨w.heap.size + 1, 0, none⟩ = some (.int .u32 c) ∧ W.cell? ⟨w.heap.size + 1, 1, none⟩ = some (.int .u32 cl) ∧ W.cell? ⟨w.heap.size + 1 + 1 + 1 + 1 + 1, 0, none⟩ = some (.int .u32 c) ∧ W.cell? ⟨w.heap.size + 1 + 1 + 1 + 1 + 1, 1, none⟩ = some (.int .u32 cl)) (exact ⟨cell_later (w := W) (by go_grown) s0, cell_later (w := W) (by go_grown) s1, cell_later (w := W) (by go_grown) s2, cell_later (w := W) (by go_grown) s3⟩) (first | (go_at_call 7; refine (copPos _ c cl _ (cell_later (w := W) (by go_grown) s2) (cell_later (w := W) (by go_grown) s3)).mono ?_; rintro e w' ⟨rfl, rfl⟩))
    go_wp2_with fail
    refine (copPos _ c cl _ (cell_later (w := W) (by go_grown) s2) (cell_later (w := W) (by go_grown) s3)).mono ?_
    rintro e w' ⟨rfl, rfl⟩
    go_wp2_with fail
    refine (copEnd _ _ p pl s sl neg cop dis _ (cell_later (w := W) (by go_grown) s4) hp hpl hs hsl (cell_later (w := W) (by go_grown) s5) (cell_later (w := W) (by go_grown) s6) (cell_later (w := W) (by go_grown) s7) (cell_later (w := W) (by go_grown) s8) (cell_later (w := W) (by go_grown) s9) (cell_later (w := W) (by go_grown) s10) (cell_later (w := W) (by go_grown) s11) (cell_later (w := W) (by go_grown) s12) (cell_later (w := W) (by go_grown) s13)).mono ?_
    rintro e w1 ⟨rfl, hb1⟩
    have B1 : Below w.heap.size w w1 := Below.trans (Below.trans BW (Below.mono (by go_grown) BW.size)) (hb1.mono (by have := BW.size; simp; omega))
    clear hb1
    go_wp2_with fail
    refine (after _ _ _ _ _).mono ?_
    rintro e w2 ⟨rfl, rfl⟩
    rw [HA.out]
    go_wp2
    go_ret
    exact ⟨rfl, Below.trans B1 (Below.mono (by go_grown) B1.size)⟩

theorem law3 (c cl p pl s sl : Int) (neg cop dis : Bool) (w : World) (hc : 0 ≤ c ∧ c ≤ 4294967295) (hcl : 0 ≤ cl ∧ cl ≤ 4294967295) (hp : 0 ≤ p ∧ p ≤ 4294967295) (hpl : 0 ≤ pl ∧ pl ≤ 4294967295) (hs : 0 ≤ s ∧ s ≤ 4294967295) (hsl : 0 ≤ sl ∧ sl ≤ 4294967295) :
    Calls Try.prog 3 #[.int .u32 c, .int .u32 cl, .int .u32 p, .int .u32 pl, .int .u32 s, .int .u32 sl, .bool neg, .bool cop, .bool dis] w fun e w' => e = .returned (.bool true) ∧ Below w.heap.size w w' := by
  cases r1 : rB c cl with
  | false =>
    go_enter Try.func3, Try.ntmps3
    go_wp2_with (go_at_call 5; refine (reach _ _ _).mono ?_; rintro e w' ⟨rfl, rfl⟩)
    all_goals
      go_ret
      exact ⟨rfl, Below.refl _ _⟩
  | true =>
  cases r2 : rB p pl with
  | false =>
    go_enter Try.func3, Try.ntmps3
    go_wp2_with (go_at_call 5; refine (reach _ _ _).mono ?_; rintro e w' ⟨rfl, rfl⟩)
    all_goals
      go_ret
      exact ⟨rfl, Below.refl _ _⟩
  | true =>
  cases r3 : rB s sl with
  | false =>
    go_enter Try.func3, Try.ntmps3
    go_wp2_with (go_at_call 5; refine (reach _ _ _).mono ?_; rintro e w' ⟨rfl, rfl⟩)
    all_goals
      go_ret
      exact ⟨rfl, Below.refl _ _⟩
  | true =>
  by_cases h1 : p < c
  · clear hc hcl hp hpl hs hsl
    go_enter Try.func3, Try.ntmps3
    go_wp2_with (go_at_call 5; refine (reach _ _ _).mono ?_; rintro e w' ⟨rfl, rfl⟩)
    all_goals
      go_ret
      exact ⟨rfl, Below.refl _ _⟩
  by_cases h2 : s ≤ 4294967284 ∧ sl ≠ 0 ∧ s < p
  · obtain ⟨x1, x2, x3⟩ := h2
    have x4 : (sl != 0) = true := by simp; omega
    clear x2
    go_enter Try.func3, Try.ntmps3
    go_wp2_with (go_at_call 5; refine (reach _ _ _).mono ?_; rintro e w' ⟨rfl, rfl⟩)
    all_goals
      go_ret
      exact ⟨rfl, Below.refl _ _⟩
  exact law3_main c cl p pl s sl neg cop dis w hc hcl hp hpl hs hsl r1 r2 r3 h1 (fun hv => by simp [vB] at hv; omega)
end Go.Proofs.Ytkegnedapnabiad
