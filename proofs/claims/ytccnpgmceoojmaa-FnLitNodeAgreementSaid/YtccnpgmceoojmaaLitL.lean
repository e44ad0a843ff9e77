/-
  Nodes that start or end at a literal name agree with the literal: for every value of the raw fields.
-/
import Derived.Test.YtccnpgmceoojmaaLitn
namespace Go.Proofs.Ytccnpgmceoojmaa.litn
open Go.RowKit

set_option maxHeartbeats 4000000 in
set_option maxRecDepth 100000 in
theorem mainY (p0 p1 e0 e1 q0 q1 : Int) (s : ByteArray) (w : World) (he0 : 0 ≤ e0) (h2 : 0 ≤ e1) (h3 : e1 ≤ 4294967295) (hs : ¬ (1048576 : Int) < (s.size : Int)) (hv : vB e0 e1 = true) : Calls Try.prog 7 #[.int .u32 p0, .int .u32 p1, .int .u32 e0, .int .u32 e1, .int .u32 q0, .int .u32 q1, .string s] w fun e w' => e = .returned (.bool true) ∧ Below w.heap.size w w' := by
  go_enter Try.func7, Try.ntmps7
  go_wp2_with (first | (go_at_call 33; refine (mkPos21 _ _ _).mono ?_; rintro e w' ⟨rfl, rfl⟩) | (go_at_call 34; refine (redPosN (w.heap.size + 1 + 1 + 1 + 1 + 1) (w.heap.size + 1 + 1) p0 p1 _ (by simp [go_sem]) (by simp [go_sem]) (by simp [go_sem])).mono ?_; rintro e w' ⟨rfl, rfl⟩) | (go_at_call 35; refine (litPosX (w.heap.size + 1 + 1) p0 p1 _ (by simp [go_sem]) (by simp [go_sem])).mono ?_; rintro e w' ⟨rfl, rfl⟩) | (go_at_call 36; refine (same36 _ _ _).mono ?_; rintro e w' ⟨rfl, rfl⟩) | go_in)
  refine wp_world (fun W => W.cell? ⟨w.heap.size + 1 + 1, 0, none⟩ = some (.int .u32 p0) ∧ W.cell? ⟨w.heap.size + 1 + 1, 1, none⟩ = some (.int .u32 p1) ∧ W.cell? ⟨w.heap.size + 1 + 1, 2, none⟩ = some (.int .u32 e0) ∧ W.cell? ⟨w.heap.size + 1 + 1, 3, none⟩ = some (.int .u32 e1) ∧ W.cell? ⟨w.heap.size + 1 + 1 + 1 + 1, 0, none⟩ = some (.int .u32 q0) ∧ W.cell? ⟨w.heap.size + 1 + 1 + 1 + 1, 1, none⟩ = some (.int .u32 q1) ∧ W.cell? ⟨w.heap.size + 1 + 1 + 1 + 1 + 1 + 1 + 1 + 1 + 1 + 1 + 1 + 1 + 1 + 1, 0, none⟩ = some (.int .u32 q0) ∧ W.cell? ⟨w.heap.size + 1 + 1 + 1 + 1 + 1 + 1 + 1 + 1 + 1 + 1 + 1 + 1 + 1 + 1, 1, none⟩ = some (.int .u32 q1) ∧ W.cell? ⟨w.heap.size + 1 + 1 + 1 + 1 + 1 + 1 + 1 + 1 + 1 + 1 + 1 + 1 + 1 + 1, 3, none⟩ = some (.pointer none) ∧ Below w.heap.size w W)
    ⟨by simp [go_sem], by simp [go_sem], by simp [go_sem], by simp [go_sem], by simp [go_sem], by simp [go_sem], by simp [go_sem], by simp [go_sem], by simp [go_sem], by go_grown⟩ ?_
  rintro W ⟨s0, s1, s2, s3, s4, s5, s6, s7, s8, BW⟩
  go_region_held3 (fun W => W.cell? ⟨w.heap.size + 1 + 1 + 1 + 1, 0, none⟩ = some (.int .u32 q0) ∧ W.cell? ⟨w.heap.size + 1 + 1 + 1 + 1, 1, none⟩ = some (.int .u32 q1)) (exact ⟨cell_later (w := W) (by go_grown) s4, cell_later (w := W) (by go_grown) s5⟩) (first | (go_at_call 34; refine (redPos0 _ q0 q1 _ (cell_later (w := W) (by go_grown) s8) (cell_later (w := W) (by go_grown) s6) (cell_later (w := W) (by go_grown) s7)).mono ?_; rintro e w' ⟨rfl, rfl⟩))
  go_wp2_with fail
  refine (asPos (W.heap.size + 1) (w.heap.size + 1 + 1) p0 p1 _ (by simp [go_sem]) (cell_later (w := W) (by go_grown) s0) (cell_later (w := W) (by go_grown) s1)).mono ?_
  rintro e w' ⟨rfl, rfl⟩
  go_wp2_with fail
  refine (litPosX (w.heap.size + 1 + 1) p0 p1 _ (cell_later (w := W) (by go_grown) s0) (cell_later (w := W) (by go_grown) s1)).mono ?_
  rintro e w' ⟨rfl, rfl⟩
  go_wp2_with fail
  refine (asEndK (W.heap.size + 1 + 1 + 1 + 1 + 1) (w.heap.size + 1 + 1) e0 e1 _ (by simp [go_sem]) (by simp [go_sem]) (by simp [go_sem]) (by simp [go_sem]) (by simp [go_sem]) (cell_later (w := W) (by go_grown) s2) (cell_later (w := W) (by go_grown) s3)).mono ?_
  rintro e w' ⟨rfl, rfl⟩
  go_wp2_with fail
  refine (litEnd (w.heap.size + 1 + 1) e0 e1 _ (cell_later (w := W) (by go_grown) s2) (cell_later (w := W) (by go_grown) s3)).mono ?_
  rintro e w' ⟨rfl, rfl⟩
  go_wp2_with fail
  refine (asEndK (W.heap.size + 1 + 1 + 1 + 1 + 1) (w.heap.size + 1 + 1) e0 e1 _ (by simp [go_sem]) (by simp [go_sem]) (by simp [go_sem]) (by simp [go_sem]) (by simp [go_sem]) (cell_later (w := W) (by go_grown) s2) (cell_later (w := W) (by go_grown) s3)).mono ?_
  rintro e w' ⟨rfl, rfl⟩
  go_wp2_with fail
  refine (same36 _ _ _).mono ?_
  rintro e w' ⟨rfl, rfl⟩
  go_wp2_with fail
  refine (mNextY e0 e1 _ he0 h2 h3 hv).mono ?_
  rintro e w' ⟨rfl, rfl⟩
  go_wp2_with fail
  refine (asEndY (W.heap.size + 1) (w.heap.size + 1 + 1) e0 e1 _ he0 h2 h3 hv (by simp [go_sem]) (by simp [go_sem]) (by simp [go_sem]) (by simp [go_sem]) (by simp [go_sem]) (cell_later (w := W) (by go_grown) s2) (cell_later (w := W) (by go_grown) s3)).mono ?_
  rintro e w' ⟨rfl, rfl⟩
  go_wp2_with fail
  refine (same36 _ _ _).mono ?_
  rintro e w' ⟨rfl, rfl⟩
  go_wp2
  go_ret
  exact ⟨rfl, Below.trans BW (Below.mono (by go_grown) BW.size)⟩
set_option maxHeartbeats 4000000 in
set_option maxRecDepth 100000 in
theorem mainN (p0 p1 e0 e1 q0 q1 : Int) (s : ByteArray) (w : World) (he0 : 0 ≤ e0) (h2 : 0 ≤ e1) (h3 : e1 ≤ 4294967295) (hs : ¬ (1048576 : Int) < (s.size : Int)) (hv : vB e0 e1 = false) : Calls Try.prog 7 #[.int .u32 p0, .int .u32 p1, .int .u32 e0, .int .u32 e1, .int .u32 q0, .int .u32 q1, .string s] w fun e w' => e = .returned (.bool true) ∧ Below w.heap.size w w' := by
  go_enter Try.func7, Try.ntmps7
  go_wp2_with (first | (go_at_call 33; refine (mkPos21 _ _ _).mono ?_; rintro e w' ⟨rfl, rfl⟩) | (go_at_call 34; refine (redPosN (w.heap.size + 1 + 1 + 1 + 1 + 1) (w.heap.size + 1 + 1) p0 p1 _ (by simp [go_sem]) (by simp [go_sem]) (by simp [go_sem])).mono ?_; rintro e w' ⟨rfl, rfl⟩) | (go_at_call 35; refine (litPosX (w.heap.size + 1 + 1) p0 p1 _ (by simp [go_sem]) (by simp [go_sem])).mono ?_; rintro e w' ⟨rfl, rfl⟩) | (go_at_call 36; refine (same36 _ _ _).mono ?_; rintro e w' ⟨rfl, rfl⟩) | go_in)
  refine wp_world (fun W => W.cell? ⟨w.heap.size + 1 + 1, 0, none⟩ = some (.int .u32 p0) ∧ W.cell? ⟨w.heap.size + 1 + 1, 1, none⟩ = some (.int .u32 p1) ∧ W.cell? ⟨w.heap.size + 1 + 1, 2, none⟩ = some (.int .u32 e0) ∧ W.cell? ⟨w.heap.size + 1 + 1, 3, none⟩ = some (.int .u32 e1) ∧ W.cell? ⟨w.heap.size + 1 + 1 + 1 + 1, 0, none⟩ = some (.int .u32 q0) ∧ W.cell? ⟨w.heap.size + 1 + 1 + 1 + 1, 1, none⟩ = some (.int .u32 q1) ∧ W.cell? ⟨w.heap.size + 1 + 1 + 1 + 1 + 1 + 1 + 1 + 1 + 1 + 1 + 1 + 1 + 1 + 1, 0, none⟩ = some (.int .u32 q0) ∧ W.cell? ⟨w.heap.size + 1 + 1 + 1 + 1 + 1 + 1 + 1 + 1 + 1 + 1 + 1 + 1 + 1 + 1, 1, none⟩ = some (.int .u32 q1) ∧ W.cell? ⟨w.heap.size + 1 + 1 + 1 + 1 + 1 + 1 + 1 + 1 + 1 + 1 + 1 + 1 + 1 + 1, 3, none⟩ = some (.pointer none) ∧ Below w.heap.size w W)
    ⟨by simp [go_sem], by simp [go_sem], by simp [go_sem], by simp [go_sem], by simp [go_sem], by simp [go_sem], by simp [go_sem], by simp [go_sem], by simp [go_sem], by go_grown⟩ ?_
  rintro W ⟨s0, s1, s2, s3, s4, s5, s6, s7, s8, BW⟩
  go_region_held3 (fun W => W.cell? ⟨w.heap.size + 1 + 1 + 1 + 1, 0, none⟩ = some (.int .u32 q0) ∧ W.cell? ⟨w.heap.size + 1 + 1 + 1 + 1, 1, none⟩ = some (.int .u32 q1)) (exact ⟨cell_later (w := W) (by go_grown) s4, cell_later (w := W) (by go_grown) s5⟩) (first | (go_at_call 34; refine (redPos0 _ q0 q1 _ (cell_later (w := W) (by go_grown) s8) (cell_later (w := W) (by go_grown) s6) (cell_later (w := W) (by go_grown) s7)).mono ?_; rintro e w' ⟨rfl, rfl⟩))
  go_wp2_with fail
  refine (asPos (W.heap.size + 1) (w.heap.size + 1 + 1) p0 p1 _ (by simp [go_sem]) (cell_later (w := W) (by go_grown) s0) (cell_later (w := W) (by go_grown) s1)).mono ?_
  rintro e w' ⟨rfl, rfl⟩
  go_wp2_with fail
  refine (litPosX (w.heap.size + 1 + 1) p0 p1 _ (cell_later (w := W) (by go_grown) s0) (cell_later (w := W) (by go_grown) s1)).mono ?_
  rintro e w' ⟨rfl, rfl⟩
  go_wp2_with fail
  refine (asEndK (W.heap.size + 1 + 1 + 1 + 1 + 1) (w.heap.size + 1 + 1) e0 e1 _ (by simp [go_sem]) (by simp [go_sem]) (by simp [go_sem]) (by simp [go_sem]) (by simp [go_sem]) (cell_later (w := W) (by go_grown) s2) (cell_later (w := W) (by go_grown) s3)).mono ?_
  rintro e w' ⟨rfl, rfl⟩
  go_wp2_with fail
  refine (litEnd (w.heap.size + 1 + 1) e0 e1 _ (cell_later (w := W) (by go_grown) s2) (cell_later (w := W) (by go_grown) s3)).mono ?_
  rintro e w' ⟨rfl, rfl⟩
  go_wp2_with fail
  refine (asEndK (W.heap.size + 1 + 1 + 1 + 1 + 1) (w.heap.size + 1 + 1) e0 e1 _ (by simp [go_sem]) (by simp [go_sem]) (by simp [go_sem]) (by simp [go_sem]) (by simp [go_sem]) (cell_later (w := W) (by go_grown) s2) (cell_later (w := W) (by go_grown) s3)).mono ?_
  rintro e w' ⟨rfl, rfl⟩
  go_wp2_with fail
  refine (same36 _ _ _).mono ?_
  rintro e w' ⟨rfl, rfl⟩
  go_wp2_with fail
  refine (mNextN e0 e1 _ hv).mono ?_
  rintro e w' ⟨rfl, rfl⟩
  go_wp2_with fail
  refine (asEndN (W.heap.size + 1) (w.heap.size + 1 + 1) e0 e1 _ he0 h2 h3 hv (by simp [go_sem]) (by simp [go_sem]) (by simp [go_sem]) (by simp [go_sem]) (by simp [go_sem]) (cell_later (w := W) (by go_grown) s2) (cell_later (w := W) (by go_grown) s3)).mono ?_
  rintro e w' ⟨rfl, rfl⟩
  go_wp2_with fail
  refine (same36 _ _ _).mono ?_
  rintro e w' ⟨rfl, rfl⟩
  go_wp2
  go_ret
  exact ⟨rfl, Below.trans BW (Below.mono (by go_grown) BW.size)⟩

theorem law7 (p0 p1 e0 e1 q0 q1 : Int) (s : ByteArray) (w : World) (he0 : 0 ≤ e0) (h2 : 0 ≤ e1) (h3 : e1 ≤ 4294967295) (hs : s.size ≤ maxLen) : Calls Try.prog 7 #[.int .u32 p0, .int .u32 p1, .int .u32 e0, .int .u32 e1, .int .u32 q0, .int .u32 q1, .string s] w fun e w' => e = .returned (.bool true) ∧ Below w.heap.size w w' := by
  unfold maxLen at hs
  by_cases h : (1048576 : Int) < (s.size : Int)
  · go_enter Try.func7, Try.ntmps7
    go_wp2
    go_ret
    exact ⟨rfl, Below.refl _ _⟩
  · cases hv : vB e0 e1
    · exact mainN p0 p1 e0 e1 q0 q1 s w he0 h2 h3 h hv
    · exact mainY p0 p1 e0 e1 q0 q1 s w he0 h2 h3 h hv
end Go.Proofs.Ytccnpgmceoojmaa.litn
