/-
  A flags subscript without an expression ends at the flags' end moved one byte on: for every value of the raw fields.
-/
import Derived.Test.YtccnpgmceoojmabFlags
namespace Go.Proofs.Ytccnpgmceoojmab.flags
open Go.RowKit

set_option maxHeartbeats 4000000 in
theorem main_true_true (a b c d : Int) (w : World) (hc : 0 ≤ c ∧ c ≤ 4294967295) (hd : 0 ≤ d ∧ d ≤ 4294967295) (r2 : rB c d = true) (r1 : rB a b = true) (hv : vB c d = true) :
    Calls Try.prog 3 #[.int .u32 a, .int .u32 b, .int .u32 c, .int .u32 d] w fun e w' => e = .returned (.bool true) ∧ Below w.heap.size w w' := by
  have bP := pO_bounds c d 1 hc.1 hc.2 (by omega)
  have bL := pL_bounds c d 1 hd.1 hd.2 (by omega)
  have eP : pO c d 1 = if 4294967284 < c + 1 then 4294967284 else c + 1 := by unfold pO; rw [if_pos hv]
  have eL : pL c d 1 / 16384 = d / 16384 := by unfold pL pC; rw [if_pos hv]; split <;> omega
  have eM : pL c d 1 % 16384 = if d % 16384 ≠ 0 ∧ d % 16384 + 1 ≤ 16383 then d % 16384 + 1 else 0 := by
    unfold pL pC
    rw [if_pos hv]
    by_cases g : 0 < d % 16384 ∧ d % 16384 + 1 ≤ 16383
    · rw [if_pos g, if_pos (by omega)]; omega
    · rw [if_neg g, if_neg (by omega)]; omega
  have bP2 : pO c d 1 ≤ 4294967284 := by rw [eP]; split <;> omega
  have EP := Lib.hid eP
  have EL := Lib.hid eL
  have EM := Lib.hid eM
  clear eP eL eM
  go_enter Try.func3, Try.ntmps3
  go_wp2_with (first | (go_at_call 9; refine (reach _ _ _).mono ?_; rintro e w' ⟨rfl, rfl⟩) | (go_at_call 10; refine (mkPos _ _ _).mono ?_; rintro e w' ⟨rfl, rfl⟩))
  refine wp_world (fun W => W.cell? ⟨w.heap.size + 1, 0, none⟩ = some (.int .u32 c) ∧ W.cell? ⟨w.heap.size + 1, 1, none⟩ = some (.int .u32 d) ∧ Below w.heap.size w W)
    ⟨by simp [go_sem], by simp [go_sem], by go_grown⟩ ?_
  rintro W ⟨s0, s1, BW⟩
  go_region_held3 (fun W => W.cell? ⟨w.heap.size + 1, 0, none⟩ = some (.int .u32 c) ∧ W.cell? ⟨w.heap.size + 1, 1, none⟩ = some (.int .u32 d)) (exact ⟨cell_later (w := W) (by go_grown) s0, cell_later (w := W) (by go_grown) s1⟩) (first | (go_at_call 12; refine (zPosY _ _ _ (by assumption)).mono ?_; rintro e w' ⟨rfl, rfl⟩) | (go_at_call 11; refine (flNoX _ _ _ _ _).mono ?_; rintro e w' ⟨rfl, rfl⟩))
  go_wp2_with fail
  refine wp_world (fun V => V.cell? ⟨w.heap.size + 1, 0, none⟩ = some (.int .u32 c) ∧ V.cell? ⟨w.heap.size + 1, 1, none⟩ = some (.int .u32 d) ∧ V.cell? ⟨W.heap.size + 1 + 1 + 1 + 1 + 1, 0, none⟩ = some (.pointer (some ⟨W.heap.size + 1 + 1 + 1 + 1, 0, none⟩)) ∧ V.cell? ⟨W.heap.size + 1 + 1 + 1 + 1 + 1, 1, none⟩ = some .nilIface ∧ V.cell? ⟨W.heap.size + 1 + 1 + 1 + 1, 2, none⟩ = some (.int .u32 c) ∧ V.cell? ⟨W.heap.size + 1 + 1 + 1 + 1, 3, none⟩ = some (.int .u32 d) ∧ Below w.heap.size w V)
    ⟨cell_later (w := W) (by go_grown) s0, cell_later (w := W) (by go_grown) s1, by simp [go_sem], by simp [go_sem], by simp [go_sem], by simp [go_sem], Below.trans BW (Below.mono (by go_grown) BW.size)⟩ ?_
  rintro V ⟨r0, r1', p0, p1, p2, p3, BV⟩
  generalize W.heap.size + 1 + 1 + 1 + 1 + 1 = fb at *
  generalize W.heap.size + 1 + 1 + 1 + 1 = fl at *
  clear s0 s1 BW
  go_region_held3 (fun W => W.cell? ⟨w.heap.size + 1, 0, none⟩ = some (.int .u32 c) ∧ W.cell? ⟨w.heap.size + 1, 1, none⟩ = some (.int .u32 d)) (exact ⟨cell_later (w := V) (by go_grown) r0, cell_later (w := V) (by go_grown) r1'⟩) (first | (go_at_call 10; refine (mkPos _ _ _).mono ?_; rintro e w' ⟨rfl, rfl⟩) | (go_at_call 11; refine (flNoX _ _ _ _ _).mono ?_; rintro e w' ⟨rfl, rfl⟩))
  go_wp2_with fail
  refine (flEndY fb fl c d _ hc.1 hd.1 hd.2 hv (cell_later (w := V) (by go_grown) p0) (cell_later (w := V) (by go_grown) p1) (cell_later (w := V) (by go_grown) p2) (cell_later (w := V) (by go_grown) p3)).mono ?_
  rintro e w1 ⟨rfl, rfl⟩
  go_wp2_with fail
  refine wp_world (fun U => U.cell? ⟨w.heap.size + 1, 0, none⟩ = some (.int .u32 c) ∧ U.cell? ⟨w.heap.size + 1, 1, none⟩ = some (.int .u32 d) ∧ U.cell? ⟨V.heap.size + 1 + 1 + 1 + 1, 0, none⟩ = some (.pointer (some ⟨V.heap.size + 1 + 1 + 1, 0, none⟩)) ∧ U.cell? ⟨V.heap.size + 1 + 1 + 1 + 1, 1, none⟩ = some .nilIface ∧ U.cell? ⟨V.heap.size + 1 + 1 + 1, 2, none⟩ = some (.int .u32 c) ∧ U.cell? ⟨V.heap.size + 1 + 1 + 1, 3, none⟩ = some (.int .u32 d) ∧ U.cell? ⟨V.heap.size + 1 + 1 + 1 + 1 + 1 + 1 + 1 + 1 + 1 + 1 + 1, 0, none⟩ = some (.int .u32 (pO c d 1)) ∧ U.cell? ⟨V.heap.size + 1 + 1 + 1 + 1 + 1 + 1 + 1 + 1 + 1 + 1 + 1, 1, none⟩ = some (.int .u32 (pL c d 1)) ∧ Below w.heap.size w U)
    ⟨cell_later (w := V) (by go_grown) r0, cell_later (w := V) (by go_grown) r1', by simp [go_sem], by simp [go_sem], by simp [go_sem], by simp [go_sem], by simp [go_sem], by simp [go_sem], Below.trans BV (Below.mono (by go_grown) BV.size)⟩ ?_
  rintro U ⟨u0, u1, g0, g1, g2, g3, z0, z1, BU⟩
  generalize V.heap.size + 1 + 1 + 1 + 1 + 1 + 1 + 1 + 1 + 1 + 1 + 1 = vb at *
  generalize V.heap.size + 1 + 1 + 1 + 1 = gb at *
  generalize V.heap.size + 1 + 1 + 1 = gl at *
  clear r0 r1' p0 p1 p2 p3 BV
  go_region_held3 (fun W => W.cell? ⟨w.heap.size + 1, 0, none⟩ = some (.int .u32 c) ∧ W.cell? ⟨w.heap.size + 1, 1, none⟩ = some (.int .u32 d) ∧ W.cell? ⟨vb, 0, none⟩ = some (.int .u32 (pO c d 1)) ∧ W.cell? ⟨vb, 1, none⟩ = some (.int .u32 (pL c d 1))) (exact ⟨cell_later (w := U) (by go_grown) u0, cell_later (w := U) (by go_grown) u1, cell_later (w := U) (by go_grown) z0, cell_later (w := U) (by go_grown) z1⟩) (first | (go_at_call 13; refine (flEndY gb gl c d _ hc.1 hd.1 hd.2 hv (cell_later (w := U) (by go_grown) g0) (cell_later (w := U) (by go_grown) g1) (cell_later (w := U) (by go_grown) g2) (cell_later (w := U) (by go_grown) g3)).mono ?_; rintro e w' ⟨rfl, rfl⟩) | (go_at_call 14; refine (shY _ _ c d _ hv hc hd ⟨bP.1, bP2⟩ bL EL.out EP.out EM.out).mono ?_; rintro e w' ⟨rfl, hb⟩; have hX : Below U.heap.size U w' := Below.trans (by go_grown) (Below.mono hb (by simp; try omega))))
  go_wp2
  go_ret
  exact ⟨rfl, Below.trans BU (Below.mono (by go_grown) BU.size)⟩

set_option maxHeartbeats 4000000 in
theorem main_true_false (a b c d : Int) (w : World) (hc : 0 ≤ c ∧ c ≤ 4294967295) (hd : 0 ≤ d ∧ d ≤ 4294967295) (r2 : rB c d = true) (r1 : rB a b = true) (hv : vB c d = false) :
    Calls Try.prog 3 #[.int .u32 a, .int .u32 b, .int .u32 c, .int .u32 d] w fun e w' => e = .returned (.bool true) ∧ Below w.heap.size w w' := by
  go_enter Try.func3, Try.ntmps3
  go_wp2_with (first | (go_at_call 9; refine (reach _ _ _).mono ?_; rintro e w' ⟨rfl, rfl⟩) | (go_at_call 10; refine (mkPos _ _ _).mono ?_; rintro e w' ⟨rfl, rfl⟩))
  refine wp_world (fun W => W.cell? ⟨w.heap.size + 1, 0, none⟩ = some (.int .u32 c) ∧ W.cell? ⟨w.heap.size + 1, 1, none⟩ = some (.int .u32 d) ∧ Below w.heap.size w W)
    ⟨by simp [go_sem], by simp [go_sem], by go_grown⟩ ?_
  rintro W ⟨s0, s1, BW⟩
  go_region_held3 (fun W => W.cell? ⟨w.heap.size + 1, 0, none⟩ = some (.int .u32 c) ∧ W.cell? ⟨w.heap.size + 1, 1, none⟩ = some (.int .u32 d)) (exact ⟨cell_later (w := W) (by go_grown) s0, cell_later (w := W) (by go_grown) s1⟩) (first | (go_at_call 12; refine (zPosY _ _ _ (by assumption)).mono ?_; rintro e w' ⟨rfl, rfl⟩) | (go_at_call 11; refine (flNoX _ _ _ _ _).mono ?_; rintro e w' ⟨rfl, rfl⟩))
  go_wp2_with fail
  refine wp_world (fun V => V.cell? ⟨w.heap.size + 1, 0, none⟩ = some (.int .u32 c) ∧ V.cell? ⟨w.heap.size + 1, 1, none⟩ = some (.int .u32 d) ∧ V.cell? ⟨W.heap.size + 1 + 1 + 1 + 1 + 1, 0, none⟩ = some (.pointer (some ⟨W.heap.size + 1 + 1 + 1 + 1, 0, none⟩)) ∧ V.cell? ⟨W.heap.size + 1 + 1 + 1 + 1 + 1, 1, none⟩ = some .nilIface ∧ V.cell? ⟨W.heap.size + 1 + 1 + 1 + 1, 2, none⟩ = some (.int .u32 c) ∧ V.cell? ⟨W.heap.size + 1 + 1 + 1 + 1, 3, none⟩ = some (.int .u32 d) ∧ Below w.heap.size w V)
    ⟨cell_later (w := W) (by go_grown) s0, cell_later (w := W) (by go_grown) s1, by simp [go_sem], by simp [go_sem], by simp [go_sem], by simp [go_sem], Below.trans BW (Below.mono (by go_grown) BW.size)⟩ ?_
  rintro V ⟨r0, r1', p0, p1, p2, p3, BV⟩
  generalize W.heap.size + 1 + 1 + 1 + 1 + 1 = fb at *
  generalize W.heap.size + 1 + 1 + 1 + 1 = fl at *
  clear s0 s1 BW
  go_region_held3 (fun W => W.cell? ⟨w.heap.size + 1, 0, none⟩ = some (.int .u32 c) ∧ W.cell? ⟨w.heap.size + 1, 1, none⟩ = some (.int .u32 d)) (exact ⟨cell_later (w := V) (by go_grown) r0, cell_later (w := V) (by go_grown) r1'⟩) (first | (go_at_call 10; refine (mkPos _ _ _).mono ?_; rintro e w' ⟨rfl, rfl⟩) | (go_at_call 11; refine (flNoX _ _ _ _ _).mono ?_; rintro e w' ⟨rfl, rfl⟩))
  go_wp2_with fail
  refine (flEndN fb fl c d _ hc.1 hd.1 hd.2 hv (cell_later (w := V) (by go_grown) p0) (cell_later (w := V) (by go_grown) p1) (cell_later (w := V) (by go_grown) p2) (cell_later (w := V) (by go_grown) p3)).mono ?_
  rintro e w1 ⟨rfl, rfl⟩
  go_wp2_with fail
  refine wp_world (fun U => U.cell? ⟨w.heap.size + 1, 0, none⟩ = some (.int .u32 c) ∧ U.cell? ⟨w.heap.size + 1, 1, none⟩ = some (.int .u32 d) ∧ U.cell? ⟨V.heap.size + 1 + 1 + 1 + 1, 0, none⟩ = some (.pointer (some ⟨V.heap.size + 1 + 1 + 1, 0, none⟩)) ∧ U.cell? ⟨V.heap.size + 1 + 1 + 1 + 1, 1, none⟩ = some .nilIface ∧ U.cell? ⟨V.heap.size + 1 + 1 + 1, 2, none⟩ = some (.int .u32 c) ∧ U.cell? ⟨V.heap.size + 1 + 1 + 1, 3, none⟩ = some (.int .u32 d) ∧ U.cell? ⟨V.heap.size + 1 + 1 + 1 + 1 + 1 + 1 + 1 + 1 + 1 + 1, 0, none⟩ = some (.int .u32 c) ∧ U.cell? ⟨V.heap.size + 1 + 1 + 1 + 1 + 1 + 1 + 1 + 1 + 1 + 1, 1, none⟩ = some (.int .u32 d) ∧ Below w.heap.size w U)
    ⟨cell_later (w := V) (by go_grown) r0, cell_later (w := V) (by go_grown) r1', by simp [go_sem], by simp [go_sem], by simp [go_sem], by simp [go_sem], by simp [go_sem], by simp [go_sem], Below.trans BV (Below.mono (by go_grown) BV.size)⟩ ?_
  rintro U ⟨u0, u1, g0, g1, g2, g3, z0, z1, BU⟩
  generalize V.heap.size + 1 + 1 + 1 + 1 + 1 + 1 + 1 + 1 + 1 + 1 = vb at *
  generalize V.heap.size + 1 + 1 + 1 + 1 = gb at *
  generalize V.heap.size + 1 + 1 + 1 = gl at *
  clear r0 r1' p0 p1 p2 p3 BV
  go_region_held3 (fun W => W.cell? ⟨w.heap.size + 1, 0, none⟩ = some (.int .u32 c) ∧ W.cell? ⟨w.heap.size + 1, 1, none⟩ = some (.int .u32 d) ∧ W.cell? ⟨vb, 0, none⟩ = some (.int .u32 c) ∧ W.cell? ⟨vb, 1, none⟩ = some (.int .u32 d)) (exact ⟨cell_later (w := U) (by go_grown) u0, cell_later (w := U) (by go_grown) u1, cell_later (w := U) (by go_grown) z0, cell_later (w := U) (by go_grown) z1⟩) (first | (go_at_call 13; refine (flEndN gb gl c d _ hc.1 hd.1 hd.2 hv (cell_later (w := U) (by go_grown) g0) (cell_later (w := U) (by go_grown) g1) (cell_later (w := U) (by go_grown) g2) (cell_later (w := U) (by go_grown) g3)).mono ?_; rintro e w' ⟨rfl, rfl⟩) | (go_at_call 14; refine (shN c d _ hv).mono ?_; rintro e w' ⟨rfl, hb⟩; have hX : Below U.heap.size U w' := Below.trans (by go_grown) (Below.mono hb (by simp; try omega))))
  go_wp2
  go_ret
  exact ⟨rfl, Below.trans BU (Below.mono (by go_grown) BU.size)⟩

set_option maxHeartbeats 4000000 in
theorem main_false_true (a b c d : Int) (w : World) (hc : 0 ≤ c ∧ c ≤ 4294967295) (hd : 0 ≤ d ∧ d ≤ 4294967295) (r2 : rB c d = true) (r1 : rB a b = false) (hv : vB c d = true) :
    Calls Try.prog 3 #[.int .u32 a, .int .u32 b, .int .u32 c, .int .u32 d] w fun e w' => e = .returned (.bool true) ∧ Below w.heap.size w w' := by
  have bP := pO_bounds c d 1 hc.1 hc.2 (by omega)
  have bL := pL_bounds c d 1 hd.1 hd.2 (by omega)
  have eP : pO c d 1 = if 4294967284 < c + 1 then 4294967284 else c + 1 := by unfold pO; rw [if_pos hv]
  have eL : pL c d 1 / 16384 = d / 16384 := by unfold pL pC; rw [if_pos hv]; split <;> omega
  have eM : pL c d 1 % 16384 = if d % 16384 ≠ 0 ∧ d % 16384 + 1 ≤ 16383 then d % 16384 + 1 else 0 := by
    unfold pL pC
    rw [if_pos hv]
    by_cases g : 0 < d % 16384 ∧ d % 16384 + 1 ≤ 16383
    · rw [if_pos g, if_pos (by omega)]; omega
    · rw [if_neg g, if_neg (by omega)]; omega
  have bP2 : pO c d 1 ≤ 4294967284 := by rw [eP]; split <;> omega
  have EP := Lib.hid eP
  have EL := Lib.hid eL
  have EM := Lib.hid eM
  clear eP eL eM
  go_enter Try.func3, Try.ntmps3
  go_wp2_with (first | (go_at_call 9; refine (reach _ _ _).mono ?_; rintro e w' ⟨rfl, rfl⟩) | (go_at_call 10; refine (mkPos _ _ _).mono ?_; rintro e w' ⟨rfl, rfl⟩))
  refine wp_world (fun W => W.cell? ⟨w.heap.size + 1, 0, none⟩ = some (.int .u32 c) ∧ W.cell? ⟨w.heap.size + 1, 1, none⟩ = some (.int .u32 d) ∧ Below w.heap.size w W)
    ⟨by simp [go_sem], by simp [go_sem], by go_grown⟩ ?_
  rintro W ⟨s0, s1, BW⟩
  go_region_held3 (fun W => W.cell? ⟨w.heap.size + 1, 0, none⟩ = some (.int .u32 c) ∧ W.cell? ⟨w.heap.size + 1, 1, none⟩ = some (.int .u32 d)) (exact ⟨cell_later (w := W) (by go_grown) s0, cell_later (w := W) (by go_grown) s1⟩) (first | (go_at_call 12; refine (zPosN _ _ _ (by assumption)).mono ?_; rintro e w' ⟨rfl, rfl⟩) | (go_at_call 11; refine (flNoX _ _ _ _ _).mono ?_; rintro e w' ⟨rfl, rfl⟩))
  go_wp2_with fail
  refine wp_world (fun V => V.cell? ⟨w.heap.size + 1, 0, none⟩ = some (.int .u32 c) ∧ V.cell? ⟨w.heap.size + 1, 1, none⟩ = some (.int .u32 d) ∧ V.cell? ⟨W.heap.size + 1 + 1 + 1 + 1 + 1, 0, none⟩ = some (.pointer (some ⟨W.heap.size + 1 + 1 + 1 + 1, 0, none⟩)) ∧ V.cell? ⟨W.heap.size + 1 + 1 + 1 + 1 + 1, 1, none⟩ = some .nilIface ∧ V.cell? ⟨W.heap.size + 1 + 1 + 1 + 1, 2, none⟩ = some (.int .u32 c) ∧ V.cell? ⟨W.heap.size + 1 + 1 + 1 + 1, 3, none⟩ = some (.int .u32 d) ∧ Below w.heap.size w V)
    ⟨cell_later (w := W) (by go_grown) s0, cell_later (w := W) (by go_grown) s1, by simp [go_sem], by simp [go_sem], by simp [go_sem], by simp [go_sem], Below.trans BW (Below.mono (by go_grown) BW.size)⟩ ?_
  rintro V ⟨r0, r1', p0, p1, p2, p3, BV⟩
  generalize W.heap.size + 1 + 1 + 1 + 1 + 1 = fb at *
  generalize W.heap.size + 1 + 1 + 1 + 1 = fl at *
  clear s0 s1 BW
  go_region_held3 (fun W => W.cell? ⟨w.heap.size + 1, 0, none⟩ = some (.int .u32 c) ∧ W.cell? ⟨w.heap.size + 1, 1, none⟩ = some (.int .u32 d)) (exact ⟨cell_later (w := V) (by go_grown) r0, cell_later (w := V) (by go_grown) r1'⟩) (first | (go_at_call 10; refine (mkPos _ _ _).mono ?_; rintro e w' ⟨rfl, rfl⟩) | (go_at_call 11; refine (flNoX _ _ _ _ _).mono ?_; rintro e w' ⟨rfl, rfl⟩))
  go_wp2_with fail
  refine (flEndY fb fl c d _ hc.1 hd.1 hd.2 hv (cell_later (w := V) (by go_grown) p0) (cell_later (w := V) (by go_grown) p1) (cell_later (w := V) (by go_grown) p2) (cell_later (w := V) (by go_grown) p3)).mono ?_
  rintro e w1 ⟨rfl, rfl⟩
  go_wp2_with fail
  refine wp_world (fun U => U.cell? ⟨w.heap.size + 1, 0, none⟩ = some (.int .u32 c) ∧ U.cell? ⟨w.heap.size + 1, 1, none⟩ = some (.int .u32 d) ∧ U.cell? ⟨V.heap.size + 1 + 1 + 1 + 1, 0, none⟩ = some (.pointer (some ⟨V.heap.size + 1 + 1 + 1, 0, none⟩)) ∧ U.cell? ⟨V.heap.size + 1 + 1 + 1 + 1, 1, none⟩ = some .nilIface ∧ U.cell? ⟨V.heap.size + 1 + 1 + 1, 2, none⟩ = some (.int .u32 c) ∧ U.cell? ⟨V.heap.size + 1 + 1 + 1, 3, none⟩ = some (.int .u32 d) ∧ U.cell? ⟨V.heap.size + 1 + 1 + 1 + 1 + 1 + 1 + 1 + 1 + 1 + 1 + 1, 0, none⟩ = some (.int .u32 (pO c d 1)) ∧ U.cell? ⟨V.heap.size + 1 + 1 + 1 + 1 + 1 + 1 + 1 + 1 + 1 + 1 + 1, 1, none⟩ = some (.int .u32 (pL c d 1)) ∧ Below w.heap.size w U)
    ⟨cell_later (w := V) (by go_grown) r0, cell_later (w := V) (by go_grown) r1', by simp [go_sem], by simp [go_sem], by simp [go_sem], by simp [go_sem], by simp [go_sem], by simp [go_sem], Below.trans BV (Below.mono (by go_grown) BV.size)⟩ ?_
  rintro U ⟨u0, u1, g0, g1, g2, g3, z0, z1, BU⟩
  generalize V.heap.size + 1 + 1 + 1 + 1 + 1 + 1 + 1 + 1 + 1 + 1 + 1 = vb at *
  generalize V.heap.size + 1 + 1 + 1 + 1 = gb at *
  generalize V.heap.size + 1 + 1 + 1 = gl at *
  clear r0 r1' p0 p1 p2 p3 BV
  go_region_held3 (fun W => W.cell? ⟨w.heap.size + 1, 0, none⟩ = some (.int .u32 c) ∧ W.cell? ⟨w.heap.size + 1, 1, none⟩ = some (.int .u32 d) ∧ W.cell? ⟨vb, 0, none⟩ = some (.int .u32 (pO c d 1)) ∧ W.cell? ⟨vb, 1, none⟩ = some (.int .u32 (pL c d 1))) (exact ⟨cell_later (w := U) (by go_grown) u0, cell_later (w := U) (by go_grown) u1, cell_later (w := U) (by go_grown) z0, cell_later (w := U) (by go_grown) z1⟩) (first | (go_at_call 13; refine (flEndY gb gl c d _ hc.1 hd.1 hd.2 hv (cell_later (w := U) (by go_grown) g0) (cell_later (w := U) (by go_grown) g1) (cell_later (w := U) (by go_grown) g2) (cell_later (w := U) (by go_grown) g3)).mono ?_; rintro e w' ⟨rfl, rfl⟩) | (go_at_call 14; refine (shY _ _ c d _ hv hc hd ⟨bP.1, bP2⟩ bL EL.out EP.out EM.out).mono ?_; rintro e w' ⟨rfl, hb⟩; have hX : Below U.heap.size U w' := Below.trans (by go_grown) (Below.mono hb (by simp; try omega))))
  go_wp2
  go_ret
  exact ⟨rfl, Below.trans BU (Below.mono (by go_grown) BU.size)⟩

set_option maxHeartbeats 4000000 in
theorem main_false_false (a b c d : Int) (w : World) (hc : 0 ≤ c ∧ c ≤ 4294967295) (hd : 0 ≤ d ∧ d ≤ 4294967295) (r2 : rB c d = true) (r1 : rB a b = false) (hv : vB c d = false) :
    Calls Try.prog 3 #[.int .u32 a, .int .u32 b, .int .u32 c, .int .u32 d] w fun e w' => e = .returned (.bool true) ∧ Below w.heap.size w w' := by
  go_enter Try.func3, Try.ntmps3
  go_wp2_with (first | (go_at_call 9; refine (reach _ _ _).mono ?_; rintro e w' ⟨rfl, rfl⟩) | (go_at_call 10; refine (mkPos _ _ _).mono ?_; rintro e w' ⟨rfl, rfl⟩))
  refine wp_world (fun W => W.cell? ⟨w.heap.size + 1, 0, none⟩ = some (.int .u32 c) ∧ W.cell? ⟨w.heap.size + 1, 1, none⟩ = some (.int .u32 d) ∧ Below w.heap.size w W)
    ⟨by simp [go_sem], by simp [go_sem], by go_grown⟩ ?_
  rintro W ⟨s0, s1, BW⟩
  go_region_held3 (fun W => W.cell? ⟨w.heap.size + 1, 0, none⟩ = some (.int .u32 c) ∧ W.cell? ⟨w.heap.size + 1, 1, none⟩ = some (.int .u32 d)) (exact ⟨cell_later (w := W) (by go_grown) s0, cell_later (w := W) (by go_grown) s1⟩) (first | (go_at_call 12; refine (zPosN _ _ _ (by assumption)).mono ?_; rintro e w' ⟨rfl, rfl⟩) | (go_at_call 11; refine (flNoX _ _ _ _ _).mono ?_; rintro e w' ⟨rfl, rfl⟩))
  go_wp2_with fail
  refine wp_world (fun V => V.cell? ⟨w.heap.size + 1, 0, none⟩ = some (.int .u32 c) ∧ V.cell? ⟨w.heap.size + 1, 1, none⟩ = some (.int .u32 d) ∧ V.cell? ⟨W.heap.size + 1 + 1 + 1 + 1 + 1, 0, none⟩ = some (.pointer (some ⟨W.heap.size + 1 + 1 + 1 + 1, 0, none⟩)) ∧ V.cell? ⟨W.heap.size + 1 + 1 + 1 + 1 + 1, 1, none⟩ = some .nilIface ∧ V.cell? ⟨W.heap.size + 1 + 1 + 1 + 1, 2, none⟩ = some (.int .u32 c) ∧ V.cell? ⟨W.heap.size + 1 + 1 + 1 + 1, 3, none⟩ = some (.int .u32 d) ∧ Below w.heap.size w V)
    ⟨cell_later (w := W) (by go_grown) s0, cell_later (w := W) (by go_grown) s1, by simp [go_sem], by simp [go_sem], by simp [go_sem], by simp [go_sem], Below.trans BW (Below.mono (by go_grown) BW.size)⟩ ?_
  rintro V ⟨r0, r1', p0, p1, p2, p3, BV⟩
  generalize W.heap.size + 1 + 1 + 1 + 1 + 1 = fb at *
  generalize W.heap.size + 1 + 1 + 1 + 1 = fl at *
  clear s0 s1 BW
  go_region_held3 (fun W => W.cell? ⟨w.heap.size + 1, 0, none⟩ = some (.int .u32 c) ∧ W.cell? ⟨w.heap.size + 1, 1, none⟩ = some (.int .u32 d)) (exact ⟨cell_later (w := V) (by go_grown) r0, cell_later (w := V) (by go_grown) r1'⟩) (first | (go_at_call 10; refine (mkPos _ _ _).mono ?_; rintro e w' ⟨rfl, rfl⟩) | (go_at_call 11; refine (flNoX _ _ _ _ _).mono ?_; rintro e w' ⟨rfl, rfl⟩))
  go_wp2_with fail
  refine (flEndN fb fl c d _ hc.1 hd.1 hd.2 hv (cell_later (w := V) (by go_grown) p0) (cell_later (w := V) (by go_grown) p1) (cell_later (w := V) (by go_grown) p2) (cell_later (w := V) (by go_grown) p3)).mono ?_
  rintro e w1 ⟨rfl, rfl⟩
  go_wp2_with fail
  refine wp_world (fun U => U.cell? ⟨w.heap.size + 1, 0, none⟩ = some (.int .u32 c) ∧ U.cell? ⟨w.heap.size + 1, 1, none⟩ = some (.int .u32 d) ∧ U.cell? ⟨V.heap.size + 1 + 1 + 1 + 1, 0, none⟩ = some (.pointer (some ⟨V.heap.size + 1 + 1 + 1, 0, none⟩)) ∧ U.cell? ⟨V.heap.size + 1 + 1 + 1 + 1, 1, none⟩ = some .nilIface ∧ U.cell? ⟨V.heap.size + 1 + 1 + 1, 2, none⟩ = some (.int .u32 c) ∧ U.cell? ⟨V.heap.size + 1 + 1 + 1, 3, none⟩ = some (.int .u32 d) ∧ U.cell? ⟨V.heap.size + 1 + 1 + 1 + 1 + 1 + 1 + 1 + 1 + 1 + 1, 0, none⟩ = some (.int .u32 c) ∧ U.cell? ⟨V.heap.size + 1 + 1 + 1 + 1 + 1 + 1 + 1 + 1 + 1 + 1, 1, none⟩ = some (.int .u32 d) ∧ Below w.heap.size w U)
    ⟨cell_later (w := V) (by go_grown) r0, cell_later (w := V) (by go_grown) r1', by simp [go_sem], by simp [go_sem], by simp [go_sem], by simp [go_sem], by simp [go_sem], by simp [go_sem], Below.trans BV (Below.mono (by go_grown) BV.size)⟩ ?_
  rintro U ⟨u0, u1, g0, g1, g2, g3, z0, z1, BU⟩
  generalize V.heap.size + 1 + 1 + 1 + 1 + 1 + 1 + 1 + 1 + 1 + 1 = vb at *
  generalize V.heap.size + 1 + 1 + 1 + 1 = gb at *
  generalize V.heap.size + 1 + 1 + 1 = gl at *
  clear r0 r1' p0 p1 p2 p3 BV
  go_region_held3 (fun W => W.cell? ⟨w.heap.size + 1, 0, none⟩ = some (.int .u32 c) ∧ W.cell? ⟨w.heap.size + 1, 1, none⟩ = some (.int .u32 d) ∧ W.cell? ⟨vb, 0, none⟩ = some (.int .u32 c) ∧ W.cell? ⟨vb, 1, none⟩ = some (.int .u32 d)) (exact ⟨cell_later (w := U) (by go_grown) u0, cell_later (w := U) (by go_grown) u1, cell_later (w := U) (by go_grown) z0, cell_later (w := U) (by go_grown) z1⟩) (first | (go_at_call 13; refine (flEndN gb gl c d _ hc.1 hd.1 hd.2 hv (cell_later (w := U) (by go_grown) g0) (cell_later (w := U) (by go_grown) g1) (cell_later (w := U) (by go_grown) g2) (cell_later (w := U) (by go_grown) g3)).mono ?_; rintro e w' ⟨rfl, rfl⟩) | (go_at_call 14; refine (shN c d _ hv).mono ?_; rintro e w' ⟨rfl, hb⟩; have hX : Below U.heap.size U w' := Below.trans (by go_grown) (Below.mono hb (by simp; try omega))))
  go_wp2
  go_ret
  exact ⟨rfl, Below.trans BU (Below.mono (by go_grown) BU.size)⟩

theorem law3 (a b c d : Int) (w : World) (hc : 0 ≤ c ∧ c ≤ 4294967295) (hd : 0 ≤ d ∧ d ≤ 4294967295) :
    Calls Try.prog 3 #[.int .u32 a, .int .u32 b, .int .u32 c, .int .u32 d] w fun e w' => e = .returned (.bool true) ∧ Below w.heap.size w w' := by
  cases r2 : rB c d with
  | false =>
    go_enter Try.func3, Try.ntmps3
    go_wp2_with (go_at_call 9; refine (reach _ _ _).mono ?_; rintro e w' ⟨rfl, rfl⟩)
    go_ret
    exact ⟨rfl, Below.refl _ _⟩
  | true =>
  cases r1 : rB a b with
  | true =>
    cases hv : vB c d with
    | true => exact main_true_true a b c d w hc hd r2 r1 hv
    | false => exact main_true_false a b c d w hc hd r2 r1 hv
  | false =>
    cases hv : vB c d with
    | true => exact main_false_true a b c d w hc hd r2 r1 hv
    | false => exact main_false_false a b c d w hc hd r2 r1 hv

end Go.Proofs.Ytccnpgmceoojmab.flags
