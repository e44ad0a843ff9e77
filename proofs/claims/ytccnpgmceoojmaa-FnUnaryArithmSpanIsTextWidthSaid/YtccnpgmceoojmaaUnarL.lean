/-
  A unary arithmetic node laid out on one line spans exactly its text: for every layout with room for columns and offsets.
-/
import Derived.Test.YtccnpgmceoojmaaUnar
namespace Go.Proofs.Ytccnpgmceoojmaa.unar
open Go.RowKit

set_option maxHeartbeats 4000000 in
set_option maxRecDepth 100000 in
theorem mainTT (x ln c v : Int) (w : World) (hx : 0 ≤ x) (hx2 : x ≤ 4294967284 - v - 2) (hl1 : 1 ≤ ln) (hl2 : ln ≤ 262143) (hc1 : 1 ≤ c) (hc2 : c ≤ 16383) (hv1 : 1 ≤ v) (hv2 : v ≤ 16383) (hcv : c + v + 2 ≤ 16383) : Calls Try.prog 3 #[.bool true, .bool true, .int .u32 x, .int .u32 ln, .int .u32 c, .int .u32 v] w fun e w' => e = .returned (.bool true) ∧ Below w.heap.size w w' := by
  have q1 : ¬ ln < 1 := by omega
  have q2 : ¬ 262143 < ln := by omega
  have q3 : ¬ c < 1 := by omega
  have q4 : ¬ 16383 < c := by omega
  have q5 : ¬ v < 1 := by omega
  have q6 : ¬ 16383 < v := by omega
  have q7 : ¬ 16383 < c + v + 2 := by omega
  have q8 : ¬ 4294967284 - v - 2 < x := by omega
  have hvv : vB (x + v) (ln * 16384 + c + v) = true := by simp [vB]; omega
  have HP := Lib.hid (show pO (x + v) (ln * 16384 + c + v) 2 = x + v + 2 by unfold pO; rw [if_pos hvv, if_neg (by omega)])
  have HL := Lib.hid (show pL (x + v) (ln * 16384 + c + v) 2 = ln * 16384 + c + v + 2 by unfold pL pC; rw [if_pos hvv, if_pos (by omega)]; omega)
  clear hvv
  go_enter Try.func3, Try.ntmps3
  go_wp2_with (first | (go_at_call 9; refine (mkPos24 _ _ _).mono ?_; rintro e w' ⟨rfl, rfl⟩) | (go_at_call 10; refine (newUA _ _ _ _ _ _ _ _ _).mono ?_; rintro e w' ⟨rfl, rfl⟩))
  refine (uaPosT (w.heap.size + 1 + 1 + 1 + 1 + 1 + 1 + 1 + 1 + 1 + 1 + 1 + 1) (w.heap.size + 1 + 1 + 1 + 1 + 1 + 1 + 1 + 1 + 1 + 1 + 1) (w.heap.size + 1 + 1 + 1 + 1 + 1 + 1 + 1 + 1 + 1 + 1) (w.heap.size + 1 + 1 + 1 + 1 + 1 + 1 + 1 + 1 + 1) x (ln * 16384 + c) _ (by simp [go_sem]) (by simp [go_sem]) (by simp [go_sem]) (by simp [go_sem]) (by simp [go_sem]) (by simp [go_sem])).mono ?_
  rintro e w1 ⟨rfl, hb1⟩
  have k0 : w1.cell? ⟨w.heap.size + 1 + 1 + 1 + 1 + 1 + 1 + 1 + 1 + 1 + 1 + 1 + 1, 3, none⟩ = some (.bool true) := cell_later hb1 (by simp [go_sem])
  have k1 : w1.cell? ⟨w.heap.size + 1 + 1 + 1 + 1 + 1 + 1 + 1 + 1 + 1 + 1 + 1 + 1, 0, none⟩ = some (.int .u32 (x + v)) := cell_later hb1 (by simp [go_sem])
  have k2 : w1.cell? ⟨w.heap.size + 1 + 1 + 1 + 1 + 1 + 1 + 1 + 1 + 1 + 1 + 1 + 1, 1, none⟩ = some (.int .u32 (ln * 16384 + c + v)) := cell_later hb1 (by simp [go_sem])
  have B1 : Below w.heap.size w w1 := Below.trans (by go_grown) (hb1.mono (by simp; omega))
  clear hb1
  go_wp2_with fail
  refine (uaEndT _ (x + v) (ln * 16384 + c + v) _ (by omega) (by omega) (by omega) (cell_later (w := w1) (by go_grown) k0) (cell_later (w := w1) (by go_grown) k1) (cell_later (w := w1) (by go_grown) k2)).mono ?_
  rintro e w2 ⟨rfl, hb2⟩
  rw [HP.out, HL.out]
  have m0 : w2.cell? ⟨w1.heap.size, 0, none⟩ = some (.int .u32 x) := cell_later hb2 (by simp [go_sem])
  have m1 : w2.cell? ⟨w1.heap.size, 1, none⟩ = some (.int .u32 (ln * 16384 + c)) := cell_later hb2 (by simp [go_sem])
  have B2 : Below w.heap.size w w2 := Below.trans (Below.trans B1 (Below.mono (by go_grown) B1.size)) (hb2.mono (by have := B1.size; simp; omega))
  clear hb2 B1 k0 k1 k2
  generalize w1.heap.size = pb at *
  have hz := lt_of_cell m0
  have f1 : (ln * 16384 + c + v + 2) / 16384 = ln := by omega
  have f2 : (ln * 16384 + c + v + 2) % 16384 = c + (v + 2) := by omega
  go_wp2_with (first | (go_at_call 13; refine (same13 _ _ _).mono ?_; rintro e w' ⟨rfl, rfl⟩) | (go_at_call 14; refine (line _ _ _ (by omega) (by omega)).mono ?_; rintro e w' ⟨rfl, rfl⟩) | (go_at_call 15; refine (col _ _ _ (by omega) (by omega)).mono ?_; rintro e w' ⟨rfl, rfl⟩))
  refine wp_world (fun W => W.cell? ⟨pb, 0, none⟩ = some (.int .u32 x) ∧ W.cell? ⟨pb, 1, none⟩ = some (.int .u32 (ln * 16384 + c)) ∧ W.cell? ⟨w2.heap.size, 0, none⟩ = some (.int .u32 (x + v + 2)) ∧ W.cell? ⟨w2.heap.size, 1, none⟩ = some (.int .u32 (ln * 16384 + c + v + 2)) ∧ Below w.heap.size w W)
    ⟨cell_later (w := w2) (by go_grown) m0, cell_later (w := w2) (by go_grown) m1, by simp [go_sem], by simp [go_sem], Below.trans B2 (Below.mono (by go_grown) B2.size)⟩ ?_
  rintro W ⟨s0, s1, s2, s3, BW⟩
  have o1 : oI (x + v + 2) = x + v + 2 := by unfold oI; rw [if_neg (by omega)]
  have o2 : oI x = x := by unfold oI; rw [if_neg (by omega)]
  have h5 : ¬ x + v + 2 < x := by omega
  have x1 : IntKind.u64.wrap (x + v + 2 - x) = x + v + 2 - x := IntWalk.u64_in _ (by omega)
  have x2 : IntKind.u64.wrap (v + 2) = v + 2 := IntWalk.u64_in _ (by omega)
  have x3 : (x + v + 2 - x == v + 2) = true := by simp; omega
  go_region_held3 (fun W => W.cell? ⟨pb, 0, none⟩ = some (.int .u32 x) ∧ W.cell? ⟨pb, 1, none⟩ = some (.int .u32 (ln * 16384 + c)) ∧ W.cell? ⟨w2.heap.size, 0, none⟩ = some (.int .u32 (x + v + 2)) ∧ W.cell? ⟨w2.heap.size, 1, none⟩ = some (.int .u32 (ln * 16384 + c + v + 2))) (exact ⟨cell_later (w := W) (by go_grown) s0, cell_later (w := W) (by go_grown) s1, cell_later (w := W) (by go_grown) s2, cell_later (w := W) (by go_grown) s3⟩) (first | (go_at_call 16; refine (offset _ _ _ (by omega) (by omega)).mono ?_; rintro e w' ⟨rfl, rfl⟩))
  go_wp2_with fail
  refine wp_world (fun W' => W'.cell? ⟨pb, 0, none⟩ = some (.int .u32 x) ∧ W'.cell? ⟨pb, 1, none⟩ = some (.int .u32 (ln * 16384 + c)) ∧ W'.cell? ⟨w2.heap.size, 0, none⟩ = some (.int .u32 (x + v + 2)) ∧ W'.cell? ⟨w2.heap.size, 1, none⟩ = some (.int .u32 (ln * 16384 + c + v + 2)) ∧ Below w.heap.size w W')
    ⟨cell_later (w := W) (by go_grown) s0, cell_later (w := W) (by go_grown) s1, cell_later (w := W) (by go_grown) s2, cell_later (w := W) (by go_grown) s3, Below.trans BW (Below.mono (by go_grown) BW.size)⟩ ?_
  rintro W2 ⟨t0, t1, t2, t3, BW2⟩
  go_region_held3 (fun W => W.cell? ⟨pb, 0, none⟩ = some (.int .u32 x) ∧ W.cell? ⟨pb, 1, none⟩ = some (.int .u32 (ln * 16384 + c)) ∧ W.cell? ⟨w2.heap.size, 0, none⟩ = some (.int .u32 (x + v + 2)) ∧ W.cell? ⟨w2.heap.size, 1, none⟩ = some (.int .u32 (ln * 16384 + c + v + 2))) (exact ⟨cell_later (w := W2) (by go_grown) t0, cell_later (w := W2) (by go_grown) t1, cell_later (w := W2) (by go_grown) t2, cell_later (w := W2) (by go_grown) t3⟩) (first | (go_at_call 16; refine (offset _ _ _ (by omega) (by omega)).mono ?_; rintro e w' ⟨rfl, rfl⟩))
  go_wp2
  go_ret
  exact ⟨rfl, Below.trans BW2 (Below.mono (by go_grown) BW2.size)⟩
set_option maxHeartbeats 4000000 in
set_option maxRecDepth 100000 in
theorem mainTF (x ln c v : Int) (w : World) (hx : 0 ≤ x) (hx2 : x ≤ 4294967284 - v - 2) (hl1 : 1 ≤ ln) (hl2 : ln ≤ 262143) (hc1 : 1 ≤ c) (hc2 : c ≤ 16383) (hv1 : 1 ≤ v) (hv2 : v ≤ 16383) (hcv : c + v + 2 ≤ 16383) : Calls Try.prog 3 #[.bool true, .bool false, .int .u32 x, .int .u32 ln, .int .u32 c, .int .u32 v] w fun e w' => e = .returned (.bool true) ∧ Below w.heap.size w w' := by
  have q1 : ¬ ln < 1 := by omega
  have q2 : ¬ 262143 < ln := by omega
  have q3 : ¬ c < 1 := by omega
  have q4 : ¬ 16383 < c := by omega
  have q5 : ¬ v < 1 := by omega
  have q6 : ¬ 16383 < v := by omega
  have q7 : ¬ 16383 < c + v + 2 := by omega
  have q8 : ¬ 4294967284 - v - 2 < x := by omega
  have hvv : vB (x + v) (ln * 16384 + c + v) = true := by simp [vB]; omega
  have HP := Lib.hid (show pO (x + v) (ln * 16384 + c + v) 2 = x + v + 2 by unfold pO; rw [if_pos hvv, if_neg (by omega)])
  have HL := Lib.hid (show pL (x + v) (ln * 16384 + c + v) 2 = ln * 16384 + c + v + 2 by unfold pL pC; rw [if_pos hvv, if_pos (by omega)]; omega)
  clear hvv
  go_enter Try.func3, Try.ntmps3
  go_wp2_with (first | (go_at_call 9; refine (mkPos24 _ _ _).mono ?_; rintro e w' ⟨rfl, rfl⟩) | (go_at_call 10; refine (newUA _ _ _ _ _ _ _ _ _).mono ?_; rintro e w' ⟨rfl, rfl⟩))
  refine (uaPosT (w.heap.size + 1 + 1 + 1 + 1 + 1 + 1 + 1 + 1 + 1 + 1 + 1 + 1) (w.heap.size + 1 + 1 + 1 + 1 + 1 + 1 + 1 + 1 + 1 + 1 + 1) (w.heap.size + 1 + 1 + 1 + 1 + 1 + 1 + 1 + 1 + 1 + 1) (w.heap.size + 1 + 1 + 1 + 1 + 1 + 1 + 1 + 1 + 1) x (ln * 16384 + c) _ (by simp [go_sem]) (by simp [go_sem]) (by simp [go_sem]) (by simp [go_sem]) (by simp [go_sem]) (by simp [go_sem])).mono ?_
  rintro e w1 ⟨rfl, hb1⟩
  have k0 : w1.cell? ⟨w.heap.size + 1 + 1 + 1 + 1 + 1 + 1 + 1 + 1 + 1 + 1 + 1 + 1, 3, none⟩ = some (.bool true) := cell_later hb1 (by simp [go_sem])
  have k1 : w1.cell? ⟨w.heap.size + 1 + 1 + 1 + 1 + 1 + 1 + 1 + 1 + 1 + 1 + 1 + 1, 0, none⟩ = some (.int .u32 (x + v)) := cell_later hb1 (by simp [go_sem])
  have k2 : w1.cell? ⟨w.heap.size + 1 + 1 + 1 + 1 + 1 + 1 + 1 + 1 + 1 + 1 + 1 + 1, 1, none⟩ = some (.int .u32 (ln * 16384 + c + v)) := cell_later hb1 (by simp [go_sem])
  have B1 : Below w.heap.size w w1 := Below.trans (by go_grown) (hb1.mono (by simp; omega))
  clear hb1
  go_wp2_with fail
  refine (uaEndT _ (x + v) (ln * 16384 + c + v) _ (by omega) (by omega) (by omega) (cell_later (w := w1) (by go_grown) k0) (cell_later (w := w1) (by go_grown) k1) (cell_later (w := w1) (by go_grown) k2)).mono ?_
  rintro e w2 ⟨rfl, hb2⟩
  rw [HP.out, HL.out]
  have m0 : w2.cell? ⟨w1.heap.size, 0, none⟩ = some (.int .u32 x) := cell_later hb2 (by simp [go_sem])
  have m1 : w2.cell? ⟨w1.heap.size, 1, none⟩ = some (.int .u32 (ln * 16384 + c)) := cell_later hb2 (by simp [go_sem])
  have B2 : Below w.heap.size w w2 := Below.trans (Below.trans B1 (Below.mono (by go_grown) B1.size)) (hb2.mono (by have := B1.size; simp; omega))
  clear hb2 B1 k0 k1 k2
  generalize w1.heap.size = pb at *
  have hz := lt_of_cell m0
  have f1 : (ln * 16384 + c + v + 2) / 16384 = ln := by omega
  have f2 : (ln * 16384 + c + v + 2) % 16384 = c + (v + 2) := by omega
  go_wp2_with (first | (go_at_call 13; refine (same13 _ _ _).mono ?_; rintro e w' ⟨rfl, rfl⟩) | (go_at_call 14; refine (line _ _ _ (by omega) (by omega)).mono ?_; rintro e w' ⟨rfl, rfl⟩) | (go_at_call 15; refine (col _ _ _ (by omega) (by omega)).mono ?_; rintro e w' ⟨rfl, rfl⟩))
  refine wp_world (fun W => W.cell? ⟨pb, 0, none⟩ = some (.int .u32 x) ∧ W.cell? ⟨pb, 1, none⟩ = some (.int .u32 (ln * 16384 + c)) ∧ W.cell? ⟨w2.heap.size, 0, none⟩ = some (.int .u32 (x + v + 2)) ∧ W.cell? ⟨w2.heap.size, 1, none⟩ = some (.int .u32 (ln * 16384 + c + v + 2)) ∧ Below w.heap.size w W)
    ⟨cell_later (w := w2) (by go_grown) m0, cell_later (w := w2) (by go_grown) m1, by simp [go_sem], by simp [go_sem], Below.trans B2 (Below.mono (by go_grown) B2.size)⟩ ?_
  rintro W ⟨s0, s1, s2, s3, BW⟩
  have o1 : oI (x + v + 2) = x + v + 2 := by unfold oI; rw [if_neg (by omega)]
  have o2 : oI x = x := by unfold oI; rw [if_neg (by omega)]
  have h5 : ¬ x + v + 2 < x := by omega
  have x1 : IntKind.u64.wrap (x + v + 2 - x) = x + v + 2 - x := IntWalk.u64_in _ (by omega)
  have x2 : IntKind.u64.wrap (v + 2) = v + 2 := IntWalk.u64_in _ (by omega)
  have x3 : (x + v + 2 - x == v + 2) = true := by simp; omega
  go_region_held3 (fun W => W.cell? ⟨pb, 0, none⟩ = some (.int .u32 x) ∧ W.cell? ⟨pb, 1, none⟩ = some (.int .u32 (ln * 16384 + c)) ∧ W.cell? ⟨w2.heap.size, 0, none⟩ = some (.int .u32 (x + v + 2)) ∧ W.cell? ⟨w2.heap.size, 1, none⟩ = some (.int .u32 (ln * 16384 + c + v + 2))) (exact ⟨cell_later (w := W) (by go_grown) s0, cell_later (w := W) (by go_grown) s1, cell_later (w := W) (by go_grown) s2, cell_later (w := W) (by go_grown) s3⟩) (first | (go_at_call 16; refine (offset _ _ _ (by omega) (by omega)).mono ?_; rintro e w' ⟨rfl, rfl⟩))
  go_wp2_with fail
  refine wp_world (fun W' => W'.cell? ⟨pb, 0, none⟩ = some (.int .u32 x) ∧ W'.cell? ⟨pb, 1, none⟩ = some (.int .u32 (ln * 16384 + c)) ∧ W'.cell? ⟨w2.heap.size, 0, none⟩ = some (.int .u32 (x + v + 2)) ∧ W'.cell? ⟨w2.heap.size, 1, none⟩ = some (.int .u32 (ln * 16384 + c + v + 2)) ∧ Below w.heap.size w W')
    ⟨cell_later (w := W) (by go_grown) s0, cell_later (w := W) (by go_grown) s1, cell_later (w := W) (by go_grown) s2, cell_later (w := W) (by go_grown) s3, Below.trans BW (Below.mono (by go_grown) BW.size)⟩ ?_
  rintro W2 ⟨t0, t1, t2, t3, BW2⟩
  go_region_held3 (fun W => W.cell? ⟨pb, 0, none⟩ = some (.int .u32 x) ∧ W.cell? ⟨pb, 1, none⟩ = some (.int .u32 (ln * 16384 + c)) ∧ W.cell? ⟨w2.heap.size, 0, none⟩ = some (.int .u32 (x + v + 2)) ∧ W.cell? ⟨w2.heap.size, 1, none⟩ = some (.int .u32 (ln * 16384 + c + v + 2))) (exact ⟨cell_later (w := W2) (by go_grown) t0, cell_later (w := W2) (by go_grown) t1, cell_later (w := W2) (by go_grown) t2, cell_later (w := W2) (by go_grown) t3⟩) (first | (go_at_call 16; refine (offset _ _ _ (by omega) (by omega)).mono ?_; rintro e w' ⟨rfl, rfl⟩))
  go_wp2
  go_ret
  exact ⟨rfl, Below.trans BW2 (Below.mono (by go_grown) BW2.size)⟩
set_option maxHeartbeats 4000000 in
set_option maxRecDepth 100000 in
theorem mainFT (x ln c v : Int) (w : World) (hx : 0 ≤ x) (hx2 : x ≤ 4294967284 - v - 2) (hl1 : 1 ≤ ln) (hl2 : ln ≤ 262143) (hc1 : 1 ≤ c) (hc2 : c ≤ 16383) (hv1 : 1 ≤ v) (hv2 : v ≤ 16383) (hcv : c + v + 2 ≤ 16383) : Calls Try.prog 3 #[.bool false, .bool true, .int .u32 x, .int .u32 ln, .int .u32 c, .int .u32 v] w fun e w' => e = .returned (.bool true) ∧ Below w.heap.size w w' := by
  have q1 : ¬ ln < 1 := by omega
  have q2 : ¬ 262143 < ln := by omega
  have q3 : ¬ c < 1 := by omega
  have q4 : ¬ 16383 < c := by omega
  have q5 : ¬ v < 1 := by omega
  have q6 : ¬ 16383 < v := by omega
  have q7 : ¬ 16383 < c + v + 2 := by omega
  have q8 : ¬ 4294967284 - v - 2 < x := by omega
  go_enter Try.func3, Try.ntmps3
  go_wp2_with (first | (go_at_call 9; refine (mkPos24 _ _ _).mono ?_; rintro e w' ⟨rfl, rfl⟩) | (go_at_call 10; refine (newUA _ _ _ _ _ _ _ _ _).mono ?_; rintro e w' ⟨rfl, rfl⟩))
  refine (uaPosFX (w.heap.size + 1 + 1 + 1 + 1 + 1 + 1 + 1 + 1 + 1 + 1 + 1 + 1) x (ln * 16384 + c) _ (by simp [go_sem]) (by simp [go_sem]) (by simp [go_sem])).mono ?_
  rintro e w1 ⟨rfl, rfl⟩
  go_wp2_with fail
  refine (uaEndF (w.heap.size + 1 + 1 + 1 + 1 + 1 + 1 + 1 + 1 + 1 + 1 + 1 + 1) (w.heap.size + 1 + 1 + 1 + 1 + 1 + 1 + 1 + 1 + 1 + 1 + 1) (w.heap.size + 1 + 1 + 1 + 1 + 1 + 1 + 1 + 1 + 1 + 1) (w.heap.size + 1 + 1 + 1 + 1 + 1 + 1 + 1 + 1 + 1) (x + 2 + v) (ln * 16384 + c + 2 + v) _ (by simp [go_sem]) (by simp [go_sem]) (by simp [go_sem]) (by simp [go_sem]) (by simp [go_sem]) (by simp [go_sem])).mono ?_
  rintro e w2 ⟨rfl, hb2⟩
  have m0 : w2.cell? ⟨w.heap.size + 1 + 1 + 1 + 1 + 1 + 1 + 1 + 1 + 1 + 1 + 1 + 1 + 1 + 1, 0, none⟩ = some (.int .u32 x) := cell_later hb2 (by simp [go_sem])
  have m1 : w2.cell? ⟨w.heap.size + 1 + 1 + 1 + 1 + 1 + 1 + 1 + 1 + 1 + 1 + 1 + 1 + 1 + 1, 1, none⟩ = some (.int .u32 (ln * 16384 + c)) := cell_later hb2 (by simp [go_sem])
  have B2 : Below w.heap.size w w2 := Below.trans (by go_grown) (hb2.mono (by simp; omega))
  clear hb2
  generalize w.heap.size + 1 + 1 + 1 + 1 + 1 + 1 + 1 + 1 + 1 + 1 + 1 + 1 + 1 + 1 = pb at *
  have hz := lt_of_cell m0
  have f1 : (ln * 16384 + c + 2 + v) / 16384 = ln := by omega
  have f2 : (ln * 16384 + c + 2 + v) % 16384 = c + (2 + v) := by omega
  go_wp2_with (first | (go_at_call 13; refine (same13 _ _ _).mono ?_; rintro e w' ⟨rfl, rfl⟩) | (go_at_call 14; refine (line _ _ _ (by omega) (by omega)).mono ?_; rintro e w' ⟨rfl, rfl⟩) | (go_at_call 15; refine (col _ _ _ (by omega) (by omega)).mono ?_; rintro e w' ⟨rfl, rfl⟩))
  refine wp_world (fun W => W.cell? ⟨pb, 0, none⟩ = some (.int .u32 x) ∧ W.cell? ⟨pb, 1, none⟩ = some (.int .u32 (ln * 16384 + c)) ∧ W.cell? ⟨w2.heap.size, 0, none⟩ = some (.int .u32 (x + 2 + v)) ∧ W.cell? ⟨w2.heap.size, 1, none⟩ = some (.int .u32 (ln * 16384 + c + 2 + v)) ∧ Below w.heap.size w W)
    ⟨cell_later (w := w2) (by go_grown) m0, cell_later (w := w2) (by go_grown) m1, by simp [go_sem], by simp [go_sem], Below.trans B2 (Below.mono (by go_grown) B2.size)⟩ ?_
  rintro W ⟨s0, s1, s2, s3, BW⟩
  have o1 : oI (x + 2 + v) = x + 2 + v := by unfold oI; rw [if_neg (by omega)]
  have o2 : oI x = x := by unfold oI; rw [if_neg (by omega)]
  have h5 : ¬ x + 2 + v < x := by omega
  have x1 : IntKind.u64.wrap (x + 2 + v - x) = x + 2 + v - x := IntWalk.u64_in _ (by omega)
  have x2 : IntKind.u64.wrap (2 + v) = 2 + v := IntWalk.u64_in _ (by omega)
  have x3 : (x + 2 + v - x == 2 + v) = true := by simp; omega
  go_region_held3 (fun W => W.cell? ⟨pb, 0, none⟩ = some (.int .u32 x) ∧ W.cell? ⟨pb, 1, none⟩ = some (.int .u32 (ln * 16384 + c)) ∧ W.cell? ⟨w2.heap.size, 0, none⟩ = some (.int .u32 (x + 2 + v)) ∧ W.cell? ⟨w2.heap.size, 1, none⟩ = some (.int .u32 (ln * 16384 + c + 2 + v))) (exact ⟨cell_later (w := W) (by go_grown) s0, cell_later (w := W) (by go_grown) s1, cell_later (w := W) (by go_grown) s2, cell_later (w := W) (by go_grown) s3⟩) (first | (go_at_call 16; refine (offset _ _ _ (by omega) (by omega)).mono ?_; rintro e w' ⟨rfl, rfl⟩))
  go_wp2_with fail
  refine wp_world (fun W' => W'.cell? ⟨pb, 0, none⟩ = some (.int .u32 x) ∧ W'.cell? ⟨pb, 1, none⟩ = some (.int .u32 (ln * 16384 + c)) ∧ W'.cell? ⟨w2.heap.size, 0, none⟩ = some (.int .u32 (x + 2 + v)) ∧ W'.cell? ⟨w2.heap.size, 1, none⟩ = some (.int .u32 (ln * 16384 + c + 2 + v)) ∧ Below w.heap.size w W')
    ⟨cell_later (w := W) (by go_grown) s0, cell_later (w := W) (by go_grown) s1, cell_later (w := W) (by go_grown) s2, cell_later (w := W) (by go_grown) s3, Below.trans BW (Below.mono (by go_grown) BW.size)⟩ ?_
  rintro W2 ⟨t0, t1, t2, t3, BW2⟩
  go_region_held3 (fun W => W.cell? ⟨pb, 0, none⟩ = some (.int .u32 x) ∧ W.cell? ⟨pb, 1, none⟩ = some (.int .u32 (ln * 16384 + c)) ∧ W.cell? ⟨w2.heap.size, 0, none⟩ = some (.int .u32 (x + 2 + v)) ∧ W.cell? ⟨w2.heap.size, 1, none⟩ = some (.int .u32 (ln * 16384 + c + 2 + v))) (exact ⟨cell_later (w := W2) (by go_grown) t0, cell_later (w := W2) (by go_grown) t1, cell_later (w := W2) (by go_grown) t2, cell_later (w := W2) (by go_grown) t3⟩) (first | (go_at_call 16; refine (offset _ _ _ (by omega) (by omega)).mono ?_; rintro e w' ⟨rfl, rfl⟩))
  go_wp2
  go_ret
  exact ⟨rfl, Below.trans BW2 (Below.mono (by go_grown) BW2.size)⟩
set_option maxHeartbeats 4000000 in
set_option maxRecDepth 100000 in
theorem mainFF (x ln c v : Int) (w : World) (hx : 0 ≤ x) (hx2 : x ≤ 4294967284 - v - 2) (hl1 : 1 ≤ ln) (hl2 : ln ≤ 262143) (hc1 : 1 ≤ c) (hc2 : c ≤ 16383) (hv1 : 1 ≤ v) (hv2 : v ≤ 16383) (hcv : c + v + 2 ≤ 16383) : Calls Try.prog 3 #[.bool false, .bool false, .int .u32 x, .int .u32 ln, .int .u32 c, .int .u32 v] w fun e w' => e = .returned (.bool true) ∧ Below w.heap.size w w' := by
  have q1 : ¬ ln < 1 := by omega
  have q2 : ¬ 262143 < ln := by omega
  have q3 : ¬ c < 1 := by omega
  have q4 : ¬ 16383 < c := by omega
  have q5 : ¬ v < 1 := by omega
  have q6 : ¬ 16383 < v := by omega
  have q7 : ¬ 16383 < c + v + 2 := by omega
  have q8 : ¬ 4294967284 - v - 2 < x := by omega
  go_enter Try.func3, Try.ntmps3
  go_wp2_with (first | (go_at_call 9; refine (mkPos24 _ _ _).mono ?_; rintro e w' ⟨rfl, rfl⟩) | (go_at_call 10; refine (newUA _ _ _ _ _ _ _ _ _).mono ?_; rintro e w' ⟨rfl, rfl⟩))
  refine (uaPosFX (w.heap.size + 1 + 1 + 1 + 1 + 1 + 1 + 1 + 1 + 1 + 1 + 1 + 1) x (ln * 16384 + c) _ (by simp [go_sem]) (by simp [go_sem]) (by simp [go_sem])).mono ?_
  rintro e w1 ⟨rfl, rfl⟩
  go_wp2_with fail
  refine (uaEndF (w.heap.size + 1 + 1 + 1 + 1 + 1 + 1 + 1 + 1 + 1 + 1 + 1 + 1) (w.heap.size + 1 + 1 + 1 + 1 + 1 + 1 + 1 + 1 + 1 + 1 + 1) (w.heap.size + 1 + 1 + 1 + 1 + 1 + 1 + 1 + 1 + 1 + 1) (w.heap.size + 1 + 1 + 1 + 1 + 1 + 1 + 1 + 1 + 1) (x + 1 + v) (ln * 16384 + c + 1 + v) _ (by simp [go_sem]) (by simp [go_sem]) (by simp [go_sem]) (by simp [go_sem]) (by simp [go_sem]) (by simp [go_sem])).mono ?_
  rintro e w2 ⟨rfl, hb2⟩
  have m0 : w2.cell? ⟨w.heap.size + 1 + 1 + 1 + 1 + 1 + 1 + 1 + 1 + 1 + 1 + 1 + 1 + 1 + 1, 0, none⟩ = some (.int .u32 x) := cell_later hb2 (by simp [go_sem])
  have m1 : w2.cell? ⟨w.heap.size + 1 + 1 + 1 + 1 + 1 + 1 + 1 + 1 + 1 + 1 + 1 + 1 + 1 + 1, 1, none⟩ = some (.int .u32 (ln * 16384 + c)) := cell_later hb2 (by simp [go_sem])
  have B2 : Below w.heap.size w w2 := Below.trans (by go_grown) (hb2.mono (by simp; omega))
  clear hb2
  generalize w.heap.size + 1 + 1 + 1 + 1 + 1 + 1 + 1 + 1 + 1 + 1 + 1 + 1 + 1 + 1 = pb at *
  have hz := lt_of_cell m0
  have f1 : (ln * 16384 + c + 1 + v) / 16384 = ln := by omega
  have f2 : (ln * 16384 + c + 1 + v) % 16384 = c + (1 + v) := by omega
  go_wp2_with (first | (go_at_call 13; refine (same13 _ _ _).mono ?_; rintro e w' ⟨rfl, rfl⟩) | (go_at_call 14; refine (line _ _ _ (by omega) (by omega)).mono ?_; rintro e w' ⟨rfl, rfl⟩) | (go_at_call 15; refine (col _ _ _ (by omega) (by omega)).mono ?_; rintro e w' ⟨rfl, rfl⟩))
  refine wp_world (fun W => W.cell? ⟨pb, 0, none⟩ = some (.int .u32 x) ∧ W.cell? ⟨pb, 1, none⟩ = some (.int .u32 (ln * 16384 + c)) ∧ W.cell? ⟨w2.heap.size, 0, none⟩ = some (.int .u32 (x + 1 + v)) ∧ W.cell? ⟨w2.heap.size, 1, none⟩ = some (.int .u32 (ln * 16384 + c + 1 + v)) ∧ Below w.heap.size w W)
    ⟨cell_later (w := w2) (by go_grown) m0, cell_later (w := w2) (by go_grown) m1, by simp [go_sem], by simp [go_sem], Below.trans B2 (Below.mono (by go_grown) B2.size)⟩ ?_
  rintro W ⟨s0, s1, s2, s3, BW⟩
  have o1 : oI (x + 1 + v) = x + 1 + v := by unfold oI; rw [if_neg (by omega)]
  have o2 : oI x = x := by unfold oI; rw [if_neg (by omega)]
  have h5 : ¬ x + 1 + v < x := by omega
  have x1 : IntKind.u64.wrap (x + 1 + v - x) = x + 1 + v - x := IntWalk.u64_in _ (by omega)
  have x2 : IntKind.u64.wrap (1 + v) = 1 + v := IntWalk.u64_in _ (by omega)
  have x3 : (x + 1 + v - x == 1 + v) = true := by simp; omega
  go_region_held3 (fun W => W.cell? ⟨pb, 0, none⟩ = some (.int .u32 x) ∧ W.cell? ⟨pb, 1, none⟩ = some (.int .u32 (ln * 16384 + c)) ∧ W.cell? ⟨w2.heap.size, 0, none⟩ = some (.int .u32 (x + 1 + v)) ∧ W.cell? ⟨w2.heap.size, 1, none⟩ = some (.int .u32 (ln * 16384 + c + 1 + v))) (exact ⟨cell_later (w := W) (by go_grown) s0, cell_later (w := W) (by go_grown) s1, cell_later (w := W) (by go_grown) s2, cell_later (w := W) (by go_grown) s3⟩) (first | (go_at_call 16; refine (offset _ _ _ (by omega) (by omega)).mono ?_; rintro e w' ⟨rfl, rfl⟩))
  go_wp2_with fail
  refine wp_world (fun W' => W'.cell? ⟨pb, 0, none⟩ = some (.int .u32 x) ∧ W'.cell? ⟨pb, 1, none⟩ = some (.int .u32 (ln * 16384 + c)) ∧ W'.cell? ⟨w2.heap.size, 0, none⟩ = some (.int .u32 (x + 1 + v)) ∧ W'.cell? ⟨w2.heap.size, 1, none⟩ = some (.int .u32 (ln * 16384 + c + 1 + v)) ∧ Below w.heap.size w W')
    ⟨cell_later (w := W) (by go_grown) s0, cell_later (w := W) (by go_grown) s1, cell_later (w := W) (by go_grown) s2, cell_later (w := W) (by go_grown) s3, Below.trans BW (Below.mono (by go_grown) BW.size)⟩ ?_
  rintro W2 ⟨t0, t1, t2, t3, BW2⟩
  go_region_held3 (fun W => W.cell? ⟨pb, 0, none⟩ = some (.int .u32 x) ∧ W.cell? ⟨pb, 1, none⟩ = some (.int .u32 (ln * 16384 + c)) ∧ W.cell? ⟨w2.heap.size, 0, none⟩ = some (.int .u32 (x + 1 + v)) ∧ W.cell? ⟨w2.heap.size, 1, none⟩ = some (.int .u32 (ln * 16384 + c + 1 + v))) (exact ⟨cell_later (w := W2) (by go_grown) t0, cell_later (w := W2) (by go_grown) t1, cell_later (w := W2) (by go_grown) t2, cell_later (w := W2) (by go_grown) t3⟩) (first | (go_at_call 16; refine (offset _ _ _ (by omega) (by omega)).mono ?_; rintro e w' ⟨rfl, rfl⟩))
  go_wp2
  go_ret
  exact ⟨rfl, Below.trans BW2 (Below.mono (by go_grown) BW2.size)⟩

set_option maxRecDepth 100000 in
theorem law3 (post two : Bool) (x ln c v : Int) (w : World) (hx : 0 ≤ x ∧ x ≤ 4294967295) (hl : 0 ≤ ln ∧ ln ≤ 4294967295) (hc : 0 ≤ c ∧ c ≤ 4294967295) (hv : 0 ≤ v ∧ v ≤ 4294967295) : Calls Try.prog 3 #[.bool post, .bool two, .int .u32 x, .int .u32 ln, .int .u32 c, .int .u32 v] w fun e w' => e = .returned (.bool true) ∧ Below w.heap.size w w' := by
  by_cases q1 : ln < 1
  · clear hx hl hc hv
    go_enter Try.func3, Try.ntmps3
    go_wp2
    all_goals
      go_ret
      exact ⟨rfl, Below.refl _ _⟩
  by_cases q2 : 262143 < ln
  · clear hx hl hc hv
    go_enter Try.func3, Try.ntmps3
    go_wp2
    all_goals
      go_ret
      exact ⟨rfl, Below.refl _ _⟩
  by_cases q3 : c < 1
  · clear hx hl hc hv
    go_enter Try.func3, Try.ntmps3
    go_wp2
    all_goals
      go_ret
      exact ⟨rfl, Below.refl _ _⟩
  by_cases q4 : 16383 < c
  · clear hx hl hc hv
    go_enter Try.func3, Try.ntmps3
    go_wp2
    all_goals
      go_ret
      exact ⟨rfl, Below.refl _ _⟩
  by_cases q5 : v < 1
  · clear hx hl hc hv
    go_enter Try.func3, Try.ntmps3
    go_wp2
    all_goals
      go_ret
      exact ⟨rfl, Below.refl _ _⟩
  by_cases q6 : 16383 < v
  · clear hx hl hc hv
    go_enter Try.func3, Try.ntmps3
    go_wp2
    all_goals
      go_ret
      exact ⟨rfl, Below.refl _ _⟩
  by_cases q7 : 16383 < c + v + 2
  · clear hx hl
    go_enter Try.func3, Try.ntmps3
    go_wp2
    all_goals
      go_ret
      exact ⟨rfl, Below.refl _ _⟩
  by_cases q8 : 4294967284 - v - 2 < x
  · clear hx hl
    go_enter Try.func3, Try.ntmps3
    go_wp2
    all_goals
      go_ret
      exact ⟨rfl, Below.refl _ _⟩
  cases post
  · cases two
    · exact mainFF x ln c v w hx.1 (by omega) (by omega) (by omega) (by omega) (by omega) (by omega) (by omega) (by omega)
    · exact mainFT x ln c v w hx.1 (by omega) (by omega) (by omega) (by omega) (by omega) (by omega) (by omega) (by omega)
  · cases two
    · exact mainTF x ln c v w hx.1 (by omega) (by omega) (by omega) (by omega) (by omega) (by omega) (by omega) (by omega)
    · exact mainTT x ln c v w hx.1 (by omega) (by omega) (by omega) (by omega) (by omega) (by omega) (by omega) (by omega)
end Go.Proofs.Ytccnpgmceoojmaa.unar
