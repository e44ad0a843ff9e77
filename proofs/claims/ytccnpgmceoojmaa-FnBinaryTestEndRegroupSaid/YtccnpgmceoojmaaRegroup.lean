/-
  The end of three tests joined by two operators does not depend on the grouping, and is the end of the third word: for every value of the raw fields.
-/
import Derived.Test.YtccnpgmceoojmaaWord
namespace Go.Proofs.Ytccnpgmceoojmaa
open Go.RowKit

theorem mkPos35 (o l : Int) (w : World) : Calls Try.prog 21 #[.int .u32 o, .int .u32 l] w fun e w' => e = .returned (.agg #[.int .u32 o, .int .u32 l]) ∧ w.alloc (.cells #[.int .u32 o, .int .u32 l] 26) = w' := by
  go_enter Try.func21, Try.ntmps21
  go_wp2
  go_returns
  exact ⟨rfl, rfl⟩
theorem zOffs53 (o l : Int) (w : World) : Calls Try.prog 53 #[.agg #[.int .u32 o, .int .u32 l]] w fun e w' => e = .returned (.int .u32 o) ∧ w.alloc (.cells #[.int .u32 o, .int .u32 l] 26) = w' := by
  go_enter Try.func53, Try.ntmps53
  go_wp2
  go_ret
  exact ⟨rfl, rfl⟩
theorem zLc54 (o l : Int) (w : World) : Calls Try.prog 54 #[.agg #[.int .u32 o, .int .u32 l]] w fun e w' => e = .returned (.int .u32 l) ∧ w.alloc (.cells #[.int .u32 o, .int .u32 l] 26) = w' := by
  go_enter Try.func54, Try.ntmps54
  go_wp2
  go_ret
  exact ⟨rfl, rfl⟩
theorem is27 (o l : Int) (w : World) : Calls Try.prog 27 #[.agg #[.int .u32 o, .int .u32 l], .int .u32 o, .int .u32 l] w fun e w' => e = .returned (.bool true) ∧ ((w.alloc (.cells #[.int .u32 o, .int .u32 l] 26)).alloc (.cells #[.int .u32 o, .int .u32 l] 26)).alloc (.cells #[.int .u32 o, .int .u32 l] 26) = w' := by
  go_enter Try.func27, Try.ntmps27
  go_wp2_with (first | (go_at_call 53; refine (zOffs53 _ _ _).mono ?_; rintro e w' ⟨rfl, rfl⟩) | (go_at_call 54; refine (zLc54 _ _ _).mono ?_; rintro e w' ⟨rfl, rfl⟩))
  go_ret
  exact ⟨rfl, rfl⟩
theorem btWords (o l : Int) (x y : Nat) (w : World) : Calls Try.prog 24 #[.agg #[.int .u32 o, .int .u32 l], .pointer (some ⟨x, 0, none⟩), .pointer (some ⟨y, 0, none⟩)] w fun e w' => e = .returned (.pointer (some ⟨w.heap.size + 1, 0, none⟩)) ∧ (w.alloc (.cells #[.int .u32 o, .int .u32 l] 26)).alloc (.cells #[.int .u32 o, .int .u32 l, .int .u32 133, .iface 43 (.pointer (some ⟨x, 0, none⟩)), .iface 43 (.pointer (some ⟨y, 0, none⟩))] 87) = w' := by
  go_enter Try.func24, Try.ntmps24
  go_wp2
  go_ret
  exact ⟨rfl, rfl⟩
theorem btBinWord (o l : Int) (x y : Nat) (w : World) : Calls Try.prog 23 #[.agg #[.int .u32 o, .int .u32 l], .pointer (some ⟨x, 0, none⟩), .pointer (some ⟨y, 0, none⟩)] w fun e w' => e = .returned (.pointer (some ⟨w.heap.size + 1, 0, none⟩)) ∧ (w.alloc (.cells #[.int .u32 o, .int .u32 l] 26)).alloc (.cells #[.int .u32 o, .int .u32 l, .int .u32 11, .iface 45 (.pointer (some ⟨x, 0, none⟩)), .iface 43 (.pointer (some ⟨y, 0, none⟩))] 87) = w' := by
  go_enter Try.func23, Try.ntmps23
  go_wp2
  go_ret
  exact ⟨rfl, rfl⟩
theorem btWordBin (o l : Int) (x y : Nat) (w : World) : Calls Try.prog 25 #[.agg #[.int .u32 o, .int .u32 l], .pointer (some ⟨x, 0, none⟩), .pointer (some ⟨y, 0, none⟩)] w fun e w' => e = .returned (.pointer (some ⟨w.heap.size + 1, 0, none⟩)) ∧ (w.alloc (.cells #[.int .u32 o, .int .u32 l] 26)).alloc (.cells #[.int .u32 o, .int .u32 l, .int .u32 11, .iface 43 (.pointer (some ⟨x, 0, none⟩)), .iface 45 (.pointer (some ⟨y, 0, none⟩))] 87) = w' := by
  go_enter Try.func25, Try.ntmps25
  go_wp2
  go_ret
  exact ⟨rfl, rfl⟩
set_option maxHeartbeats 4000000 in
theorem law5 (a b c d e1 e2 f1 f2 : Int) (w : World) : Calls Try.prog 5 #[.int .u32 a, .int .u32 b, .int .u32 c, .int .u32 d, .int .u32 e1, .int .u32 e2, .int .u32 f1, .int .u32 f2] w fun e w' => e = .returned (.bool true) ∧ Below w.heap.size w w' := by
  go_enter Try.func5, Try.ntmps5
  go_wp2_with (first | (go_at_call 21; refine (mkPos35 _ _ _).mono ?_; rintro e w' ⟨rfl, rfl⟩) | go_in)
  refine wp_world (fun W => W.cell? ⟨w.heap.size + 1, 0, none⟩ = some (.int .u32 a) ∧ W.cell? ⟨w.heap.size + 1, 1, none⟩ = some (.int .u32 b) ∧ W.cell? ⟨w.heap.size + 1 + 1 + 1, 0, none⟩ = some (.int .u32 c) ∧ W.cell? ⟨w.heap.size + 1 + 1 + 1, 1, none⟩ = some (.int .u32 d) ∧ W.cell? ⟨w.heap.size + 1 + 1 + 1 + 1 + 1 + 1 + 1 + 1 + 1 + 1 + 1 + 1 + 1 + 1 + 1 + 1 + 1 + 1 + 1 + 1, 0, none⟩ = some (.slice (some ⟨w.heap.size + 1 + 1 + 1 + 1 + 1 + 1 + 1 + 1 + 1 + 1 + 1 + 1 + 1 + 1 + 1 + 1 + 1 + 1 + 1, 0, none⟩) 1 1) ∧ W.cell? ⟨w.heap.size + 1 + 1 + 1 + 1 + 1 + 1 + 1 + 1 + 1 + 1 + 1 + 1 + 1 + 1 + 1 + 1 + 1 + 1 + 1, 0, none⟩ = some (.iface 55 (.pointer (some ⟨w.heap.size + 1 + 1 + 1 + 1 + 1 + 1 + 1 + 1 + 1 + 1 + 1 + 1 + 1 + 1 + 1 + 1 + 1 + 1, 0, none⟩))) ∧ W.cell? ⟨w.heap.size + 1 + 1 + 1 + 1 + 1 + 1 + 1 + 1 + 1 + 1 + 1 + 1 + 1 + 1 + 1 + 1 + 1 + 1, 2, none⟩ = some (.int .u32 f1) ∧ W.cell? ⟨w.heap.size + 1 + 1 + 1 + 1 + 1 + 1 + 1 + 1 + 1 + 1 + 1 + 1 + 1 + 1 + 1 + 1 + 1 + 1, 3, none⟩ = some (.int .u32 f2) ∧ Below w.heap.size w W)
    ⟨by simp [go_sem], by simp [go_sem], by simp [go_sem], by simp [go_sem], by simp [go_sem], by simp [go_sem], by simp [go_sem], by simp [go_sem], by go_grown⟩ ?_
  rintro W ⟨s0, s1, s2, s3, s4, s5, s6, s7, BW⟩
  go_region_held3 (fun W => W.cell? ⟨w.heap.size + 1, 0, none⟩ = some (.int .u32 a) ∧ W.cell? ⟨w.heap.size + 1, 1, none⟩ = some (.int .u32 b) ∧ W.cell? ⟨w.heap.size + 1 + 1 + 1, 0, none⟩ = some (.int .u32 c) ∧ W.cell? ⟨w.heap.size + 1 + 1 + 1, 1, none⟩ = some (.int .u32 d)) (exact ⟨cell_later (w := W) (by go_grown) s0, cell_later (w := W) (by go_grown) s1, cell_later (w := W) (by go_grown) s2, cell_later (w := W) (by go_grown) s3⟩) (first | (go_at_call 24; refine (btWords _ _ _ _ _).mono ?_; rintro e w' ⟨rfl, rfl⟩) | (go_at_call 23; refine (btBinWord _ _ _ _ _).mono ?_; rintro e w' ⟨rfl, rfl⟩) | (go_at_call 25; refine (btWordBin _ _ _ _ _).mono ?_; rintro e w' ⟨rfl, rfl⟩))
  go_wp2_with fail
  refine wp_world (fun V => V.cell? ⟨w.heap.size + 1, 0, none⟩ = some (.int .u32 a) ∧ V.cell? ⟨w.heap.size + 1, 1, none⟩ = some (.int .u32 b) ∧ V.cell? ⟨w.heap.size + 1 + 1 + 1, 0, none⟩ = some (.int .u32 c) ∧ V.cell? ⟨w.heap.size + 1 + 1 + 1, 1, none⟩ = some (.int .u32 d) ∧ V.cell? ⟨w.heap.size + 1 + 1 + 1 + 1 + 1 + 1 + 1 + 1 + 1 + 1 + 1 + 1 + 1 + 1 + 1 + 1 + 1 + 1 + 1 + 1, 0, none⟩ = some (.slice (some ⟨w.heap.size + 1 + 1 + 1 + 1 + 1 + 1 + 1 + 1 + 1 + 1 + 1 + 1 + 1 + 1 + 1 + 1 + 1 + 1 + 1, 0, none⟩) 1 1) ∧ V.cell? ⟨w.heap.size + 1 + 1 + 1 + 1 + 1 + 1 + 1 + 1 + 1 + 1 + 1 + 1 + 1 + 1 + 1 + 1 + 1 + 1 + 1, 0, none⟩ = some (.iface 55 (.pointer (some ⟨w.heap.size + 1 + 1 + 1 + 1 + 1 + 1 + 1 + 1 + 1 + 1 + 1 + 1 + 1 + 1 + 1 + 1 + 1 + 1, 0, none⟩))) ∧ V.cell? ⟨w.heap.size + 1 + 1 + 1 + 1 + 1 + 1 + 1 + 1 + 1 + 1 + 1 + 1 + 1 + 1 + 1 + 1 + 1 + 1, 2, none⟩ = some (.int .u32 f1) ∧ V.cell? ⟨w.heap.size + 1 + 1 + 1 + 1 + 1 + 1 + 1 + 1 + 1 + 1 + 1 + 1 + 1 + 1 + 1 + 1 + 1 + 1, 3, none⟩ = some (.int .u32 f2) ∧ V.cell? ⟨W.heap.size + 1 + 1 + 1, 4, none⟩ = some (.iface 43 (.pointer (some ⟨w.heap.size + 1 + 1 + 1 + 1 + 1 + 1 + 1 + 1 + 1 + 1 + 1 + 1 + 1 + 1 + 1 + 1 + 1 + 1 + 1 + 1, 0, none⟩))) ∧ Below w.heap.size w V)
    ⟨cell_later (w := W) (by go_grown) s0, cell_later (w := W) (by go_grown) s1, cell_later (w := W) (by go_grown) s2, cell_later (w := W) (by go_grown) s3, cell_later (w := W) (by go_grown) s4, cell_later (w := W) (by go_grown) s5, cell_later (w := W) (by go_grown) s6, cell_later (w := W) (by go_grown) s7, by simp [go_sem], Below.trans BW (Below.mono (by go_grown) BW.size)⟩ ?_
  rintro V ⟨r0, r1, r2, r3, r4, r5, r6, r7, r8, BV⟩
  generalize W.heap.size + 1 + 1 + 1 = lf at *
  clear s0 s1 s2 s3 s4 s5 s6 s7 BW
  go_region_held3 (fun W => W.cell? ⟨w.heap.size + 1, 0, none⟩ = some (.int .u32 a) ∧ W.cell? ⟨w.heap.size + 1, 1, none⟩ = some (.int .u32 b) ∧ W.cell? ⟨w.heap.size + 1 + 1 + 1, 0, none⟩ = some (.int .u32 c) ∧ W.cell? ⟨w.heap.size + 1 + 1 + 1, 1, none⟩ = some (.int .u32 d)) (exact ⟨cell_later (w := V) (by go_grown) r0, cell_later (w := V) (by go_grown) r1, cell_later (w := V) (by go_grown) r2, cell_later (w := V) (by go_grown) r3⟩) (first | (go_at_call 24; refine (btWords _ _ _ _ _).mono ?_; rintro e w' ⟨rfl, rfl⟩) | (go_at_call 23; refine (btBinWord _ _ _ _ _).mono ?_; rintro e w' ⟨rfl, rfl⟩) | (go_at_call 25; refine (btWordBin _ _ _ _ _).mono ?_; rintro e w' ⟨rfl, rfl⟩))
  go_wp2_with fail
  refine (binEndW lf _ _ _ f1 f2 _ (cell_later (w := V) (by go_grown) r8) (cell_later (w := V) (by go_grown) r4) (cell_later (w := V) (by go_grown) r5) (cell_later (w := V) (by go_grown) r6) (cell_later (w := V) (by go_grown) r7)).mono ?_
  rintro e w1 ⟨rfl, hb1⟩
  have k4 : w1.cell? ⟨w.heap.size + 1 + 1 + 1 + 1 + 1 + 1 + 1 + 1 + 1 + 1 + 1 + 1 + 1 + 1 + 1 + 1 + 1 + 1 + 1 + 1, 0, none⟩ = some (.slice (some ⟨w.heap.size + 1 + 1 + 1 + 1 + 1 + 1 + 1 + 1 + 1 + 1 + 1 + 1 + 1 + 1 + 1 + 1 + 1 + 1 + 1, 0, none⟩) 1 1) := cell_later hb1 (cell_later (w := V) (by go_grown) r4)
  have k5 : w1.cell? ⟨w.heap.size + 1 + 1 + 1 + 1 + 1 + 1 + 1 + 1 + 1 + 1 + 1 + 1 + 1 + 1 + 1 + 1 + 1 + 1 + 1, 0, none⟩ = some (.iface 55 (.pointer (some ⟨w.heap.size + 1 + 1 + 1 + 1 + 1 + 1 + 1 + 1 + 1 + 1 + 1 + 1 + 1 + 1 + 1 + 1 + 1 + 1, 0, none⟩))) := cell_later hb1 (cell_later (w := V) (by go_grown) r5)
  have k6 : w1.cell? ⟨w.heap.size + 1 + 1 + 1 + 1 + 1 + 1 + 1 + 1 + 1 + 1 + 1 + 1 + 1 + 1 + 1 + 1 + 1 + 1, 2, none⟩ = some (.int .u32 f1) := cell_later hb1 (cell_later (w := V) (by go_grown) r6)
  have k7 : w1.cell? ⟨w.heap.size + 1 + 1 + 1 + 1 + 1 + 1 + 1 + 1 + 1 + 1 + 1 + 1 + 1 + 1 + 1 + 1 + 1 + 1, 3, none⟩ = some (.int .u32 f2) := cell_later hb1 (cell_later (w := V) (by go_grown) r7)
  have k8 : w1.cell? ⟨V.heap.size + 1 + 1 + 1, 4, none⟩ = some (.iface 45 (.pointer (some ⟨V.heap.size + 1, 0, none⟩))) := cell_later hb1 (by simp [go_sem])
  have k9 : w1.cell? ⟨V.heap.size + 1, 4, none⟩ = some (.iface 43 (.pointer (some ⟨w.heap.size + 1 + 1 + 1 + 1 + 1 + 1 + 1 + 1 + 1 + 1 + 1 + 1 + 1 + 1 + 1 + 1 + 1 + 1 + 1 + 1, 0, none⟩))) := cell_later hb1 (by simp [go_sem])
  have B1 : Below w.heap.size w w1 := Below.trans (Below.trans BV (Below.mono (by go_grown) BV.size)) (hb1.mono (by have := BV.size; simp; omega))
  clear hb1 BV r0 r1 r2 r3 r4 r5 r6 r7 r8
  go_wp2_with fail
  refine (binEndB _ _ _ _ _ f1 f2 _ (cell_later (w := w1) (by go_grown) k8) (cell_later (w := w1) (by go_grown) k9) (cell_later (w := w1) (by go_grown) k4) (cell_later (w := w1) (by go_grown) k5) (cell_later (w := w1) (by go_grown) k6) (cell_later (w := w1) (by go_grown) k7)).mono ?_
  rintro e w2 ⟨rfl, hb2⟩
  have m0 : w2.cell? ⟨w1.heap.size, 0, none⟩ = some (.int .u32 f1) := cell_later hb2 (by simp [go_sem])
  have m1 : w2.cell? ⟨w1.heap.size, 1, none⟩ = some (.int .u32 f2) := cell_later hb2 (by simp [go_sem])
  have hz := lt_of_cell m0
  have B2 : Below w.heap.size w w2 := Below.trans (Below.trans B1 (Below.mono (by go_grown) B1.size)) (hb2.mono (by have := B1.size; simp; omega))
  clear hb2 B1 k4 k5 k6 k7 k8 k9
  go_wp2_with (go_at_call 27; refine (is27 _ _ _).mono ?_; rintro e w' ⟨rfl, rfl⟩)
  go_ret
  exact ⟨rfl, Below.trans B2 (Below.mono (by go_grown) B2.size)⟩
end Go.Proofs.Ytccnpgmceoojmaa
