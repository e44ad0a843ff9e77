/-
  A word of a literal and a single-quoted part, in either order, spans from its first part's start to its last part's end and is no plain literal: for every value of the raw fields.
-/
import Derived.Test.YtccnpgmceoojmaaMix
namespace Go.Proofs.Ytccnpgmceoojmaa.mix
open Go.RowKit

theorem calls_world {prog : Program} {f : Nat} {args : Array Value} {Q : Ending → World → Prop} {w : World} (P : World → Prop) (h : P w) (k : ∀ W, P W → Calls prog f args W Q) : Calls prog f args w Q := k w h
theorem bytesT (a0 a1 b0 b1 l0 l1 r0 r1 : Int) (v s : ByteArray) (w : World) (g1 : ¬ (524288 : Int) < (v.size : Int)) (g2 : ¬ (524288 : Int) < (s.size : Int)) : Calls Try.prog 41 #[.int .u32 a0, .int .u32 a1, .int .u32 b0, .int .u32 b1, .int .u32 l0, .int .u32 l1, .int .u32 r0, .int .u32 r1, .string v, .string s] w fun e w' => e = .returned (.bool true) ∧ w = w' := by
  have q1 : ¬ (1048576 : Int) < (v.size : Int) := by omega
  have q2 : ¬ (1048576 : Int) < (s.size : Int) := by omega
  have q3 : IntKind.i64.wrap (v.size : Int) = (v.size : Int) := IntWalk.i64_in _ (by omega)
  have q5 : ¬ (1048576 : Int) < (v.size : Int) + (s.size : Int) := by omega
  have q4 : IntKind.i64.wrap ((v.size : Int) + (s.size : Int)) = (v.size : Int) + (s.size : Int) := IntWalk.i64_in _ (by omega)
  have q6 : (0 : Int) + (v.size : Int) = (v.size : Int) := by omega
  go_enter Try.func41, Try.ntmps41
  go_wp2
  go_ret
  exact ⟨rfl, rfl⟩
set_option maxHeartbeats 2000000 in
set_option maxRecDepth 100000 in
theorem main8 (a0 a1 b0 b1 l0 l1 r0 r1 : Int) (v s : ByteArray) (w : World) (hr0 : 0 ≤ r0) (hr1 : 0 ≤ r1) (hr2 : r1 ≤ 4294967295) (g1 : ¬ (524288 : Int) < (v.size : Int)) (g2 : ¬ (524288 : Int) < (s.size : Int)) : Calls Try.prog 8 #[.int .u32 a0, .int .u32 a1, .int .u32 b0, .int .u32 b1, .int .u32 l0, .int .u32 l1, .int .u32 r0, .int .u32 r1, .string v, .string s] w fun e w' => e = .returned (.bool true) ∧ Below w.heap.size w w' := by
  go_enter Try.func8, Try.ntmps8
  go_wp2_with (first | (go_at_call 33; refine (litn.mkPos21 _ _ _).mono ?_; rintro e w' ⟨rfl, rfl⟩) | (go_at_call 42; refine (mkLS _ _ _).mono ?_; rintro e w' ⟨rfl, rfl⟩) | (go_at_call 41; refine (bytesT _ _ _ _ _ _ _ _ _ _ _ g1 g2).mono ?_; rintro e w' ⟨rfl, rfl⟩))
  refine calls_world (fun W => W.cell? ⟨w.heap.size + 1 + 1, 0, none⟩ = some (.int .u32 a0) ∧ W.cell? ⟨w.heap.size + 1 + 1, 1, none⟩ = some (.int .u32 a1) ∧ W.cell? ⟨w.heap.size + 1 + 1, 2, none⟩ = some (.int .u32 b0) ∧ W.cell? ⟨w.heap.size + 1 + 1, 3, none⟩ = some (.int .u32 b1) ∧ W.cell? ⟨w.heap.size + 1 + 1, 4, none⟩ = some (.string v) ∧ W.cell? ⟨w.heap.size + 1 + 1 + 1 + 1 + 1, 0, none⟩ = some (.int .u32 l0) ∧ W.cell? ⟨w.heap.size + 1 + 1 + 1 + 1 + 1, 1, none⟩ = some (.int .u32 l1) ∧ W.cell? ⟨w.heap.size + 1 + 1 + 1 + 1 + 1, 2, none⟩ = some (.int .u32 r0) ∧ W.cell? ⟨w.heap.size + 1 + 1 + 1 + 1 + 1, 3, none⟩ = some (.int .u32 r1) ∧ W.cell? ⟨w.heap.size + 1 + 1 + 1 + 1 + 1 + 1, 0, none⟩ = some (.iface 55 (.pointer (some ⟨w.heap.size + 1 + 1, 0, none⟩))) ∧ W.cell? ⟨w.heap.size + 1 + 1 + 1 + 1 + 1 + 1, 1, none⟩ = some (.iface 69 (.pointer (some ⟨w.heap.size + 1 + 1 + 1 + 1 + 1, 0, none⟩))) ∧ W.cell? ⟨w.heap.size + 1 + 1 + 1 + 1 + 1 + 1 + 1, 0, none⟩ = some (.slice (some ⟨w.heap.size + 1 + 1 + 1 + 1 + 1 + 1, 0, none⟩) 2 2) ∧ Below w.heap.size w W)
    ⟨by simp [go_sem], by simp [go_sem], by simp [go_sem], by simp [go_sem], by simp [go_sem], by simp [go_sem], by simp [go_sem], by simp [go_sem], by simp [go_sem], by simp [go_sem], by simp [go_sem], by simp [go_sem], by go_grown⟩ ?_
  rintro W ⟨s0, s1, s2, s3, s4, s5, s6, s7, s8, s9, s10, s11, BW⟩
  refine (wPosL (w.heap.size + 1 + 1 + 1 + 1 + 1 + 1 + 1) (w.heap.size + 1 + 1 + 1 + 1 + 1 + 1) (w.heap.size + 1 + 1) a0 a1 _ (cell_later (w := W) (by go_grown) s11) (cell_later (w := W) (by go_grown) s9) (cell_later (w := W) (by go_grown) s0) (cell_later (w := W) (by go_grown) s1)).mono ?_
  rintro e y1 ⟨rfl, hb⟩
  have By1 : Below W.heap.size W y1 := below_next (by go_grown) hb
  have Bs1 := By1.size
  clear hb
  go_wp2_with fail
  refine (litn.litPosX (w.heap.size + 1 + 1) a0 a1 _ (cell_later (w := W) (by go_grown) s0) (cell_later (w := W) (by go_grown) s1)).mono ?_
  rintro e w' ⟨rfl, rfl⟩
  go_wp2_with fail
  refine (wPosL (w.heap.size + 1 + 1 + 1 + 1 + 1 + 1 + 1) (w.heap.size + 1 + 1 + 1 + 1 + 1 + 1) (w.heap.size + 1 + 1) a0 a1 _ (cell_later (w := W) (by go_grown) s11) (cell_later (w := W) (by go_grown) s9) (cell_later (w := W) (by go_grown) s0) (cell_later (w := W) (by go_grown) s1)).mono ?_
  rintro e y2 ⟨rfl, hb⟩
  have By2 : Below W.heap.size W y2 := below_next (by go_grown) hb
  have Bs2 := By2.size
  clear hb By1 Bs1
  go_wp2_with fail
  refine (litn.same36 _ _ _).mono ?_
  rintro e w' ⟨rfl, rfl⟩
  go_wp2_with fail
  refine (wEndS (w.heap.size + 1 + 1 + 1 + 1 + 1 + 1 + 1) (w.heap.size + 1 + 1 + 1 + 1 + 1 + 1) (w.heap.size + 1 + 1 + 1 + 1 + 1) r0 r1 hr0 hr1 hr2 _ (cell_later (w := W) (by go_grown) s11) (cell_later (w := W) (by go_grown) s10) (cell_later (w := W) (by go_grown) s7) (cell_later (w := W) (by go_grown) s8)).mono ?_
  rintro e y3 ⟨rfl, hb⟩
  have By3 : Below W.heap.size W y3 := below_next (by go_grown) hb
  have Bs3 := By3.size
  clear hb By2 Bs2
  go_wp2_with fail
  refine (sglEnd (w.heap.size + 1 + 1 + 1 + 1 + 1) r0 r1 _ hr0 hr1 hr2 (cell_later (w := W) (by go_grown) s7) (cell_later (w := W) (by go_grown) s8)).mono ?_
  rintro e y4 ⟨rfl, hb⟩
  have By4 : Below W.heap.size W y4 := below_next (by go_grown) hb
  have Bs4 := By4.size
  clear hb By3 Bs3
  go_wp2_with fail
  refine (wLitL (w.heap.size + 1 + 1 + 1 + 1 + 1 + 1 + 1) (w.heap.size + 1 + 1 + 1 + 1 + 1 + 1) (w.heap.size + 1 + 1) _ _ _ (cell_later (w := W) (by go_grown) s11) (cell_later (w := W) (by go_grown) s9) (cell_later (w := W) (by go_grown) s10) (cell_later (w := W) (by go_grown) s4)).mono ?_
  rintro e y5 ⟨rfl, hb⟩
  have By5 : Below W.heap.size W y5 := below_next (by go_grown) hb
  have Bs5 := By5.size
  clear hb By4 Bs4
  go_wp2_with fail
  refine (mkSL _ _ _).mono ?_
  rintro e w' ⟨rfl, rfl⟩
  go_wp2_with fail
  refine calls_world (fun W => W.cell? ⟨w.heap.size + 1 + 1, 0, none⟩ = some (.int .u32 a0) ∧ W.cell? ⟨w.heap.size + 1 + 1, 1, none⟩ = some (.int .u32 a1) ∧ W.cell? ⟨w.heap.size + 1 + 1, 2, none⟩ = some (.int .u32 b0) ∧ W.cell? ⟨w.heap.size + 1 + 1, 3, none⟩ = some (.int .u32 b1) ∧ W.cell? ⟨w.heap.size + 1 + 1 + 1 + 1 + 1, 0, none⟩ = some (.int .u32 l0) ∧ W.cell? ⟨w.heap.size + 1 + 1 + 1 + 1 + 1, 1, none⟩ = some (.int .u32 l1) ∧ W.cell? ⟨y5.heap.size, 0, none⟩ = some (.iface 69 (.pointer (some ⟨w.heap.size + 1 + 1 + 1 + 1 + 1, 0, none⟩))) ∧ W.cell? ⟨y5.heap.size, 1, none⟩ = some (.iface 55 (.pointer (some ⟨w.heap.size + 1 + 1, 0, none⟩))) ∧ W.cell? ⟨y5.heap.size + 1, 0, none⟩ = some (.slice (some ⟨y5.heap.size, 0, none⟩) 2 2) ∧ Below w.heap.size w W)
    ⟨cell_later (w := W) (by go_grown) s0, cell_later (w := W) (by go_grown) s1, cell_later (w := W) (by go_grown) s2, cell_later (w := W) (by go_grown) s3, cell_later (w := W) (by go_grown) s5, cell_later (w := W) (by go_grown) s6, by simp [go_sem], by simp [go_sem], by simp [go_sem], Below.trans BW (Below.mono (by go_grown) BW.size)⟩ ?_
  rintro V ⟨t0, t1, t2, t3, t4, t5, t6, t7, t8, BV⟩
  clear By5 BW s0 s1 s2 s3 s4 s5 s6 s7 s8 s9 s10 s11
  refine (wPosS (y5.heap.size + 1) (y5.heap.size) (w.heap.size + 1 + 1 + 1 + 1 + 1) l0 l1 _ (cell_later (w := V) (by go_grown) t8) (cell_later (w := V) (by go_grown) t6) (cell_later (w := V) (by go_grown) t4) (cell_later (w := V) (by go_grown) t5)).mono ?_
  rintro e y6 ⟨rfl, hb⟩
  have By6 : Below V.heap.size V y6 := below_next (by go_grown) hb
  have Bs6 := By6.size
  clear hb
  go_wp2_with fail
  refine (sglPosX (w.heap.size + 1 + 1 + 1 + 1 + 1) l0 l1 _ (cell_later (w := V) (by go_grown) t4) (cell_later (w := V) (by go_grown) t5)).mono ?_
  rintro e w' ⟨rfl, rfl⟩
  go_wp2_with fail
  refine (wPosS (y5.heap.size + 1) (y5.heap.size) (w.heap.size + 1 + 1 + 1 + 1 + 1) l0 l1 _ (cell_later (w := V) (by go_grown) t8) (cell_later (w := V) (by go_grown) t6) (cell_later (w := V) (by go_grown) t4) (cell_later (w := V) (by go_grown) t5)).mono ?_
  rintro e y7 ⟨rfl, hb⟩
  have By7 : Below V.heap.size V y7 := below_next (by go_grown) hb
  have Bs7 := By7.size
  clear hb By6 Bs6
  go_wp2_with fail
  refine (litn.same36 _ _ _).mono ?_
  rintro e w' ⟨rfl, rfl⟩
  go_wp2_with fail
  refine (wEndL (y5.heap.size + 1) (y5.heap.size) (w.heap.size + 1 + 1) b0 b1 _ (cell_later (w := V) (by go_grown) t8) (cell_later (w := V) (by go_grown) t7) (cell_later (w := V) (by go_grown) t2) (cell_later (w := V) (by go_grown) t3)).mono ?_
  rintro e y8 ⟨rfl, hb⟩
  have By8 : Below V.heap.size V y8 := below_next (by go_grown) hb
  have Bs8 := By8.size
  clear hb By7 Bs7
  go_wp2_with fail
  refine (litEnd (w.heap.size + 1 + 1) b0 b1 _ (cell_later (w := V) (by go_grown) t2) (cell_later (w := V) (by go_grown) t3)).mono ?_
  rintro e w' ⟨rfl, rfl⟩
  go_wp2_with fail
  refine (wEndL (y5.heap.size + 1) (y5.heap.size) (w.heap.size + 1 + 1) b0 b1 _ (cell_later (w := V) (by go_grown) t8) (cell_later (w := V) (by go_grown) t7) (cell_later (w := V) (by go_grown) t2) (cell_later (w := V) (by go_grown) t3)).mono ?_
  rintro e y9 ⟨rfl, hb⟩
  have By9 : Below V.heap.size V y9 := below_next (by go_grown) hb
  have Bs9 := By9.size
  clear hb By8 Bs8
  go_wp2_with fail
  refine (litn.same36 _ _ _).mono ?_
  rintro e w' ⟨rfl, rfl⟩
  go_wp2_with fail
  refine (wLitS (y5.heap.size + 1) (y5.heap.size) _ _ (cell_later (w := V) (by go_grown) t8) (cell_later (w := V) (by go_grown) t6)).mono ?_
  rintro e z ⟨rfl, hb⟩
  have Bz : Below V.heap.size V z := below_next (by go_grown) hb
  clear hb
  go_wp2
  go_ret
  exact ⟨rfl, Below.trans BV (Below.mono (by go_grown) BV.size)⟩
theorem bytesA (a0 a1 b0 b1 l0 l1 r0 r1 : Int) (v s : ByteArray) (w : World) (hv : v.size ≤ maxLen) (hs : s.size ≤ maxLen) : Calls Try.prog 41 #[.int .u32 a0, .int .u32 a1, .int .u32 b0, .int .u32 b1, .int .u32 l0, .int .u32 l1, .int .u32 r0, .int .u32 r1, .string v, .string s] w fun e w' => (∃ b, e = .returned (.bool b)) ∧ w = w' := by
  unfold maxLen at hv hs
  by_cases q1 : (1048576 : Int) < (v.size : Int)
  · refine Calls.mono (R := fun e w' => e = .returned (.bool false) ∧ w = w') ?_ (fun e w' h => ⟨⟨_, h.1⟩, h.2⟩); go_enter Try.func41, Try.ntmps41; go_wp2; go_ret; exact ⟨rfl, rfl⟩
  · have q3 : IntKind.i64.wrap (v.size : Int) = (v.size : Int) := IntWalk.i64_in _ (by omega)
    have q6 : (0 : Int) + (v.size : Int) = (v.size : Int) := by omega
    by_cases q2 : (1048576 : Int) < (s.size : Int)
    · refine Calls.mono (R := fun e w' => e = .returned (.bool false) ∧ w = w') ?_ (fun e w' h => ⟨⟨_, h.1⟩, h.2⟩); go_enter Try.func41, Try.ntmps41; go_wp2; go_ret; exact ⟨rfl, rfl⟩
    · have q4 : IntKind.i64.wrap ((v.size : Int) + (s.size : Int)) = (v.size : Int) + (s.size : Int) := IntWalk.i64_in _ (by omega)
      by_cases q5 : (1048576 : Int) < (v.size : Int) + (s.size : Int)
      · refine Calls.mono (R := fun e w' => e = .returned (.bool false) ∧ w = w') ?_ (fun e w' h => ⟨⟨_, h.1⟩, h.2⟩); go_enter Try.func41, Try.ntmps41; go_wp2; go_ret; exact ⟨rfl, rfl⟩
      · refine Calls.mono (R := fun e w' => e = .returned (.bool true) ∧ w = w') ?_ (fun e w' h => ⟨⟨_, h.1⟩, h.2⟩); go_enter Try.func41, Try.ntmps41; go_wp2; go_ret; exact ⟨rfl, rfl⟩
set_option maxRecDepth 100000 in
theorem law8 (a0 a1 b0 b1 l0 l1 r0 r1 : Int) (v s : ByteArray) (w : World) (hr0 : 0 ≤ r0) (hr1 : 0 ≤ r1) (hr2 : r1 ≤ 4294967295) (hv : v.size ≤ maxLen) (hs : s.size ≤ maxLen) : Calls Try.prog 8 #[.int .u32 a0, .int .u32 a1, .int .u32 b0, .int .u32 b1, .int .u32 l0, .int .u32 l1, .int .u32 r0, .int .u32 r1, .string v, .string s] w fun e w' => e = .returned (.bool true) ∧ Below w.heap.size w w' := by
  by_cases g1 : (524288 : Int) < (v.size : Int)
  · go_enter Try.func8, Try.ntmps8
    go_wp2_with fail
    refine (bytesA _ _ _ _ _ _ _ _ _ _ _ hv hs).mono ?_
    rintro e w' ⟨⟨b, rfl⟩, rfl⟩
    cases b <;> (go_wp2; go_ret; exact ⟨rfl, by go_grown⟩)
  · by_cases g2 : (524288 : Int) < (s.size : Int)
    · go_enter Try.func8, Try.ntmps8
      go_wp2_with fail
      refine (bytesA _ _ _ _ _ _ _ _ _ _ _ hv hs).mono ?_
      rintro e w' ⟨⟨b, rfl⟩, rfl⟩
      cases b <;> (go_wp2; go_ret; exact ⟨rfl, by go_grown⟩)
    · exact main8 a0 a1 b0 b1 l0 l1 r0 r1 v s w hr0 hr1 hr2 g1 g2
end Go.Proofs.Ytccnpgmceoojmaa.mix
