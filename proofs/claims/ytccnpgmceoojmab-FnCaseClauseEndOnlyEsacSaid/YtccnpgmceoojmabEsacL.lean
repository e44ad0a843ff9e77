/-
  CaseClause.End hangs on the closing keyword's position and the form alone: for every position, clause and number of items.
-/
import Derived.Test.YtccnpgmceoojmabEsac
namespace Go.Proofs.Ytccnpgmceoojmab.esac
open Go.RowKit

set_option maxRecDepth 100000 in
set_option maxHeartbeats 8000000 in
theorem mainV (o l c d : Int) (k : Nat) (w : World) (ho : 0 ≤ o ∧ o ≤ 4294967295) (hl : 0 ≤ l ∧ l ≤ 4294967295) (hk : k ≤ 4096) (hr : o ≤ 4294967284 ∨ (o = 4294967285 ∧ l = 0)) (hv : vB o l = true) :
    Calls Try.prog 5 #[.int .u32 o, .int .u32 l, .int .u32 c, .int .u32 d, .int .i64 (k : Int)] w fun e w' => e = .returned (.bool true) ∧ Below w.heap.size w w' := by
  have ho2 : o ≤ 4294967284 := by simp [vB] at hv; omega
  have e1 : ∃ P1, P1 = pO o l 1 ∧ P1 = (if 4294967284 < o + 1 then 4294967284 else o + 1) := ⟨_, rfl, by unfold pO; rw [if_pos hv]⟩
  have e4 : ∃ P4, P4 = pO o l 4 ∧ P4 = (if 4294967284 < o + 4 then 4294967284 else o + 4) := ⟨_, rfl, by unfold pO; rw [if_pos hv]⟩
  have f1 : ∃ L1, L1 = pL o l 1 ∧ 0 ≤ L1 ∧ L1 ≤ 4294967295 ∧ L1 / 16384 = l / 16384 := ⟨_, rfl, (pL_bounds o l 1 hl.1 hl.2 (by omega)).1, (pL_bounds o l 1 hl.1 hl.2 (by omega)).2, by unfold pL pC; rw [if_pos hv]; split <;> omega⟩
  have f4 : ∃ L4, L4 = pL o l 4 ∧ 0 ≤ L4 ∧ L4 ≤ 4294967295 ∧ L4 / 16384 = l / 16384 := ⟨_, rfl, (pL_bounds o l 4 hl.1 hl.2 (by omega)).1, (pL_bounds o l 4 hl.1 hl.2 (by omega)).2, by unfold pL pC; rw [if_pos hv]; split <;> omega⟩
  obtain ⟨P1, hP1, q1⟩ := e1
  obtain ⟨P4, hP4, q4⟩ := e4
  obtain ⟨L1, hL1, bL1, bL1', r1⟩ := f1
  obtain ⟨L4, hL4, bL4, bL4', r4⟩ := f4
  have CE1 : ∀ (b : Nat) (w : World) (cb : w.cell? ⟨b, 6, none⟩ = some (.bool true)) (c0 : w.cell? ⟨b, 4, none⟩ = some (.int .u32 o)) (c1 : w.cell? ⟨b, 5, none⟩ = some (.int .u32 l)), _ := fun b w cb c0 c1 => caseEnd1 b o l w ho.1 hl.1 hl.2 hv cb c0 c1
  have CE4 : ∀ (b : Nat) (w : World) (cb : w.cell? ⟨b, 6, none⟩ = some (.bool false)) (c0 : w.cell? ⟨b, 4, none⟩ = some (.int .u32 o)) (c1 : w.cell? ⟨b, 5, none⟩ = some (.int .u32 l)), _ := fun b w cb c0 c1 => caseEnd4 b o l w ho.1 hl.1 hl.2 hv cb c0 c1
  rw [← hP1, ← hL1] at CE1
  rw [← hP4, ← hL4] at CE4
  have o1 : oI P1 = P1 := by unfold oI; rw [if_neg (by split at q1 <;> omega)]
  have o4 : oI P4 = P4 := by unfold oI; rw [if_neg (by split at q4 <;> omega)]
  have g14 : P1 ≤ P4 := by split at q1 <;> split at q4 <;> omega
  have gP1 : 0 ≤ P1 ∧ P1 ≤ 4294967284 := by split at q1 <;> omega
  have gP4 : 0 ≤ P4 ∧ P4 ≤ 4294967284 := by split at q4 <;> omega
  have z1 : decide (P4 < P1) = false := decide_eq_false (by omega)
  have z2 : aB P1 L1 P4 = false := by unfold aB; rw [z1]; simp
  have z3 : (L1 / 16384 != l / 16384) = false := by rw [r1]; simp
  have z4 : (L4 / 16384 != l / 16384) = false := by rw [r4]; simp
  have Q1 := Lib.hid q1
  have Q4 := Lib.hid q4
  clear r1 r4 hP1 hP4 hL1 hL4 q1 q4
  have HR := Lib.hid hr
  clear hr
  go_enter Try.func5, Try.ntmps5
  go_wp2_with (first | (go_at_call 9; refine (reachT _ _ _ HR.out).mono ?_; rintro e w' ⟨rfl, rfl⟩) | (go_at_call 10; refine (mkPos _ _ _).mono ?_; rintro e w' ⟨rfl, rfl⟩))
  refine calls_world (fun W => W.cell? ⟨w.heap.size + 1, 0, none⟩ = some (.int .u32 o) ∧ W.cell? ⟨w.heap.size + 1, 1, none⟩ = some (.int .u32 l) ∧ w.heap.size + 1 < W.heap.size ∧ Below w.heap.size w W)
    ⟨by simp [go_sem], by simp [go_sem], by simp, by go_grown⟩ ?_
  rintro W ⟨s0, s1, hz0, BW⟩
  refine (zPos c d W).mono ?_
  rintro e w1 ⟨⟨a, b, rfl⟩, hb1⟩
  have t0 := cell_later hb1 s0
  have t1 := cell_later hb1 s1
  have hz1 := lt_of_cell t0
  have B1 := below_next BW hb1
  clear s0 s1 BW hb1 hz0
  have hM := Lib.hid (fun i (hi : i < k) => made_get k i hi)
  have hmk := hmk k hk
  generalize madeCells #[Value.pointer none] k = M at *
  go_wp2
  clear hmk
  go_loopw [14] (fun i wr => ∃ j : Nat, j ≤ k ∧ i = .int .i64 j ∧ Kept w (w1.heap.size + 1) (w.heap.size + 1) (w1.heap.size) k o l a b wr) (fun i _ => k - (intOf i).toNat)
  case atStart =>
    refine ⟨0, by omega, rfl, ⟨fun i hi => ⟨none, ?_⟩, fun i => ?_, ?_, ?_, ?_, ?_, ?_⟩⟩
    · have := hM.out i hi
      simp [go_sem, this]
    · simp [go_sem]
    · exact cell_later (w := w1) (by go_grown) t0
    · exact cell_later (w := w1) (by go_grown) t1
    · simp [go_sem]
    · simp [go_sem]
    · exact below_next B1 (by go_grown)
  case round =>
    obtain ⟨j, hj, rfl, KK⟩ := hrel
    by_cases hjk : j < k
    · obtain ⟨q, hq⟩ := KK.row j hjk
      have fq := KK.thaw j
      have hg := lt_of_cell hq
      have he := lt_of_cell KK.e0
      have hc := lt_of_cell KK.c0
      go_wp2
      go_roundw
      case rel =>
        refine ⟨j + 1, by omega, by go_num, ⟨fun i hi => ?_, fun i => ?_, ?_, ?_, ?_, ?_, ?_⟩⟩
        · obtain ⟨q', hq'⟩ := KK.row i hi
          by_cases hij : i = j
          · subst hij
            exact ⟨_, by simp [go_sem, *]; rfl⟩
          · exact ⟨q', by simp [go_sem, *]⟩
        · have := KK.thaw i
          simp [go_sem, *]
        · have := KK.e0
          simp [go_sem, *]
        · have := KK.e1
          simp [go_sem, *]
        · have := KK.c0
          simp [go_sem, *]
        · have := KK.c1
          simp [go_sem, *]
        · have hB := KK.bel
          have hB2 := hB.alloc hB.size (.cells #[] 0)
          first | (go_grown; done) | (refine Below.setCell (hB.alloc hB.size _) ?_ _; omega) | (trace_state; fail)
      case measure => simp [intOf]; omega
    · obtain rfl : j = k := by omega
      obtain ⟨_, _, s0, s1, u0, u1, BW⟩ := KK
      go_wp2_with fail
      refine (litW a b a b wr).mono ?_
      rintro e w2 ⟨⟨p, rfl⟩, hb2⟩
      have v0 := cell_later hb2 s0
      have v1 := cell_later hb2 s1
      have v2 := cell_later hb2 u0
      have v3 := cell_later hb2 u1
      have B2 := below_next BW hb2
      have hz2 := lt_of_cell v0
      have hz3 := lt_of_cell v2
      clear s0 s1 u0 u1 BW hb2 t0 t1 B1 hM
      obtain ⟨k1, k2, k3, k4, k5, k6, k7, k8, k9, k10, k11, k12, k13, k14, k15, k16, k17, k18, k19, k20⟩ := lts hz2
      go_wp2_with fail
      refine calls_world (fun W => W.cell? ⟨w.heap.size + 1, 0, none⟩ = some (.int .u32 o) ∧ W.cell? ⟨w.heap.size + 1, 1, none⟩ = some (.int .u32 l) ∧ W.cell? ⟨w2.heap.size, 4, none⟩ = some (.int .u32 o) ∧ W.cell? ⟨w2.heap.size, 5, none⟩ = some (.int .u32 l) ∧ W.cell? ⟨w2.heap.size, 6, none⟩ = some (.bool true) ∧ W.cell? ⟨w2.heap.size + 1, 4, none⟩ = some (.int .u32 o) ∧ W.cell? ⟨w2.heap.size + 1, 5, none⟩ = some (.int .u32 l) ∧ W.cell? ⟨w2.heap.size + 1, 6, none⟩ = some (.bool false) ∧ W.cell? ⟨w2.heap.size + 1 + 1, 4, none⟩ = some (.int .u32 o) ∧ W.cell? ⟨w2.heap.size + 1 + 1, 5, none⟩ = some (.int .u32 l) ∧ W.cell? ⟨w2.heap.size + 1 + 1, 6, none⟩ = some (.bool true) ∧ W.cell? ⟨w2.heap.size + 1 + 1 + 1, 4, none⟩ = some (.int .u32 o) ∧ W.cell? ⟨w2.heap.size + 1 + 1 + 1, 5, none⟩ = some (.int .u32 l) ∧ W.cell? ⟨w2.heap.size + 1 + 1 + 1, 6, none⟩ = some (.bool false) ∧ Below w.heap.size w W)
        ⟨cell_later (w := w2) (by go_grown) v0, cell_later (w := w2) (by go_grown) v1, by simp [go_sem], by simp [go_sem], by simp [go_sem], by simp [go_sem], by simp [go_sem], by simp [go_sem], by simp [go_sem], by simp [go_sem], by simp [go_sem], by simp [go_sem], by simp [go_sem], by simp [go_sem], below_next B2 (by go_grown)⟩ ?_
      rintro X ⟨s0, s1, s2, s3, s4, s5, s6, s7, s8, s9, s10, s11, s12, s13, BW⟩
      clear v0 v1 v2 v3 B2 hz2 hz3 k1 k2 k3 k4 k5 k6 k7 k8 k9 k10 k11 k12 k13 k14 k15 k16 k17 k18 k19 k20
      refine (CE1 w2.heap.size X s4 s2 s3).mono ?_
      rintro e w' ⟨rfl, rfl⟩
      go_wp2_with (go_at_call 16; refine (CE4 (w2.heap.size + 1) _ (cell_later (w := X) (by go_grown) s7) (cell_later (w := X) (by go_grown) s5) (cell_later (w := X) (by go_grown) s6)).mono ?_; rintro e w' ⟨rfl, rfl⟩)
      refine wp_world (fun W => W.cell? ⟨w.heap.size + 1, 0, none⟩ = some (.int .u32 o) ∧ W.cell? ⟨w.heap.size + 1, 1, none⟩ = some (.int .u32 l) ∧ W.cell? ⟨w2.heap.size + 1 + 1, 4, none⟩ = some (.int .u32 o) ∧ W.cell? ⟨w2.heap.size + 1 + 1, 5, none⟩ = some (.int .u32 l) ∧ W.cell? ⟨w2.heap.size + 1 + 1, 6, none⟩ = some (.bool true) ∧ W.cell? ⟨w2.heap.size + 1 + 1 + 1, 4, none⟩ = some (.int .u32 o) ∧ W.cell? ⟨w2.heap.size + 1 + 1 + 1, 5, none⟩ = some (.int .u32 l) ∧ W.cell? ⟨w2.heap.size + 1 + 1 + 1, 6, none⟩ = some (.bool false) ∧ W.cell? ⟨X.heap.size + 1 + 1 + 1 + 1 + 1, 0, none⟩ = some (.int .u32 P1) ∧ W.cell? ⟨X.heap.size + 1 + 1 + 1 + 1 + 1, 1, none⟩ = some (.int .u32 L1) ∧ W.cell? ⟨X.heap.size + 1 + 1 + 1 + 1 + 1 + 1 + 1 + 1 + 1 + 1 + 1, 0, none⟩ = some (.int .u32 P4) ∧ W.cell? ⟨X.heap.size + 1 + 1 + 1 + 1 + 1 + 1 + 1 + 1 + 1 + 1 + 1, 1, none⟩ = some (.int .u32 L4) ∧ Below w.heap.size w W)
        ⟨cell_later (w := X) (by go_grown) s0, cell_later (w := X) (by go_grown) s1, cell_later (w := X) (by go_grown) s8, cell_later (w := X) (by go_grown) s9, cell_later (w := X) (by go_grown) s10, cell_later (w := X) (by go_grown) s11, cell_later (w := X) (by go_grown) s12, cell_later (w := X) (by go_grown) s13, by simp [go_sem], by simp [go_sem], by simp [go_sem], by simp [go_sem], below_next BW (by go_grown)⟩ ?_
      clear BW
      clear s0 s1 s2 s3 s4 s5 s6 s7 s8 s9 s10 s11 s12 s13
      rintro Y ⟨s0, s1, s2, s3, s4, s5, s6, s7, s8, s9, s10, s11, BW⟩
      go_region_held3 (fun W => W.cell? ⟨X.heap.size + 1 + 1 + 1 + 1 + 1, 0, none⟩ = some (.int .u32 P1) ∧ W.cell? ⟨X.heap.size + 1 + 1 + 1 + 1 + 1, 1, none⟩ = some (.int .u32 L1) ∧ W.cell? ⟨X.heap.size + 1 + 1 + 1 + 1 + 1 + 1 + 1 + 1 + 1 + 1 + 1, 0, none⟩ = some (.int .u32 P4) ∧ W.cell? ⟨X.heap.size + 1 + 1 + 1 + 1 + 1 + 1 + 1 + 1 + 1 + 1 + 1, 1, none⟩ = some (.int .u32 L4)) (exact ⟨cell_later (w := Y) (by go_grown) s8, cell_later (w := Y) (by go_grown) s9, cell_later (w := Y) (by go_grown) s10, cell_later (w := Y) (by go_grown) s11⟩) (first | (go_at_call 16; with_reducible refine (CE1 (w2.heap.size + 1 + 1) _ ?_ ?_ ?_).mono ?_; exact cell_later (w := Y) (by go_grown) s4; exact cell_later (w := Y) (by go_grown) s2; exact cell_later (w := Y) (by go_grown) s3; rintro e w' ⟨rfl, rfl⟩) | (go_at_call 16; with_reducible refine (CE4 (w2.heap.size + 1 + 1 + 1) _ ?_ ?_ ?_).mono ?_; exact cell_later (w := Y) (by go_grown) s7; exact cell_later (w := Y) (by go_grown) s5; exact cell_later (w := Y) (by go_grown) s6; rintro e w' ⟨rfl, rfl⟩))
      go_wp2_with fail
      refine wp_world (fun W => W.cell? ⟨w.heap.size + 1, 0, none⟩ = some (.int .u32 o) ∧ W.cell? ⟨w.heap.size + 1, 1, none⟩ = some (.int .u32 l) ∧ W.cell? ⟨X.heap.size + 1 + 1 + 1 + 1 + 1, 0, none⟩ = some (.int .u32 P1) ∧ W.cell? ⟨X.heap.size + 1 + 1 + 1 + 1 + 1, 1, none⟩ = some (.int .u32 L1) ∧ W.cell? ⟨X.heap.size + 1 + 1 + 1 + 1 + 1 + 1 + 1 + 1 + 1 + 1 + 1, 0, none⟩ = some (.int .u32 P4) ∧ W.cell? ⟨X.heap.size + 1 + 1 + 1 + 1 + 1 + 1 + 1 + 1 + 1 + 1 + 1, 1, none⟩ = some (.int .u32 L4) ∧ Below w.heap.size w W)
        ⟨cell_later (w := Y) (by go_grown) s0, cell_later (w := Y) (by go_grown) s1, cell_later (w := Y) (by go_grown) s8, cell_later (w := Y) (by go_grown) s9, cell_later (w := Y) (by go_grown) s10, cell_later (w := Y) (by go_grown) s11, below_next BW (by go_grown)⟩ ?_
      clear BW
      rintro Z ⟨t0, t1, t2, t3, t4, t5, BW⟩
      clear s0 s1 s2 s3 s4 s5 s6 s7 s8 s9 s10 s11
      have s0 := t0
      have s1 := t1
      have s2 := t2
      have s3 := t3
      have s4 := t4
      have s5 := t5
      clear t0 t1 t2 t3 t4 t5
      clear CE1 CE4
      go_region_held3 (fun W => W.cell? ⟨w.heap.size + 1, 0, none⟩ = some (.int .u32 o) ∧ W.cell? ⟨w.heap.size + 1, 1, none⟩ = some (.int .u32 l) ∧ W.cell? ⟨X.heap.size + 1 + 1 + 1 + 1 + 1, 0, none⟩ = some (.int .u32 P1) ∧ W.cell? ⟨X.heap.size + 1 + 1 + 1 + 1 + 1, 1, none⟩ = some (.int .u32 L1) ∧ W.cell? ⟨X.heap.size + 1 + 1 + 1 + 1 + 1 + 1 + 1 + 1 + 1 + 1 + 1, 0, none⟩ = some (.int .u32 P4) ∧ W.cell? ⟨X.heap.size + 1 + 1 + 1 + 1 + 1 + 1 + 1 + 1 + 1 + 1 + 1, 1, none⟩ = some (.int .u32 L4)) (exact ⟨cell_later (w := Z) (by go_grown) s0, cell_later (w := Z) (by go_grown) s1, cell_later (w := Z) (by go_grown) s2, cell_later (w := Z) (by go_grown) s3, cell_later (w := Z) (by go_grown) s4, cell_later (w := Z) (by go_grown) s5⟩) (first | (go_at_call 20; refine (line _ _ _ (by omega) (by omega)).mono ?_; rintro e w' ⟨rfl, rfl⟩))
      go_wp2_with fail
      refine wp_world (fun W => W.cell? ⟨w.heap.size + 1, 0, none⟩ = some (.int .u32 o) ∧ W.cell? ⟨w.heap.size + 1, 1, none⟩ = some (.int .u32 l) ∧ W.cell? ⟨X.heap.size + 1 + 1 + 1 + 1 + 1, 0, none⟩ = some (.int .u32 P1) ∧ W.cell? ⟨X.heap.size + 1 + 1 + 1 + 1 + 1, 1, none⟩ = some (.int .u32 L1) ∧ W.cell? ⟨X.heap.size + 1 + 1 + 1 + 1 + 1 + 1 + 1 + 1 + 1 + 1 + 1, 0, none⟩ = some (.int .u32 P4) ∧ W.cell? ⟨X.heap.size + 1 + 1 + 1 + 1 + 1 + 1 + 1 + 1 + 1 + 1 + 1, 1, none⟩ = some (.int .u32 L4) ∧ Below w.heap.size w W)
        ⟨cell_later (w := Z) (by go_grown) s0, cell_later (w := Z) (by go_grown) s1, cell_later (w := Z) (by go_grown) s2, cell_later (w := Z) (by go_grown) s3, cell_later (w := Z) (by go_grown) s4, cell_later (w := Z) (by go_grown) s5, below_next BW (by go_grown)⟩ ?_
      clear BW
      rintro Z2 ⟨t0, t1, t2, t3, t4, t5, BW⟩
      clear s0 s1 s2 s3 s4 s5
      have s0 := t0
      have s1 := t1
      have s2 := t2
      have s3 := t3
      have s4 := t4
      have s5 := t5
      clear t0 t1 t2 t3 t4 t5
      go_region_held3 (fun W => W.cell? ⟨X.heap.size + 1 + 1 + 1 + 1 + 1, 0, none⟩ = some (.int .u32 P1) ∧ W.cell? ⟨X.heap.size + 1 + 1 + 1 + 1 + 1, 1, none⟩ = some (.int .u32 L1) ∧ W.cell? ⟨X.heap.size + 1 + 1 + 1 + 1 + 1 + 1 + 1 + 1 + 1 + 1 + 1, 0, none⟩ = some (.int .u32 P4) ∧ W.cell? ⟨X.heap.size + 1 + 1 + 1 + 1 + 1 + 1 + 1 + 1 + 1 + 1 + 1, 1, none⟩ = some (.int .u32 L4)) (exact ⟨cell_later (w := Z2) (by go_grown) s2, cell_later (w := Z2) (by go_grown) s3, cell_later (w := Z2) (by go_grown) s4, cell_later (w := Z2) (by go_grown) s5⟩) (first | (go_at_call 17; refine (offset _ _ _ (by omega) (by omega)).mono ?_; rintro e w' ⟨rfl, rfl⟩) | (go_at_call 21; refine (after _ _ _ _ _).mono ?_; rintro e w' ⟨rfl, rfl⟩))
      have hzz := lt_of_cell s0
      obtain ⟨k1, k2, k3, k4, k5, k6, k7, k8, k9, k10, k11, k12, k13, k14, k15, k16, k17, k18, k19, k20⟩ := lts hzz
      have x4 : IntKind.u64.wrap (o + 4) = o + 4 := IntWalk.u64_in _ (by omega)
      by_cases hx : o + 4 ≤ 4294967284
      · go_wp2_with (go_at_call 22; refine (isValid _ _ _).mono ?_; rintro e w' ⟨rfl, rfl⟩)
        have w1' : P1 = o + 1 := by have := Q1.out; rw [if_neg (by omega)] at this; exact this
        have w4' : P4 = o + 4 := by have := Q4.out; rw [if_neg (by omega)] at this; exact this
        have y1 : IntKind.u64.wrap (P1 + 3) = P1 + 3 := IntWalk.u64_in _ (by omega)
        have y2 : (P4 == P1 + 3) = true := by simp; omega
        clear w1' w4'
        refine wp_world (fun W => W.cell? ⟨w.heap.size + 1, 0, none⟩ = some (.int .u32 o) ∧ W.cell? ⟨w.heap.size + 1, 1, none⟩ = some (.int .u32 l) ∧ W.cell? ⟨X.heap.size + 1 + 1 + 1 + 1 + 1, 0, none⟩ = some (.int .u32 P1) ∧ W.cell? ⟨X.heap.size + 1 + 1 + 1 + 1 + 1, 1, none⟩ = some (.int .u32 L1) ∧ W.cell? ⟨X.heap.size + 1 + 1 + 1 + 1 + 1 + 1 + 1 + 1 + 1 + 1 + 1, 0, none⟩ = some (.int .u32 P4) ∧ W.cell? ⟨X.heap.size + 1 + 1 + 1 + 1 + 1 + 1 + 1 + 1 + 1 + 1 + 1, 1, none⟩ = some (.int .u32 L4) ∧ Below w.heap.size w W)
          ⟨cell_later (w := Z2) (by go_grown) s0, cell_later (w := Z2) (by go_grown) s1, cell_later (w := Z2) (by go_grown) s2, cell_later (w := Z2) (by go_grown) s3, cell_later (w := Z2) (by go_grown) s4, cell_later (w := Z2) (by go_grown) s5, below_next BW (by go_grown)⟩ ?_
        clear BW
        rintro Z3 ⟨t0, t1, t2, t3, t4, t5, BW⟩
        clear s0 s1 s2 s3 s4 s5
        have s0 := t0
        have s1 := t1
        have s2 := t2
        have s3 := t3
        have s4 := t4
        have s5 := t5
        clear t0 t1 t2 t3 t4 t5
        go_region_held3 (fun W => W.cell? ⟨X.heap.size + 1 + 1 + 1 + 1 + 1, 0, none⟩ = some (.int .u32 P1) ∧ W.cell? ⟨X.heap.size + 1 + 1 + 1 + 1 + 1, 1, none⟩ = some (.int .u32 L1) ∧ W.cell? ⟨X.heap.size + 1 + 1 + 1 + 1 + 1 + 1 + 1 + 1 + 1 + 1 + 1, 0, none⟩ = some (.int .u32 P4) ∧ W.cell? ⟨X.heap.size + 1 + 1 + 1 + 1 + 1 + 1 + 1 + 1 + 1 + 1 + 1, 1, none⟩ = some (.int .u32 L4)) (exact ⟨cell_later (w := Z3) (by go_grown) s2, cell_later (w := Z3) (by go_grown) s3, cell_later (w := Z3) (by go_grown) s4, cell_later (w := Z3) (by go_grown) s5⟩) (first | (go_at_call 17; refine (offset _ _ _ (by omega) (by omega)).mono ?_; rintro e w' ⟨rfl, rfl⟩))
        go_wp2
        go_ret
        exact ⟨rfl, below_next BW (by go_grown)⟩
      · go_wp2_with (go_at_call 22; refine (isValid _ _ _).mono ?_; rintro e w' ⟨rfl, rfl⟩)
        go_ret
        exact ⟨rfl, below_next BW (by go_grown)⟩
set_option maxRecDepth 100000 in
set_option maxHeartbeats 8000000 in
theorem mainN (o l c d : Int) (k : Nat) (w : World) (ho : 0 ≤ o ∧ o ≤ 4294967295) (hl : 0 ≤ l ∧ l ≤ 4294967295) (hk : k ≤ 4096) (hr : o ≤ 4294967284 ∨ (o = 4294967285 ∧ l = 0)) (hv : vB o l = false) :
    Calls Try.prog 5 #[.int .u32 o, .int .u32 l, .int .u32 c, .int .u32 d, .int .i64 (k : Int)] w fun e w' => e = .returned (.bool true) ∧ Below w.heap.size w w' := by
  obtain ⟨P1, hP1⟩ : ∃ P1, P1 = o := ⟨_, rfl⟩
  obtain ⟨P4, hP4⟩ : ∃ P4, P4 = o := ⟨_, rfl⟩
  obtain ⟨L1, hL1⟩ : ∃ L1, L1 = l := ⟨_, rfl⟩
  obtain ⟨L4, hL4⟩ : ∃ L4, L4 = l := ⟨_, rfl⟩
  have CE1 : ∀ (b : Nat) (w : World) (cb : w.cell? ⟨b, 6, none⟩ = some (.bool true)) (c0 : w.cell? ⟨b, 4, none⟩ = some (.int .u32 o)) (c1 : w.cell? ⟨b, 5, none⟩ = some (.int .u32 l)), Calls Try.prog 16 #[.pointer (some ⟨b, 0, none⟩)] w fun e w' => e = .returned (.agg #[.int .u32 P1, .int .u32 L1]) ∧ (((w.alloc (.cells #[.int .u32 o, .int .u32 l] 25)).alloc (.cells #[.int .u32 o, .int .u32 l] 25)).alloc (.cells #[.int .u32 o, .int .u32 l] 25)).alloc (.cells #[.int .u32 o, .int .u32 l] 25) = w' := fun b w cb c0 c1 => by rw [hP1, hL1]; exact endN1 b o l w hv cb c0 c1
  have CE4 : ∀ (b : Nat) (w : World) (cb : w.cell? ⟨b, 6, none⟩ = some (.bool false)) (c0 : w.cell? ⟨b, 4, none⟩ = some (.int .u32 o)) (c1 : w.cell? ⟨b, 5, none⟩ = some (.int .u32 l)), Calls Try.prog 16 #[.pointer (some ⟨b, 0, none⟩)] w fun e w' => e = .returned (.agg #[.int .u32 P4, .int .u32 L4]) ∧ (((w.alloc (.cells #[.int .u32 o, .int .u32 l] 25)).alloc (.cells #[.int .u32 o, .int .u32 l] 25)).alloc (.cells #[.int .u32 o, .int .u32 l] 25)).alloc (.cells #[.int .u32 o, .int .u32 l] 25) = w' := fun b w cb c0 c1 => by rw [hP4, hL4]; exact endN4 b o l w hv cb c0 c1
  have z1 : decide (oI P4 < oI P1) = false := by rw [hP1, hP4]; exact decide_eq_false (by omega)
  have z2 : aB P1 L1 P4 = false := by unfold aB; rw [hP1, hP4]; simp
  have z3 : (L1 / 16384 != l / 16384) = false := by rw [hL1]; simp
  have z4 : (L4 / 16384 != l / 16384) = false := by rw [hL4]; simp
  have gP1 : 0 ≤ P1 ∧ P1 ≤ 4294967295 := by omega
  have gP4 : 0 ≤ P4 ∧ P4 ≤ 4294967295 := by omega
  have bL1 : 0 ≤ L1 := by omega
  have bL1' : L1 ≤ 4294967295 := by omega
  have bL4 : 0 ≤ L4 := by omega
  have bL4' : L4 ≤ 4294967295 := by omega
  clear hP1 hP4 hL1 hL4
  have HR := Lib.hid hr
  clear hr
  go_enter Try.func5, Try.ntmps5
  go_wp2_with (first | (go_at_call 9; refine (reachT _ _ _ HR.out).mono ?_; rintro e w' ⟨rfl, rfl⟩) | (go_at_call 10; refine (mkPos _ _ _).mono ?_; rintro e w' ⟨rfl, rfl⟩))
  refine calls_world (fun W => W.cell? ⟨w.heap.size + 1, 0, none⟩ = some (.int .u32 o) ∧ W.cell? ⟨w.heap.size + 1, 1, none⟩ = some (.int .u32 l) ∧ w.heap.size + 1 < W.heap.size ∧ Below w.heap.size w W)
    ⟨by simp [go_sem], by simp [go_sem], by simp, by go_grown⟩ ?_
  rintro W ⟨s0, s1, hz0, BW⟩
  refine (zPos c d W).mono ?_
  rintro e w1 ⟨⟨a, b, rfl⟩, hb1⟩
  have t0 := cell_later hb1 s0
  have t1 := cell_later hb1 s1
  have hz1 := lt_of_cell t0
  have B1 := below_next BW hb1
  clear s0 s1 BW hb1 hz0
  have hM := Lib.hid (fun i (hi : i < k) => made_get k i hi)
  have hmk := hmk k hk
  generalize madeCells #[Value.pointer none] k = M at *
  go_wp2
  clear hmk
  go_loopw [14] (fun i wr => ∃ j : Nat, j ≤ k ∧ i = .int .i64 j ∧ Kept w (w1.heap.size + 1) (w.heap.size + 1) (w1.heap.size) k o l a b wr) (fun i _ => k - (intOf i).toNat)
  case atStart =>
    refine ⟨0, by omega, rfl, ⟨fun i hi => ⟨none, ?_⟩, fun i => ?_, ?_, ?_, ?_, ?_, ?_⟩⟩
    · have := hM.out i hi
      simp [go_sem, this]
    · simp [go_sem]
    · exact cell_later (w := w1) (by go_grown) t0
    · exact cell_later (w := w1) (by go_grown) t1
    · simp [go_sem]
    · simp [go_sem]
    · exact below_next B1 (by go_grown)
  case round =>
    obtain ⟨j, hj, rfl, KK⟩ := hrel
    by_cases hjk : j < k
    · obtain ⟨q, hq⟩ := KK.row j hjk
      have fq := KK.thaw j
      have hg := lt_of_cell hq
      have he := lt_of_cell KK.e0
      have hc := lt_of_cell KK.c0
      go_wp2
      go_roundw
      case rel =>
        refine ⟨j + 1, by omega, by go_num, ⟨fun i hi => ?_, fun i => ?_, ?_, ?_, ?_, ?_, ?_⟩⟩
        · obtain ⟨q', hq'⟩ := KK.row i hi
          by_cases hij : i = j
          · subst hij
            exact ⟨_, by simp [go_sem, *]; rfl⟩
          · exact ⟨q', by simp [go_sem, *]⟩
        · have := KK.thaw i
          simp [go_sem, *]
        · have := KK.e0
          simp [go_sem, *]
        · have := KK.e1
          simp [go_sem, *]
        · have := KK.c0
          simp [go_sem, *]
        · have := KK.c1
          simp [go_sem, *]
        · have hB := KK.bel
          have hB2 := hB.alloc hB.size (.cells #[] 0)
          first | (go_grown; done) | (refine Below.setCell (hB.alloc hB.size _) ?_ _; omega) | (trace_state; fail)
      case measure => simp [intOf]; omega
    · obtain rfl : j = k := by omega
      obtain ⟨_, _, s0, s1, u0, u1, BW⟩ := KK
      go_wp2_with fail
      refine (litW a b a b wr).mono ?_
      rintro e w2 ⟨⟨p, rfl⟩, hb2⟩
      have v0 := cell_later hb2 s0
      have v1 := cell_later hb2 s1
      have v2 := cell_later hb2 u0
      have v3 := cell_later hb2 u1
      have B2 := below_next BW hb2
      have hz2 := lt_of_cell v0
      have hz3 := lt_of_cell v2
      clear s0 s1 u0 u1 BW hb2 t0 t1 B1 hM
      obtain ⟨k1, k2, k3, k4, k5, k6, k7, k8, k9, k10, k11, k12, k13, k14, k15, k16, k17, k18, k19, k20⟩ := lts hz2
      go_wp2_with fail
      refine calls_world (fun W => W.cell? ⟨w.heap.size + 1, 0, none⟩ = some (.int .u32 o) ∧ W.cell? ⟨w.heap.size + 1, 1, none⟩ = some (.int .u32 l) ∧ W.cell? ⟨w2.heap.size, 4, none⟩ = some (.int .u32 o) ∧ W.cell? ⟨w2.heap.size, 5, none⟩ = some (.int .u32 l) ∧ W.cell? ⟨w2.heap.size, 6, none⟩ = some (.bool true) ∧ W.cell? ⟨w2.heap.size + 1, 4, none⟩ = some (.int .u32 o) ∧ W.cell? ⟨w2.heap.size + 1, 5, none⟩ = some (.int .u32 l) ∧ W.cell? ⟨w2.heap.size + 1, 6, none⟩ = some (.bool false) ∧ W.cell? ⟨w2.heap.size + 1 + 1, 4, none⟩ = some (.int .u32 o) ∧ W.cell? ⟨w2.heap.size + 1 + 1, 5, none⟩ = some (.int .u32 l) ∧ W.cell? ⟨w2.heap.size + 1 + 1, 6, none⟩ = some (.bool true) ∧ W.cell? ⟨w2.heap.size + 1 + 1 + 1, 4, none⟩ = some (.int .u32 o) ∧ W.cell? ⟨w2.heap.size + 1 + 1 + 1, 5, none⟩ = some (.int .u32 l) ∧ W.cell? ⟨w2.heap.size + 1 + 1 + 1, 6, none⟩ = some (.bool false) ∧ Below w.heap.size w W)
        ⟨cell_later (w := w2) (by go_grown) v0, cell_later (w := w2) (by go_grown) v1, by simp [go_sem], by simp [go_sem], by simp [go_sem], by simp [go_sem], by simp [go_sem], by simp [go_sem], by simp [go_sem], by simp [go_sem], by simp [go_sem], by simp [go_sem], by simp [go_sem], by simp [go_sem], below_next B2 (by go_grown)⟩ ?_
      rintro X ⟨s0, s1, s2, s3, s4, s5, s6, s7, s8, s9, s10, s11, s12, s13, BW⟩
      clear v0 v1 v2 v3 B2 hz2 hz3 k1 k2 k3 k4 k5 k6 k7 k8 k9 k10 k11 k12 k13 k14 k15 k16 k17 k18 k19 k20
      refine (CE1 w2.heap.size X s4 s2 s3).mono ?_
      rintro e w' ⟨rfl, rfl⟩
      go_wp2_with (go_at_call 16; refine (CE4 (w2.heap.size + 1) _ (cell_later (w := X) (by go_grown) s7) (cell_later (w := X) (by go_grown) s5) (cell_later (w := X) (by go_grown) s6)).mono ?_; rintro e w' ⟨rfl, rfl⟩)
      refine wp_world (fun W => W.cell? ⟨w.heap.size + 1, 0, none⟩ = some (.int .u32 o) ∧ W.cell? ⟨w.heap.size + 1, 1, none⟩ = some (.int .u32 l) ∧ W.cell? ⟨w2.heap.size + 1 + 1, 4, none⟩ = some (.int .u32 o) ∧ W.cell? ⟨w2.heap.size + 1 + 1, 5, none⟩ = some (.int .u32 l) ∧ W.cell? ⟨w2.heap.size + 1 + 1, 6, none⟩ = some (.bool true) ∧ W.cell? ⟨w2.heap.size + 1 + 1 + 1, 4, none⟩ = some (.int .u32 o) ∧ W.cell? ⟨w2.heap.size + 1 + 1 + 1, 5, none⟩ = some (.int .u32 l) ∧ W.cell? ⟨w2.heap.size + 1 + 1 + 1, 6, none⟩ = some (.bool false) ∧ W.cell? ⟨X.heap.size + 1 + 1 + 1 + 1, 0, none⟩ = some (.int .u32 P1) ∧ W.cell? ⟨X.heap.size + 1 + 1 + 1 + 1, 1, none⟩ = some (.int .u32 L1) ∧ W.cell? ⟨X.heap.size + 1 + 1 + 1 + 1 + 1 + 1 + 1 + 1 + 1, 0, none⟩ = some (.int .u32 P4) ∧ W.cell? ⟨X.heap.size + 1 + 1 + 1 + 1 + 1 + 1 + 1 + 1 + 1, 1, none⟩ = some (.int .u32 L4) ∧ Below w.heap.size w W)
        ⟨cell_later (w := X) (by go_grown) s0, cell_later (w := X) (by go_grown) s1, cell_later (w := X) (by go_grown) s8, cell_later (w := X) (by go_grown) s9, cell_later (w := X) (by go_grown) s10, cell_later (w := X) (by go_grown) s11, cell_later (w := X) (by go_grown) s12, cell_later (w := X) (by go_grown) s13, by simp [go_sem], by simp [go_sem], by simp [go_sem], by simp [go_sem], below_next BW (by go_grown)⟩ ?_
      clear BW
      clear s0 s1 s2 s3 s4 s5 s6 s7 s8 s9 s10 s11 s12 s13
      rintro Y ⟨s0, s1, s2, s3, s4, s5, s6, s7, s8, s9, s10, s11, BW⟩
      go_region_held3 (fun W => W.cell? ⟨X.heap.size + 1 + 1 + 1 + 1, 0, none⟩ = some (.int .u32 P1) ∧ W.cell? ⟨X.heap.size + 1 + 1 + 1 + 1, 1, none⟩ = some (.int .u32 L1) ∧ W.cell? ⟨X.heap.size + 1 + 1 + 1 + 1 + 1 + 1 + 1 + 1 + 1, 0, none⟩ = some (.int .u32 P4) ∧ W.cell? ⟨X.heap.size + 1 + 1 + 1 + 1 + 1 + 1 + 1 + 1 + 1, 1, none⟩ = some (.int .u32 L4)) (exact ⟨cell_later (w := Y) (by go_grown) s8, cell_later (w := Y) (by go_grown) s9, cell_later (w := Y) (by go_grown) s10, cell_later (w := Y) (by go_grown) s11⟩) (first | (go_at_call 16; with_reducible refine (CE1 (w2.heap.size + 1 + 1) _ ?_ ?_ ?_).mono ?_; exact cell_later (w := Y) (by go_grown) s4; exact cell_later (w := Y) (by go_grown) s2; exact cell_later (w := Y) (by go_grown) s3; rintro e w' ⟨rfl, rfl⟩) | (go_at_call 16; with_reducible refine (CE4 (w2.heap.size + 1 + 1 + 1) _ ?_ ?_ ?_).mono ?_; exact cell_later (w := Y) (by go_grown) s7; exact cell_later (w := Y) (by go_grown) s5; exact cell_later (w := Y) (by go_grown) s6; rintro e w' ⟨rfl, rfl⟩))
      go_wp2_with fail
      refine wp_world (fun W => W.cell? ⟨w.heap.size + 1, 0, none⟩ = some (.int .u32 o) ∧ W.cell? ⟨w.heap.size + 1, 1, none⟩ = some (.int .u32 l) ∧ W.cell? ⟨X.heap.size + 1 + 1 + 1 + 1, 0, none⟩ = some (.int .u32 P1) ∧ W.cell? ⟨X.heap.size + 1 + 1 + 1 + 1, 1, none⟩ = some (.int .u32 L1) ∧ W.cell? ⟨X.heap.size + 1 + 1 + 1 + 1 + 1 + 1 + 1 + 1 + 1, 0, none⟩ = some (.int .u32 P4) ∧ W.cell? ⟨X.heap.size + 1 + 1 + 1 + 1 + 1 + 1 + 1 + 1 + 1, 1, none⟩ = some (.int .u32 L4) ∧ Below w.heap.size w W)
        ⟨cell_later (w := Y) (by go_grown) s0, cell_later (w := Y) (by go_grown) s1, cell_later (w := Y) (by go_grown) s8, cell_later (w := Y) (by go_grown) s9, cell_later (w := Y) (by go_grown) s10, cell_later (w := Y) (by go_grown) s11, below_next BW (by go_grown)⟩ ?_
      clear BW
      rintro Z ⟨t0, t1, t2, t3, t4, t5, BW⟩
      clear s0 s1 s2 s3 s4 s5 s6 s7 s8 s9 s10 s11
      have s0 := t0
      have s1 := t1
      have s2 := t2
      have s3 := t3
      have s4 := t4
      have s5 := t5
      clear t0 t1 t2 t3 t4 t5
      clear CE1 CE4
      go_region_held3 (fun W => W.cell? ⟨w.heap.size + 1, 0, none⟩ = some (.int .u32 o) ∧ W.cell? ⟨w.heap.size + 1, 1, none⟩ = some (.int .u32 l) ∧ W.cell? ⟨X.heap.size + 1 + 1 + 1 + 1, 0, none⟩ = some (.int .u32 P1) ∧ W.cell? ⟨X.heap.size + 1 + 1 + 1 + 1, 1, none⟩ = some (.int .u32 L1) ∧ W.cell? ⟨X.heap.size + 1 + 1 + 1 + 1 + 1 + 1 + 1 + 1 + 1, 0, none⟩ = some (.int .u32 P4) ∧ W.cell? ⟨X.heap.size + 1 + 1 + 1 + 1 + 1 + 1 + 1 + 1 + 1, 1, none⟩ = some (.int .u32 L4)) (exact ⟨cell_later (w := Z) (by go_grown) s0, cell_later (w := Z) (by go_grown) s1, cell_later (w := Z) (by go_grown) s2, cell_later (w := Z) (by go_grown) s3, cell_later (w := Z) (by go_grown) s4, cell_later (w := Z) (by go_grown) s5⟩) (first | (go_at_call 20; refine (line _ _ _ (by omega) (by omega)).mono ?_; rintro e w' ⟨rfl, rfl⟩))
      go_wp2_with fail
      refine wp_world (fun W => W.cell? ⟨w.heap.size + 1, 0, none⟩ = some (.int .u32 o) ∧ W.cell? ⟨w.heap.size + 1, 1, none⟩ = some (.int .u32 l) ∧ W.cell? ⟨X.heap.size + 1 + 1 + 1 + 1, 0, none⟩ = some (.int .u32 P1) ∧ W.cell? ⟨X.heap.size + 1 + 1 + 1 + 1, 1, none⟩ = some (.int .u32 L1) ∧ W.cell? ⟨X.heap.size + 1 + 1 + 1 + 1 + 1 + 1 + 1 + 1 + 1, 0, none⟩ = some (.int .u32 P4) ∧ W.cell? ⟨X.heap.size + 1 + 1 + 1 + 1 + 1 + 1 + 1 + 1 + 1, 1, none⟩ = some (.int .u32 L4) ∧ Below w.heap.size w W)
        ⟨cell_later (w := Z) (by go_grown) s0, cell_later (w := Z) (by go_grown) s1, cell_later (w := Z) (by go_grown) s2, cell_later (w := Z) (by go_grown) s3, cell_later (w := Z) (by go_grown) s4, cell_later (w := Z) (by go_grown) s5, below_next BW (by go_grown)⟩ ?_
      clear BW
      rintro Z2 ⟨t0, t1, t2, t3, t4, t5, BW⟩
      clear s0 s1 s2 s3 s4 s5
      have s0 := t0
      have s1 := t1
      have s2 := t2
      have s3 := t3
      have s4 := t4
      have s5 := t5
      clear t0 t1 t2 t3 t4 t5
      go_region_held3 (fun W => W.cell? ⟨X.heap.size + 1 + 1 + 1 + 1, 0, none⟩ = some (.int .u32 P1) ∧ W.cell? ⟨X.heap.size + 1 + 1 + 1 + 1, 1, none⟩ = some (.int .u32 L1) ∧ W.cell? ⟨X.heap.size + 1 + 1 + 1 + 1 + 1 + 1 + 1 + 1 + 1, 0, none⟩ = some (.int .u32 P4) ∧ W.cell? ⟨X.heap.size + 1 + 1 + 1 + 1 + 1 + 1 + 1 + 1 + 1, 1, none⟩ = some (.int .u32 L4)) (exact ⟨cell_later (w := Z2) (by go_grown) s2, cell_later (w := Z2) (by go_grown) s3, cell_later (w := Z2) (by go_grown) s4, cell_later (w := Z2) (by go_grown) s5⟩) (first | (go_at_call 17; refine (offset _ _ _ (by omega) (by omega)).mono ?_; rintro e w' ⟨rfl, rfl⟩) | (go_at_call 21; refine (after _ _ _ _ _).mono ?_; rintro e w' ⟨rfl, rfl⟩))
      have hzz := lt_of_cell s0
      obtain ⟨k1, k2, k3, k4, k5, k6, k7, k8, k9, k10, k11, k12, k13, k14, k15, k16, k17, k18, k19, k20⟩ := lts hzz
      go_wp2_with (go_at_call 22; refine (isValid _ _ _).mono ?_; rintro e w' ⟨rfl, rfl⟩)
      go_ret
      exact ⟨rfl, below_next BW (by go_grown)⟩
theorem early (o l c d k : Int) (w : World) (h : k < 0 ∨ 4096 < k) : Calls Try.prog 5 #[.int .u32 o, .int .u32 l, .int .u32 c, .int .u32 d, .int .i64 k] w fun e w' => e = .returned (.bool true) ∧ Below w.heap.size w w' := by
  rcases h with h | h
  · go_enter Try.func5, Try.ntmps5
    go_wp2
    go_ret
    exact ⟨rfl, Below.refl _ _⟩
  · have h2 : ¬ k < 0 := by omega
    go_enter Try.func5, Try.ntmps5
    go_wp2
    go_ret
    exact ⟨rfl, Below.refl _ _⟩
theorem law5 (o l c d k : Int) (w : World) (ho : 0 ≤ o ∧ o ≤ 4294967295) (hl : 0 ≤ l ∧ l ≤ 4294967295) : Calls Try.prog 5 #[.int .u32 o, .int .u32 l, .int .u32 c, .int .u32 d, .int .i64 k] w fun e w' => e = .returned (.bool true) ∧ Below w.heap.size w w' := by
  by_cases h : k < 0 ∨ 4096 < k
  · exact early o l c d k w h
  have h1 : ¬ k < 0 := fun x => h (Or.inl x)
  have h2 : ¬ 4096 < k := fun x => h (Or.inr x)
  by_cases hr : o ≤ 4294967284 ∨ (o = 4294967285 ∧ l = 0)
  · obtain ⟨n, rfl⟩ := Int.eq_ofNat_of_zero_le (show 0 ≤ k by omega)
    cases hv : vB o l
    · exact mainN o l c d n w ho hl (by omega) hr hv
    · exact mainV o l c d n w ho hl (by omega) hr hv
  · clear h
    go_enter Try.func5, Try.ntmps5
    go_wp2_with (go_at_call 9; refine (reachF _ _ _ hr).mono ?_; rintro e w' ⟨rfl, rfl⟩)
    go_ret
    exact ⟨rfl, Below.refl _ _⟩
end Go.Proofs.Ytccnpgmceoojmab.esac
