/-
  The law's builder of parameter expansions: which features its answer has.
-/
import Derived.Test.YtccnpgmceoojmadSimp
namespace Go.Proofs.Ytccnpgmceoojmad.simp
open Go.RowKit
open Go.Proofs.Ytccnpgmceoojmad

structure Rep (w0 W : World) (pb : Nat) (V : Nat → Value) : Prop where
  cell : ∀ i, i < 21 → W.cell? ⟨pb, i, none⟩ = some (V i)
  fz : ∀ i, W.frozen? ⟨pb, i, none⟩ = false
  bel : Below w0.heap.size w0 W
  le : w0.heap.size ≤ pb
theorem Rep.later {w0 W W' : World} {pb : Nat} {V : Nat → Value} (h : Rep w0 W pb V) (hb : Below W.heap.size W W') : Rep w0 W' pb V :=
  ⟨fun i hi => cell_later hb (h.cell i hi), fun i => (hb.frozen (p := ⟨pb, i, none⟩) (lt_of_cell (h.cell 0 (by omega)))).trans (h.fz i), below_next h.bel hb, h.le⟩
theorem Rep.set {w0 W : World} {pb : Nat} {V : Nat → Value} (h : Rep w0 W pb V) (i : Nat) (hi : i < 21) (v : Value) : Rep w0 (W.setCell ⟨pb, i, none⟩ v) pb (fun j => if j = i then v else V j) := by
  have hlt := lt_of_cell (h.cell 0 (by omega))
  refine ⟨fun j hj => ?_, fun j => ?_, h.bel.setCell h.le _, h.le⟩
  · have c := h.cell j hj
    have ci := h.cell i hi
    by_cases e : j = i
    · subst e
      simp [go_sem, ci]
    · have e' : ¬ i = j := fun x => e x.symm
      simp [go_sem, e, e', c]
  · have z := h.fz j
    simp [go_sem, z]
def Built (f sp gl rc nm : Int) (w : World) (e : Ending) (w' : World) : Prop :=
  ∃ V, e = .returned (.pointer (some ⟨w.heap.size, 0, none⟩)) ∧ Rep w w' w.heap.size V ∧ Fts (bits .and .u32 f 1 != 0) (bits .and .u32 f 2 != 0) (bits .and .u32 f 4 != 0) (bits .and .u32 f 8 != 0) (bits .and .u32 f 16 != 0) (bits .and .u32 f 32 != 0) (bits .and .u32 f 64 != 0) (bits .and .u32 f 128 != 0) (bits .and .u32 f 256 != 0) (bits .and .u32 f 512 != 0) (bits .and .u32 f 1024 != 0) (bits .and .u32 f 2048 != 0) V ∧ V 10 = .int .u8 sp ∧ V 11 = .int .u8 gl ∧ V 12 = .int .u8 rc ∧ V 19 = .int .u32 nm
set_option maxRecDepth 100000 in
set_option maxHeartbeats 8000000 in
theorem build (f sp gl rc nm : Int) (w : World) : Calls Try.prog 8 #[.int .u32 f, .int .u8 sp, .int .u8 gl, .int .u8 rc, .int .u32 nm] w (Built f sp gl rc nm w) := by
  go_enter Try.func8, Try.ntmps8
  go_upto_if 16 with (fail)
  refine wp_world (fun W => ∃ V, Rep w W w.heap.size V ∧ Fts false false false false false false false false false false false false V)
    ⟨fun i => if i = 0 then .int .u32 0 else if i = 1 then .int .u32 0 else if i = 2 then .int .u32 0 else if i = 3 then .int .u32 0 else if i = 4 then .bool false else if i = 5 then .pointer none else if i = 6 then .bool false else if i = 7 then .bool false else if i = 8 then .bool false else if i = 9 then .bool false else if i = 10 then .int .u8 0 else if i = 11 then .int .u8 0 else if i = 12 then .int .u8 0 else if i = 13 then .pointer none else if i = 14 then .nilIface else if i = 15 then .nilIface else if i = 16 then .slice none 0 0 else if i = 17 then .pointer none else if i = 18 then .pointer none else if i = 19 then .int .u32 0 else .pointer none, ⟨fun i hi => ?_, fun i => ?_, by go_grown, Nat.le_refl _⟩, ⟨Or.inl ⟨rfl, rfl⟩, Or.inl ⟨rfl, rfl⟩, rfl, rfl, rfl, rfl, Or.inl ⟨rfl, rfl⟩, Or.inl ⟨rfl, rfl⟩, Or.inl ⟨rfl, rfl⟩, Or.inl ⟨rfl, rfl⟩, Or.inl ⟨rfl, rfl⟩, Or.inl ⟨rfl, rfl⟩⟩⟩ ?_
  · have : i = 0 ∨ i = 1 ∨ i = 2 ∨ i = 3 ∨ i = 4 ∨ i = 5 ∨ i = 6 ∨ i = 7 ∨ i = 8 ∨ i = 9 ∨ i = 10 ∨ i = 11 ∨ i = 12 ∨ i = 13 ∨ i = 14 ∨ i = 15 ∨ i = 16 ∨ i = 17 ∨ i = 18 ∨ i = 19 ∨ i = 20 := by omega
    rcases this with rfl | rfl | rfl | rfl | rfl | rfl | rfl | rfl | rfl | rfl | rfl | rfl | rfl | rfl | rfl | rfl | rfl | rfl | rfl | rfl | rfl <;> simp [go_sem]
  · simp [go_sem]
  rintro W ⟨V, hR, hF⟩
  go_cut [] (fun W => ∃ V, Rep w W w.heap.size V ∧ Fts (bits .and .u32 f 1 != 0) false false false false false false false false false false false V)
  case first =>
    obtain ⟨f13, f5, f6, f7, f8, f9, f14, f15, f16, f17, f18, f20⟩ := hF
    cases hb : (bits .and .u32 f 1 != 0)
    · go_wp2
      go_meet
      case rel =>
        first | rw [hb] | skip
        exact ⟨V, hR, ⟨f13, f5, f6, f7, f8, f9, f14, f15, f16, f17, f18, f20⟩⟩
    have c13 := hR.cell 13 (by omega)
    have z13 := hR.fz 13
    have hlt := lt_of_cell c13
    obtain ⟨k1, k2, k3, k4, k5, k6, k7, k8, k9, k10, k11, k12, k13, k14, k15, k16, k17, k18, k19, k20⟩ := lts hlt
    go_wp2_with (first | (go_at_call 10; refine (pexp.zLit _ _ _ _ _ ?_ ?_ ?_ ?_ ?_ ?_ ?_).mono ?_; (iterate 7 (· omega)); rintro e w' ⟨rfl, rfl⟩) | (go_at_call 11; refine (pexp.zIdx _ _ _ _ _ ?_ ?_ ?_ ?_ ?_ ?_ ?_).mono ?_; (iterate 7 (· omega)); rintro e w' ⟨rfl, rfl⟩) | (go_at_call 9; refine (pexp.zPos _ _ _ _ ?_ ?_ ?_ ?_ ?_).mono ?_; (iterate 5 (· omega)); rintro e w' ⟨rfl, rfl⟩))
    go_meet
    case rel =>
      first | rw [hb] | skip
      exact ⟨_, ((hR.set 13 (by omega) _).later (by go_grown)), ⟨Or.inr ⟨rfl, _, rfl⟩, f5, f6, f7, f8, f9, f14, f15, f16, f17, f18, f20⟩⟩
  case rest =>
  clear hR hF V W
  obtain ⟨V, hR, hF⟩ := hcut
  go_upto_if 23 with (fail)
  obtain ⟨W, rfl⟩ : ∃ W, W = wc := ⟨_, rfl⟩
  go_cut [] (fun W => ∃ V, Rep w W w.heap.size V ∧ Fts (bits .and .u32 f 1 != 0) (bits .and .u32 f 2 != 0) false false false false false false false false false false V)
  case first =>
    obtain ⟨f13, f5, f6, f7, f8, f9, f14, f15, f16, f17, f18, f20⟩ := hF
    cases hb : (bits .and .u32 f 2 != 0)
    · go_wp2
      go_meet
      case rel =>
        first | rw [hb] | skip
        exact ⟨V, hR, ⟨f13, f5, f6, f7, f8, f9, f14, f15, f16, f17, f18, f20⟩⟩
    have c5 := hR.cell 5 (by omega)
    have z5 := hR.fz 5
    have hlt := lt_of_cell c5
    obtain ⟨k1, k2, k3, k4, k5, k6, k7, k8, k9, k10, k11, k12, k13, k14, k15, k16, k17, k18, k19, k20⟩ := lts hlt
    go_wp2_with (first | (go_at_call 10; refine (pexp.zLit _ _ _ _ _ ?_ ?_ ?_ ?_ ?_ ?_ ?_).mono ?_; (iterate 7 (· omega)); rintro e w' ⟨rfl, rfl⟩) | (go_at_call 11; refine (pexp.zIdx _ _ _ _ _ ?_ ?_ ?_ ?_ ?_ ?_ ?_).mono ?_; (iterate 7 (· omega)); rintro e w' ⟨rfl, rfl⟩) | (go_at_call 9; refine (pexp.zPos _ _ _ _ ?_ ?_ ?_ ?_ ?_).mono ?_; (iterate 5 (· omega)); rintro e w' ⟨rfl, rfl⟩))
    go_meet
    case rel =>
      first | rw [hb] | skip
      exact ⟨_, ((hR.set 5 (by omega) _).later (by go_grown)), ⟨f13, Or.inr ⟨rfl, _, rfl⟩, f6, f7, f8, f9, f14, f15, f16, f17, f18, f20⟩⟩
  case rest =>
  clear hR hF V W
  obtain ⟨V, hR, hF⟩ := hcut
  have c6 := hR.cell 6 (by omega)
  have z6 := hR.fz 6
  have c7 := hR.cell 7 (by omega)
  have z7 := hR.fz 7
  have c8 := hR.cell 8 (by omega)
  have z8 := hR.fz 8
  have c9 := hR.cell 9 (by omega)
  have z9 := hR.fz 9
  have hlt := lt_of_cell c6
  go_upto_if 54 with (fail)
  obtain ⟨f13, f5, f6, f7, f8, f9, f14, f15, f16, f17, f18, f20⟩ := hF
  refine wp_world (fun W => ∃ V, Rep w W w.heap.size V ∧ Fts (bits .and .u32 f 1 != 0) (bits .and .u32 f 2 != 0) (bits .and .u32 f 4 != 0) (bits .and .u32 f 8 != 0) (bits .and .u32 f 16 != 0) (bits .and .u32 f 32 != 0) false false false false false false V) ⟨_, ((((hR.set 6 (by omega) _).set 7 (by omega) _).set 8 (by omega) _).set 9 (by omega) _), ⟨f13, f5, rfl, rfl, rfl, rfl, f14, f15, f16, f17, f18, f20⟩⟩ ?_
  clear hR c6 z6 c7 z7 c8 z8 c9 z9 hlt f13 f5 f6 f7 f8 f9 f14 f15 f16 f17 f18 f20
  clear V wc
  rintro W ⟨V, hR, hF⟩
  go_cut [] (fun W => ∃ V, Rep w W w.heap.size V ∧ Fts (bits .and .u32 f 1 != 0) (bits .and .u32 f 2 != 0) (bits .and .u32 f 4 != 0) (bits .and .u32 f 8 != 0) (bits .and .u32 f 16 != 0) (bits .and .u32 f 32 != 0) (bits .and .u32 f 64 != 0) false false false false false V)
  case first =>
    obtain ⟨f13, f5, f6, f7, f8, f9, f14, f15, f16, f17, f18, f20⟩ := hF
    cases hb : (bits .and .u32 f 64 != 0)
    · go_wp2
      go_meet
      case rel =>
        first | rw [hb] | skip
        exact ⟨V, hR, ⟨f13, f5, f6, f7, f8, f9, f14, f15, f16, f17, f18, f20⟩⟩
    have c14 := hR.cell 14 (by omega)
    have z14 := hR.fz 14
    have hlt := lt_of_cell c14
    obtain ⟨k1, k2, k3, k4, k5, k6, k7, k8, k9, k10, k11, k12, k13, k14, k15, k16, k17, k18, k19, k20⟩ := lts hlt
    go_wp2_with (first | (go_at_call 10; refine (pexp.zLit _ _ _ _ _ ?_ ?_ ?_ ?_ ?_ ?_ ?_).mono ?_; (iterate 7 (· omega)); rintro e w' ⟨rfl, rfl⟩) | (go_at_call 11; refine (pexp.zIdx _ _ _ _ _ ?_ ?_ ?_ ?_ ?_ ?_ ?_).mono ?_; (iterate 7 (· omega)); rintro e w' ⟨rfl, rfl⟩) | (go_at_call 9; refine (pexp.zPos _ _ _ _ ?_ ?_ ?_ ?_ ?_).mono ?_; (iterate 5 (· omega)); rintro e w' ⟨rfl, rfl⟩))
    go_meet
    case rel =>
      first | rw [hb] | skip
      exact ⟨_, ((hR.set 14 (by omega) _).later (by go_grown)), ⟨f13, f5, f6, f7, f8, f9, Or.inr ⟨rfl, _, _, rfl⟩, f15, f16, f17, f18, f20⟩⟩
  case rest =>
  clear hR hF V W
  obtain ⟨V, hR, hF⟩ := hcut
  go_upto_if 63 with (fail)
  obtain ⟨W, rfl⟩ : ∃ W, W = wc := ⟨_, rfl⟩
  go_cut [] (fun W => ∃ V, Rep w W w.heap.size V ∧ Fts (bits .and .u32 f 1 != 0) (bits .and .u32 f 2 != 0) (bits .and .u32 f 4 != 0) (bits .and .u32 f 8 != 0) (bits .and .u32 f 16 != 0) (bits .and .u32 f 32 != 0) (bits .and .u32 f 64 != 0) (bits .and .u32 f 128 != 0) false false false false V)
  case first =>
    obtain ⟨f13, f5, f6, f7, f8, f9, f14, f15, f16, f17, f18, f20⟩ := hF
    cases hb : (bits .and .u32 f 128 != 0)
    · go_wp2
      go_meet
      case rel =>
        first | rw [hb] | skip
        exact ⟨V, hR, ⟨f13, f5, f6, f7, f8, f9, f14, f15, f16, f17, f18, f20⟩⟩
    have c15 := hR.cell 15 (by omega)
    have z15 := hR.fz 15
    have hlt := lt_of_cell c15
    obtain ⟨k1, k2, k3, k4, k5, k6, k7, k8, k9, k10, k11, k12, k13, k14, k15, k16, k17, k18, k19, k20⟩ := lts hlt
    go_wp2_with (first | (go_at_call 10; refine (pexp.zLit _ _ _ _ _ ?_ ?_ ?_ ?_ ?_ ?_ ?_).mono ?_; (iterate 7 (· omega)); rintro e w' ⟨rfl, rfl⟩) | (go_at_call 11; refine (pexp.zIdx _ _ _ _ _ ?_ ?_ ?_ ?_ ?_ ?_ ?_).mono ?_; (iterate 7 (· omega)); rintro e w' ⟨rfl, rfl⟩) | (go_at_call 9; refine (pexp.zPos _ _ _ _ ?_ ?_ ?_ ?_ ?_).mono ?_; (iterate 5 (· omega)); rintro e w' ⟨rfl, rfl⟩))
    go_meet
    case rel =>
      first | rw [hb] | skip
      exact ⟨_, ((hR.set 15 (by omega) _).later (by go_grown)), ⟨f13, f5, f6, f7, f8, f9, f14, Or.inr ⟨rfl, _, _, rfl⟩, f16, f17, f18, f20⟩⟩
  case rest =>
  clear hR hF V W
  obtain ⟨V, hR, hF⟩ := hcut
  go_upto_if 71 with (fail)
  obtain ⟨W, rfl⟩ : ∃ W, W = wc := ⟨_, rfl⟩
  go_cut [] (fun W => ∃ V, Rep w W w.heap.size V ∧ Fts (bits .and .u32 f 1 != 0) (bits .and .u32 f 2 != 0) (bits .and .u32 f 4 != 0) (bits .and .u32 f 8 != 0) (bits .and .u32 f 16 != 0) (bits .and .u32 f 32 != 0) (bits .and .u32 f 64 != 0) (bits .and .u32 f 128 != 0) (bits .and .u32 f 256 != 0) false false false V)
  case first =>
    obtain ⟨f13, f5, f6, f7, f8, f9, f14, f15, f16, f17, f18, f20⟩ := hF
    cases hb : (bits .and .u32 f 256 != 0)
    · go_wp2
      go_meet
      case rel =>
        first | rw [hb] | skip
        exact ⟨V, hR, ⟨f13, f5, f6, f7, f8, f9, f14, f15, f16, f17, f18, f20⟩⟩
    have c16 := hR.cell 16 (by omega)
    have z16 := hR.fz 16
    have hlt := lt_of_cell c16
    obtain ⟨k1, k2, k3, k4, k5, k6, k7, k8, k9, k10, k11, k12, k13, k14, k15, k16, k17, k18, k19, k20⟩ := lts hlt
    go_wp2_with (first | (go_at_call 10; refine (pexp.zLit _ _ _ _ _ ?_ ?_ ?_ ?_ ?_ ?_ ?_).mono ?_; (iterate 7 (· omega)); rintro e w' ⟨rfl, rfl⟩) | (go_at_call 11; refine (pexp.zIdx _ _ _ _ _ ?_ ?_ ?_ ?_ ?_ ?_ ?_).mono ?_; (iterate 7 (· omega)); rintro e w' ⟨rfl, rfl⟩) | (go_at_call 9; refine (pexp.zPos _ _ _ _ ?_ ?_ ?_ ?_ ?_).mono ?_; (iterate 5 (· omega)); rintro e w' ⟨rfl, rfl⟩))
    go_meet
    case rel =>
      first | rw [hb] | skip
      exact ⟨_, ((hR.set 16 (by omega) _).later (by go_grown)), ⟨f13, f5, f6, f7, f8, f9, f14, f15, Or.inr ⟨rfl, _, rfl⟩, f17, f18, f20⟩⟩
  case rest =>
  clear hR hF V W
  obtain ⟨V, hR, hF⟩ := hcut
  go_upto_if 79 with (fail)
  obtain ⟨W, rfl⟩ : ∃ W, W = wc := ⟨_, rfl⟩
  go_cut [] (fun W => ∃ V, Rep w W w.heap.size V ∧ Fts (bits .and .u32 f 1 != 0) (bits .and .u32 f 2 != 0) (bits .and .u32 f 4 != 0) (bits .and .u32 f 8 != 0) (bits .and .u32 f 16 != 0) (bits .and .u32 f 32 != 0) (bits .and .u32 f 64 != 0) (bits .and .u32 f 128 != 0) (bits .and .u32 f 256 != 0) (bits .and .u32 f 512 != 0) false false V)
  case first =>
    obtain ⟨f13, f5, f6, f7, f8, f9, f14, f15, f16, f17, f18, f20⟩ := hF
    cases hb : (bits .and .u32 f 512 != 0)
    · go_wp2
      go_meet
      case rel =>
        first | rw [hb] | skip
        exact ⟨V, hR, ⟨f13, f5, f6, f7, f8, f9, f14, f15, f16, f17, f18, f20⟩⟩
    have c17 := hR.cell 17 (by omega)
    have z17 := hR.fz 17
    have hlt := lt_of_cell c17
    obtain ⟨k1, k2, k3, k4, k5, k6, k7, k8, k9, k10, k11, k12, k13, k14, k15, k16, k17, k18, k19, k20⟩ := lts hlt
    go_wp2_with (first | (go_at_call 10; refine (pexp.zLit _ _ _ _ _ ?_ ?_ ?_ ?_ ?_ ?_ ?_).mono ?_; (iterate 7 (· omega)); rintro e w' ⟨rfl, rfl⟩) | (go_at_call 11; refine (pexp.zIdx _ _ _ _ _ ?_ ?_ ?_ ?_ ?_ ?_ ?_).mono ?_; (iterate 7 (· omega)); rintro e w' ⟨rfl, rfl⟩) | (go_at_call 9; refine (pexp.zPos _ _ _ _ ?_ ?_ ?_ ?_ ?_).mono ?_; (iterate 5 (· omega)); rintro e w' ⟨rfl, rfl⟩))
    go_meet
    case rel =>
      first | rw [hb] | skip
      exact ⟨_, ((hR.set 17 (by omega) _).later (by go_grown)), ⟨f13, f5, f6, f7, f8, f9, f14, f15, f16, Or.inr ⟨rfl, _, rfl⟩, f18, f20⟩⟩
  case rest =>
  clear hR hF V W
  obtain ⟨V, hR, hF⟩ := hcut
  go_upto_if 87 with (fail)
  obtain ⟨W, rfl⟩ : ∃ W, W = wc := ⟨_, rfl⟩
  go_cut [] (fun W => ∃ V, Rep w W w.heap.size V ∧ Fts (bits .and .u32 f 1 != 0) (bits .and .u32 f 2 != 0) (bits .and .u32 f 4 != 0) (bits .and .u32 f 8 != 0) (bits .and .u32 f 16 != 0) (bits .and .u32 f 32 != 0) (bits .and .u32 f 64 != 0) (bits .and .u32 f 128 != 0) (bits .and .u32 f 256 != 0) (bits .and .u32 f 512 != 0) (bits .and .u32 f 1024 != 0) false V)
  case first =>
    obtain ⟨f13, f5, f6, f7, f8, f9, f14, f15, f16, f17, f18, f20⟩ := hF
    cases hb : (bits .and .u32 f 1024 != 0)
    · go_wp2
      go_meet
      case rel =>
        first | rw [hb] | skip
        exact ⟨V, hR, ⟨f13, f5, f6, f7, f8, f9, f14, f15, f16, f17, f18, f20⟩⟩
    have c18 := hR.cell 18 (by omega)
    have z18 := hR.fz 18
    have hlt := lt_of_cell c18
    obtain ⟨k1, k2, k3, k4, k5, k6, k7, k8, k9, k10, k11, k12, k13, k14, k15, k16, k17, k18, k19, k20⟩ := lts hlt
    go_wp2_with (first | (go_at_call 10; refine (pexp.zLit _ _ _ _ _ ?_ ?_ ?_ ?_ ?_ ?_ ?_).mono ?_; (iterate 7 (· omega)); rintro e w' ⟨rfl, rfl⟩) | (go_at_call 11; refine (pexp.zIdx _ _ _ _ _ ?_ ?_ ?_ ?_ ?_ ?_ ?_).mono ?_; (iterate 7 (· omega)); rintro e w' ⟨rfl, rfl⟩) | (go_at_call 9; refine (pexp.zPos _ _ _ _ ?_ ?_ ?_ ?_ ?_).mono ?_; (iterate 5 (· omega)); rintro e w' ⟨rfl, rfl⟩))
    go_meet
    case rel =>
      first | rw [hb] | skip
      exact ⟨_, ((hR.set 18 (by omega) _).later (by go_grown)), ⟨f13, f5, f6, f7, f8, f9, f14, f15, f16, f17, Or.inr ⟨rfl, _, rfl⟩, f20⟩⟩
  case rest =>
  clear hR hF V W
  obtain ⟨V, hR, hF⟩ := hcut
  go_upto_if 95 with (fail)
  obtain ⟨W, rfl⟩ : ∃ W, W = wc := ⟨_, rfl⟩
  go_cut [] (fun W => ∃ V, Rep w W w.heap.size V ∧ Fts (bits .and .u32 f 1 != 0) (bits .and .u32 f 2 != 0) (bits .and .u32 f 4 != 0) (bits .and .u32 f 8 != 0) (bits .and .u32 f 16 != 0) (bits .and .u32 f 32 != 0) (bits .and .u32 f 64 != 0) (bits .and .u32 f 128 != 0) (bits .and .u32 f 256 != 0) (bits .and .u32 f 512 != 0) (bits .and .u32 f 1024 != 0) (bits .and .u32 f 2048 != 0) V)
  case first =>
    obtain ⟨f13, f5, f6, f7, f8, f9, f14, f15, f16, f17, f18, f20⟩ := hF
    cases hb : (bits .and .u32 f 2048 != 0)
    · go_wp2
      go_meet
      case rel =>
        first | rw [hb] | skip
        exact ⟨V, hR, ⟨f13, f5, f6, f7, f8, f9, f14, f15, f16, f17, f18, f20⟩⟩
    have c20 := hR.cell 20 (by omega)
    have z20 := hR.fz 20
    have hlt := lt_of_cell c20
    obtain ⟨k1, k2, k3, k4, k5, k6, k7, k8, k9, k10, k11, k12, k13, k14, k15, k16, k17, k18, k19, k20⟩ := lts hlt
    go_wp2_with (first | (go_at_call 10; refine (pexp.zLit _ _ _ _ _ ?_ ?_ ?_ ?_ ?_ ?_ ?_).mono ?_; (iterate 7 (· omega)); rintro e w' ⟨rfl, rfl⟩) | (go_at_call 11; refine (pexp.zIdx _ _ _ _ _ ?_ ?_ ?_ ?_ ?_ ?_ ?_).mono ?_; (iterate 7 (· omega)); rintro e w' ⟨rfl, rfl⟩) | (go_at_call 9; refine (pexp.zPos _ _ _ _ ?_ ?_ ?_ ?_ ?_).mono ?_; (iterate 5 (· omega)); rintro e w' ⟨rfl, rfl⟩))
    go_meet
    case rel =>
      first | rw [hb] | skip
      exact ⟨_, ((hR.set 20 (by omega) _).later (by go_grown)), ⟨f13, f5, f6, f7, f8, f9, f14, f15, f16, f17, f18, Or.inr ⟨rfl, _, rfl⟩⟩⟩
  case rest =>
  clear hR hF V W
  obtain ⟨V, hR, hF⟩ := hcut
  have c4 := hR.cell 4 (by omega)
  have z4 := hR.fz 4
  have hlt := lt_of_cell c4
  go_upto_if 109 with (fail)
  obtain ⟨f13, f5, f6, f7, f8, f9, f14, f15, f16, f17, f18, f20⟩ := hF
  refine wp_world (fun W => ∃ V, Rep w W w.heap.size V ∧ Fts (bits .and .u32 f 1 != 0) (bits .and .u32 f 2 != 0) (bits .and .u32 f 4 != 0) (bits .and .u32 f 8 != 0) (bits .and .u32 f 16 != 0) (bits .and .u32 f 32 != 0) (bits .and .u32 f 64 != 0) (bits .and .u32 f 128 != 0) (bits .and .u32 f 256 != 0) (bits .and .u32 f 512 != 0) (bits .and .u32 f 1024 != 0) (bits .and .u32 f 2048 != 0) V) ⟨_, (hR.set 4 (by omega) _), ⟨f13, f5, f6, f7, f8, f9, f14, f15, f16, f17, f18, f20⟩⟩ ?_
  clear hR c4 z4 hlt f13 f5 f6 f7 f8 f9 f14 f15 f16 f17 f18 f20
  clear V wc
  rintro W ⟨V, hR, hF⟩
  go_cut [] (fun W => ∃ V, Rep w W w.heap.size V ∧ Fts (bits .and .u32 f 1 != 0) (bits .and .u32 f 2 != 0) (bits .and .u32 f 4 != 0) (bits .and .u32 f 8 != 0) (bits .and .u32 f 16 != 0) (bits .and .u32 f 32 != 0) (bits .and .u32 f 64 != 0) (bits .and .u32 f 128 != 0) (bits .and .u32 f 256 != 0) (bits .and .u32 f 512 != 0) (bits .and .u32 f 1024 != 0) (bits .and .u32 f 2048 != 0) V)
  case first =>
    obtain ⟨f13, f5, f6, f7, f8, f9, f14, f15, f16, f17, f18, f20⟩ := hF
    cases hb : (bits .and .u32 f 8192 != 0)
    · go_wp2
      go_meet
      case rel =>
        first | rw [hb] | skip
        exact ⟨V, hR, ⟨f13, f5, f6, f7, f8, f9, f14, f15, f16, f17, f18, f20⟩⟩
    have c0 := hR.cell 0 (by omega)
    have z0 := hR.fz 0
    have c1 := hR.cell 1 (by omega)
    have z1 := hR.fz 1
    have hlt := lt_of_cell c0
    obtain ⟨k1, k2, k3, k4, k5, k6, k7, k8, k9, k10, k11, k12, k13, k14, k15, k16, k17, k18, k19, k20⟩ := lts hlt
    go_wp2_with (first | (go_at_call 10; refine (pexp.zLit _ _ _ _ _ ?_ ?_ ?_ ?_ ?_ ?_ ?_).mono ?_; (iterate 7 (· omega)); rintro e w' ⟨rfl, rfl⟩) | (go_at_call 11; refine (pexp.zIdx _ _ _ _ _ ?_ ?_ ?_ ?_ ?_ ?_ ?_).mono ?_; (iterate 7 (· omega)); rintro e w' ⟨rfl, rfl⟩) | (go_at_call 9; refine (pexp.zPos _ _ _ _ ?_ ?_ ?_ ?_ ?_).mono ?_; (iterate 5 (· omega)); rintro e w' ⟨rfl, rfl⟩))
    go_meet
    case rel =>
      first | rw [hb] | skip
      exact ⟨_, (((hR.set 0 (by omega) _).set 1 (by omega) _).later (by go_grown)), ⟨f13, f5, f6, f7, f8, f9, f14, f15, f16, f17, f18, f20⟩⟩
  case rest =>
  clear hR hF V W
  obtain ⟨V, hR, hF⟩ := hcut
  go_upto_if 116 with (fail)
  obtain ⟨W, rfl⟩ : ∃ W, W = wc := ⟨_, rfl⟩
  go_cut [] (fun W => ∃ V, Rep w W w.heap.size V ∧ Fts (bits .and .u32 f 1 != 0) (bits .and .u32 f 2 != 0) (bits .and .u32 f 4 != 0) (bits .and .u32 f 8 != 0) (bits .and .u32 f 16 != 0) (bits .and .u32 f 32 != 0) (bits .and .u32 f 64 != 0) (bits .and .u32 f 128 != 0) (bits .and .u32 f 256 != 0) (bits .and .u32 f 512 != 0) (bits .and .u32 f 1024 != 0) (bits .and .u32 f 2048 != 0) V)
  case first =>
    obtain ⟨f13, f5, f6, f7, f8, f9, f14, f15, f16, f17, f18, f20⟩ := hF
    cases hb : (bits .and .u32 f 16384 != 0)
    · go_wp2
      go_meet
      case rel =>
        first | rw [hb] | skip
        exact ⟨V, hR, ⟨f13, f5, f6, f7, f8, f9, f14, f15, f16, f17, f18, f20⟩⟩
    have c2 := hR.cell 2 (by omega)
    have z2 := hR.fz 2
    have c3 := hR.cell 3 (by omega)
    have z3 := hR.fz 3
    have hlt := lt_of_cell c2
    obtain ⟨k1, k2, k3, k4, k5, k6, k7, k8, k9, k10, k11, k12, k13, k14, k15, k16, k17, k18, k19, k20⟩ := lts hlt
    go_wp2_with (first | (go_at_call 10; refine (pexp.zLit _ _ _ _ _ ?_ ?_ ?_ ?_ ?_ ?_ ?_).mono ?_; (iterate 7 (· omega)); rintro e w' ⟨rfl, rfl⟩) | (go_at_call 11; refine (pexp.zIdx _ _ _ _ _ ?_ ?_ ?_ ?_ ?_ ?_ ?_).mono ?_; (iterate 7 (· omega)); rintro e w' ⟨rfl, rfl⟩) | (go_at_call 9; refine (pexp.zPos _ _ _ _ ?_ ?_ ?_ ?_ ?_).mono ?_; (iterate 5 (· omega)); rintro e w' ⟨rfl, rfl⟩))
    go_meet
    case rel =>
      first | rw [hb] | skip
      exact ⟨_, (((hR.set 2 (by omega) _).set 3 (by omega) _).later (by go_grown)), ⟨f13, f5, f6, f7, f8, f9, f14, f15, f16, f17, f18, f20⟩⟩
  case rest =>
  clear hR hF V W
  obtain ⟨V, hR, hF⟩ := hcut
  have c10 := hR.cell 10 (by omega)
  have z10 := hR.fz 10
  have c11 := hR.cell 11 (by omega)
  have z11 := hR.fz 11
  have c12 := hR.cell 12 (by omega)
  have z12 := hR.fz 12
  have c19 := hR.cell 19 (by omega)
  have z19 := hR.fz 19
  have hlt := lt_of_cell c10
  go_wp2
  go_ret
  exact ⟨_, rfl, ((((hR.set 10 (by omega) _).set 11 (by omega) _).set 12 (by omega) _).set 19 (by omega) _), hF, rfl, rfl, rfl, rfl⟩
end Go.Proofs.Ytccnpgmceoojmad.simp
