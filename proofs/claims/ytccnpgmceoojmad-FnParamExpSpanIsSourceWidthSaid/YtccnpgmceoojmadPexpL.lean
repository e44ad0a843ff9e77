/-
  A parameter expansion laid out on one line starts at its first byte and spans its source's width: for every layout within the law's bounds.
-/
import Derived.Test.YtccnpgmceoojmadPexp
namespace Go.Proofs.Ytccnpgmceoojmad.pexp
open Go.RowKit

set_option maxRecDepth 100000 in
set_option maxHeartbeats 4000000 in
theorem form0 (o ln c n m : Int) (w : World) (n1 : 1 ≤ n) (n2 : n ≤ 4096) (m1 : 1 ≤ m) (m2 : m ≤ 4096) (c1 : 1 ≤ c) (c2 : c ≤ 4096) (l1 : 1 ≤ ln) (l2 : ln ≤ 262143) (ho : 0 ≤ o) (o2 : o ≤ 1073741824) :
    Calls Try.prog 4 #[.int .u8 0, .int .u32 o, .int .u32 ln, .int .u32 c, .int .u32 n, .int .u32 m] w fun e w' => e = .returned (.bool true) ∧ Below w.heap.size w w' := by
  have hv : vB o (ln * 16384 + c) = true := by simp [vB]; omega
  have x0 : IntKind.u32.wrap (o + 1) = o + 1 := IntWalk.u32_in _ (by omega)
  have x1 : IntKind.u32.wrap (c + 1) = c + 1 := IntWalk.u32_in _ (by omega)
  have x2 : IntKind.u32.wrap (n + 1) = n + 1 := IntWalk.u32_in _ (by omega)
  go_enter Try.func4, Try.ntmps4
  go_wp2_with (first | (go_at_call 9; refine (zPos _ _ _ _ (by omega) (by omega) (by omega) (by omega) (by omega)).mono ?_; rintro e w' ⟨rfl, rfl⟩) | (go_at_call 10; refine (zLit _ _ _ _ _ (by omega) (by omega) (by omega) (by omega) (by omega) (by omega) (by omega)).mono ?_; rintro e w' ⟨rfl, rfl⟩) | (go_at_call 11; refine (zIdx _ _ _ _ _ (by omega) (by omega) (by omega) (by omega) (by omega) (by omega) (by omega)).mono ?_; rintro e w' ⟨rfl, rfl⟩))
  refine calls_world (fun W => W.cell? ⟨w.heap.size, 0, none⟩ = some (.int .u32 o) ∧ W.cell? ⟨w.heap.size, 1, none⟩ = some (.int .u32 (ln * 16384 + c)) ∧ W.cell? ⟨w.heap.size, 4, none⟩ = some (.bool true) ∧ W.cell? ⟨w.heap.size, 15, none⟩ = some .nilIface ∧ W.cell? ⟨w.heap.size, 13, none⟩ = some (.pointer (some ⟨w.heap.size + 1 + 1 + 1 + 1 + 1 + 1 + 1, 0, none⟩)) ∧ W.cell? ⟨w.heap.size + 1 + 1 + 1 + 1 + 1 + 1 + 1, 2, none⟩ = some (.int .u32 (o + (n + 1))) ∧ W.cell? ⟨w.heap.size + 1 + 1 + 1 + 1 + 1 + 1 + 1, 3, none⟩ = some (.int .u32 (ln * 16384 + (c + (n + 1)))) ∧ Below w.heap.size w W)
    ⟨by simp [go_sem], by simp [go_sem], by simp [go_sem], by simp [go_sem], by simp [go_sem], by simp [go_sem]; omega, by simp [go_sem]; omega, by go_grown⟩ ?_
  rintro W ⟨s0, s1, s2, s3, s4, s5, s6, BW⟩
  refine (pePosA w.heap.size o (ln * 16384 + c) W hv s0 s1).mono ?_
  rintro e w1 ⟨rfl, hb⟩
  have t2 := cell_later hb s2
  have t3 := cell_later hb s3
  have t4 := cell_later hb s4
  have t5 := cell_later hb s5
  have t6 := cell_later hb s6
  have B1 : Below w.heap.size w w1 := Below.trans BW (Below.mono hb BW.size)
  clear hb BW s0 s1 s2 s3 s4 s5 s6
  go_wp2_with fail
  refine (peEndN w.heap.size (w.heap.size + 1 + 1 + 1 + 1 + 1 + 1 + 1) (o + (n + 1)) (ln * 16384 + (c + (n + 1))) _ (cell_later (w := w1) (by go_grown) t2) (cell_later (w := w1) (by go_grown) t3) (cell_later (w := w1) (by go_grown) t4) (cell_later (w := w1) (by go_grown) t5) (cell_later (w := w1) (by go_grown) t6)).mono ?_
  rintro e w2 ⟨rfl, hb⟩
  have p0 : w2.cell? ⟨w1.heap.size, 0, none⟩ = some (.int .u32 o) := cell_later hb (by simp [go_sem])
  have p1 : w2.cell? ⟨w1.heap.size, 1, none⟩ = some (.int .u32 (ln * 16384 + c)) := cell_later hb (by simp [go_sem])
  have B2 : Below w.heap.size w w2 := Below.trans B1 (Below.mono (Below.trans (by go_grown) (hb.mono (by simp))) B1.size)
  have hz : w1.heap.size < w2.heap.size := lt_of_cell p0
  obtain ⟨k1, k2, k3, k4, k5, k6, k7, k8, k9, k10, k11, k12, k13, k14, k15, k16, k17, k18, k19, k20⟩ := lts hz
  clear hb B1 t2 t3 t4 t5 t6
  have o1 : oI o = o := by unfold oI; rw [if_neg (by omega)]
  have o3 : oI (o + (n + 1)) = o + (n + 1) := by unfold oI; rw [if_neg (by omega)]
  have d1 : (ln * 16384 + c) / 16384 = ln := by omega
  have d2 : (ln * 16384 + c) % 16384 = c := by omega
  have d3 : (ln * 16384 + (c + (n + 1))) / 16384 = ln := by omega
  have d4 : (ln * 16384 + (c + (n + 1))) % 16384 = c + (n + 1) := by omega
  have y1 : IntKind.u32.wrap (o + (n + 1)) = o + (n + 1) := IntWalk.u32_in _ (by omega)
  have y2 : IntKind.u32.wrap (c + (n + 1)) = c + (n + 1) := IntWalk.u32_in _ (by omega)
  go_wp2_with (first | (go_at_call 14; refine (offset _ _ _ (by omega) (by omega)).mono ?_; rintro e w' ⟨rfl, rfl⟩) | (go_at_call 15; refine (line _ _ _ (by omega) (by omega)).mono ?_; rintro e w' ⟨rfl, rfl⟩) | (go_at_call 16; refine (col _ _ _ (by omega) (by omega)).mono ?_; rintro e w' ⟨rfl, rfl⟩))
  go_ret
  exact ⟨rfl, Below.trans B2 (Below.mono (by go_grown) B2.size)⟩
set_option maxRecDepth 100000 in
set_option maxHeartbeats 4000000 in
theorem form1 (o ln c n m : Int) (w : World) (n1 : 1 ≤ n) (n2 : n ≤ 4096) (m1 : 1 ≤ m) (m2 : m ≤ 4096) (c1 : 1 ≤ c) (c2 : c ≤ 4096) (l1 : 1 ≤ ln) (l2 : ln ≤ 262143) (ho : 0 ≤ o) (o2 : o ≤ 1073741824) :
    Calls Try.prog 4 #[.int .u8 1, .int .u32 o, .int .u32 ln, .int .u32 c, .int .u32 n, .int .u32 m] w fun e w' => e = .returned (.bool true) ∧ Below w.heap.size w w' := by
  have hv : vB o (ln * 16384 + c) = true := by simp [vB]; omega
  have hv2 : vB (o + 2 + n) (ln * 16384 + (c + 2 + n)) = true := by simp [vB]; omega
  have HP := Lib.hid (show pO (o + 2 + n) (ln * 16384 + (c + 2 + n)) 1 = o + (n + 3) by unfold pO; rw [if_pos hv2, if_neg (by omega)]; omega)
  have HL := Lib.hid (show pL (o + 2 + n) (ln * 16384 + (c + 2 + n)) 1 = ln * 16384 + (c + (n + 3)) by unfold pL pC; rw [if_pos hv2, if_pos (by omega)]; omega)
  have x0 : IntKind.u32.wrap (o + 2) = o + 2 := IntWalk.u32_in _ (by omega)
  have x1 : IntKind.u32.wrap (c + 2) = c + 2 := IntWalk.u32_in _ (by omega)
  have x2 : IntKind.u32.wrap (o + 2 + n) = o + 2 + n := IntWalk.u32_in _ (by omega)
  have x3 : IntKind.u32.wrap (c + 2 + n) = c + 2 + n := IntWalk.u32_in _ (by omega)
  have x4 : IntKind.u32.wrap (n + 3) = n + 3 := IntWalk.u32_in _ (by omega)
  go_enter Try.func4, Try.ntmps4
  go_wp2_with (first | (go_at_call 9; refine (zPos _ _ _ _ (by omega) (by omega) (by omega) (by omega) (by omega)).mono ?_; rintro e w' ⟨rfl, rfl⟩) | (go_at_call 10; refine (zLit _ _ _ _ _ (by omega) (by omega) (by omega) (by omega) (by omega) (by omega) (by omega)).mono ?_; rintro e w' ⟨rfl, rfl⟩) | (go_at_call 11; refine (zIdx _ _ _ _ _ (by omega) (by omega) (by omega) (by omega) (by omega) (by omega) (by omega)).mono ?_; rintro e w' ⟨rfl, rfl⟩))
  refine calls_world (fun W => W.cell? ⟨w.heap.size, 0, none⟩ = some (.int .u32 o) ∧ W.cell? ⟨w.heap.size, 1, none⟩ = some (.int .u32 (ln * 16384 + c)) ∧ W.cell? ⟨w.heap.size, 4, none⟩ = some (.bool false) ∧ W.cell? ⟨w.heap.size, 2, none⟩ = some (.int .u32 (o + 2 + n)) ∧ W.cell? ⟨w.heap.size, 3, none⟩ = some (.int .u32 (ln * 16384 + (c + 2 + n))) ∧ Below w.heap.size w W)
    ⟨by simp [go_sem], by simp [go_sem], by simp [go_sem], by simp [go_sem], by simp [go_sem], by go_grown⟩ ?_
  rintro W ⟨s0, s1, s2, s3, s4, BW⟩
  refine (pePosA w.heap.size o (ln * 16384 + c) W hv s0 s1).mono ?_
  rintro e w1 ⟨rfl, hb⟩
  have t2 := cell_later hb s2
  have t3 := cell_later hb s3
  have t4 := cell_later hb s4
  have B1 : Below w.heap.size w w1 := Below.trans BW (Below.mono hb BW.size)
  clear hb BW s0 s1 s2 s3 s4
  go_wp2_with fail
  refine (peEndB w.heap.size (o + 2 + n) (ln * 16384 + (c + 2 + n)) _ (by omega) (by omega) (by omega) hv2 (cell_later (w := w1) (by go_grown) t2) (cell_later (w := w1) (by go_grown) t3) (cell_later (w := w1) (by go_grown) t4)).mono ?_
  rintro e w2 ⟨rfl, hb⟩
  have p0 : w2.cell? ⟨w1.heap.size, 0, none⟩ = some (.int .u32 o) := cell_later hb (by simp [go_sem])
  have p1 : w2.cell? ⟨w1.heap.size, 1, none⟩ = some (.int .u32 (ln * 16384 + c)) := cell_later hb (by simp [go_sem])
  have B2 : Below w.heap.size w w2 := Below.trans B1 (Below.mono (Below.trans (by go_grown) (hb.mono (by simp))) B1.size)
  have hz : w1.heap.size < w2.heap.size := lt_of_cell p0
  obtain ⟨k1, k2, k3, k4, k5, k6, k7, k8, k9, k10, k11, k12, k13, k14, k15, k16, k17, k18, k19, k20⟩ := lts hz
  clear hb B1 t2 t3 t4
  rw [HP.out, HL.out]
  clear HP HL hv2
  have o1 : oI o = o := by unfold oI; rw [if_neg (by omega)]
  have o3 : oI (o + (n + 3)) = o + (n + 3) := by unfold oI; rw [if_neg (by omega)]
  have d1 : (ln * 16384 + c) / 16384 = ln := by omega
  have d2 : (ln * 16384 + c) % 16384 = c := by omega
  have d3 : (ln * 16384 + (c + (n + 3))) / 16384 = ln := by omega
  have d4 : (ln * 16384 + (c + (n + 3))) % 16384 = c + (n + 3) := by omega
  have y1 : IntKind.u32.wrap (o + (n + 3)) = o + (n + 3) := IntWalk.u32_in _ (by omega)
  have y2 : IntKind.u32.wrap (c + (n + 3)) = c + (n + 3) := IntWalk.u32_in _ (by omega)
  go_wp2_with (first | (go_at_call 14; refine (offset _ _ _ (by omega) (by omega)).mono ?_; rintro e w' ⟨rfl, rfl⟩) | (go_at_call 15; refine (line _ _ _ (by omega) (by omega)).mono ?_; rintro e w' ⟨rfl, rfl⟩) | (go_at_call 16; refine (col _ _ _ (by omega) (by omega)).mono ?_; rintro e w' ⟨rfl, rfl⟩))
  go_ret
  exact ⟨rfl, Below.trans B2 (Below.mono (by go_grown) B2.size)⟩
set_option maxRecDepth 100000 in
set_option maxHeartbeats 4000000 in
theorem form2 (o ln c n m : Int) (w : World) (n1 : 1 ≤ n) (n2 : n ≤ 4096) (m1 : 1 ≤ m) (m2 : m ≤ 4096) (c1 : 1 ≤ c) (c2 : c ≤ 4096) (l1 : 1 ≤ ln) (l2 : ln ≤ 262143) (ho : 0 ≤ o) (o2 : o ≤ 1073741824) :
    Calls Try.prog 4 #[.int .u8 2, .int .u32 o, .int .u32 ln, .int .u32 c, .int .u32 n, .int .u32 m] w fun e w' => e = .returned (.bool true) ∧ Below w.heap.size w w' := by
  have hv : vB o (ln * 16384 + c) = true := by simp [vB]; omega
  have hv2 : vB (o + n + 1 + m) (ln * 16384 + (c + n + 1 + m)) = true := by simp [vB]; omega
  have HP := Lib.hid (show pO (o + n + 1 + m) (ln * 16384 + (c + n + 1 + m)) 1 = o + (n + m + 2) by unfold pO; rw [if_pos hv2, if_neg (by omega)]; omega)
  have HL := Lib.hid (show pL (o + n + 1 + m) (ln * 16384 + (c + n + 1 + m)) 1 = ln * 16384 + (c + (n + m + 2)) by unfold pL pC; rw [if_pos hv2, if_pos (by omega)]; omega)
  have x0 : IntKind.u32.wrap (o + n) = o + n := IntWalk.u32_in _ (by omega)
  have x1 : IntKind.u32.wrap (o + n + 1) = o + n + 1 := IntWalk.u32_in _ (by omega)
  have x2 : IntKind.u32.wrap (c + n) = c + n := IntWalk.u32_in _ (by omega)
  have x3 : IntKind.u32.wrap (c + n + 1) = c + n + 1 := IntWalk.u32_in _ (by omega)
  have x4 : IntKind.u32.wrap (n + m) = n + m := IntWalk.u32_in _ (by omega)
  have x5 : IntKind.u32.wrap (n + m + 2) = n + m + 2 := IntWalk.u32_in _ (by omega)
  go_enter Try.func4, Try.ntmps4
  go_wp2_with (first | (go_at_call 9; refine (zPos _ _ _ _ (by omega) (by omega) (by omega) (by omega) (by omega)).mono ?_; rintro e w' ⟨rfl, rfl⟩) | (go_at_call 10; refine (zLit _ _ _ _ _ (by omega) (by omega) (by omega) (by omega) (by omega) (by omega) (by omega)).mono ?_; rintro e w' ⟨rfl, rfl⟩) | (go_at_call 11; refine (zIdx _ _ _ _ _ (by omega) (by omega) (by omega) (by omega) (by omega) (by omega) (by omega)).mono ?_; rintro e w' ⟨rfl, rfl⟩))
  refine calls_world (fun W => W.cell? ⟨w.heap.size, 0, none⟩ = some (.int .u32 0) ∧ W.cell? ⟨w.heap.size, 1, none⟩ = some (.int .u32 0) ∧ W.cell? ⟨w.heap.size, 13, none⟩ = some (.pointer (some ⟨w.heap.size + 1 + 1 + 1 + 1 + 1, 0, none⟩)) ∧ W.cell? ⟨w.heap.size + 1 + 1 + 1 + 1 + 1, 0, none⟩ = some (.int .u32 o) ∧ W.cell? ⟨w.heap.size + 1 + 1 + 1 + 1 + 1, 1, none⟩ = some (.int .u32 (ln * 16384 + c)) ∧ W.cell? ⟨w.heap.size, 4, none⟩ = some (.bool true) ∧ W.cell? ⟨w.heap.size, 15, none⟩ = some (.iface 45 (.pointer (some ⟨w.heap.size + 1 + 1 + 1 + 1 + 1 + 1 + 1 + 1 + 1 + 1 + 1 + 1, 0, none⟩))) ∧ W.cell? ⟨w.heap.size + 1 + 1 + 1 + 1 + 1 + 1 + 1 + 1 + 1 + 1 + 1 + 1, 0, none⟩ = some (.slice (some ⟨w.heap.size + 1 + 1 + 1 + 1 + 1 + 1 + 1 + 1 + 1 + 1 + 1, 0, none⟩) 1 1) ∧ W.cell? ⟨w.heap.size + 1 + 1 + 1 + 1 + 1 + 1 + 1 + 1 + 1 + 1 + 1, 0, none⟩ = some (.iface 30 (.pointer (some ⟨w.heap.size + 1 + 1 + 1 + 1 + 1 + 1 + 1 + 1 + 1 + 1, 0, none⟩))) ∧ W.cell? ⟨w.heap.size + 1 + 1 + 1 + 1 + 1 + 1 + 1 + 1 + 1 + 1, 2, none⟩ = some (.int .u32 (o + n + 1 + m)) ∧ W.cell? ⟨w.heap.size + 1 + 1 + 1 + 1 + 1 + 1 + 1 + 1 + 1 + 1, 3, none⟩ = some (.int .u32 (ln * 16384 + (c + n + 1 + m))) ∧ Below w.heap.size w W)
    ⟨by simp [go_sem], by simp [go_sem], by simp [go_sem], by simp [go_sem], by simp [go_sem], by simp [go_sem], by simp [go_sem], by simp [go_sem], by simp [go_sem], by simp [go_sem], by simp [go_sem], by go_grown⟩ ?_
  rintro W ⟨s0, s1, s2, s3, s4, s5, s6, s7, s8, s9, s10, BW⟩
  refine (pePosB w.heap.size (w.heap.size + 1 + 1 + 1 + 1 + 1) o (ln * 16384 + c) W s0 s1 s2 s3 s4).mono ?_
  rintro e w1 ⟨rfl, hb⟩
  have t5 := cell_later hb s5
  have t6 := cell_later hb s6
  have t7 := cell_later hb s7
  have t8 := cell_later hb s8
  have t9 := cell_later hb s9
  have t10 := cell_later hb s10
  have B1 : Below w.heap.size w w1 := Below.trans BW (Below.mono hb BW.size)
  clear hb BW s0 s1 s2 s3 s4 s5 s6 s7 s8 s9 s10
  go_wp2_with fail
  refine (peEndI w.heap.size (w.heap.size + 1 + 1 + 1 + 1 + 1 + 1 + 1 + 1 + 1 + 1 + 1 + 1) (w.heap.size + 1 + 1 + 1 + 1 + 1 + 1 + 1 + 1 + 1 + 1 + 1) (w.heap.size + 1 + 1 + 1 + 1 + 1 + 1 + 1 + 1 + 1 + 1) (o + n + 1 + m) (ln * 16384 + (c + n + 1 + m)) _ (by omega) (by omega) (by omega) hv2 (cell_later (w := w1) (by go_grown) t5) (cell_later (w := w1) (by go_grown) t6) (cell_later (w := w1) (by go_grown) t7) (cell_later (w := w1) (by go_grown) t8) (cell_later (w := w1) (by go_grown) t9) (cell_later (w := w1) (by go_grown) t10)).mono ?_
  rintro e w2 ⟨rfl, hb⟩
  have p0 : w2.cell? ⟨w1.heap.size, 0, none⟩ = some (.int .u32 o) := cell_later hb (by simp [go_sem])
  have p1 : w2.cell? ⟨w1.heap.size, 1, none⟩ = some (.int .u32 (ln * 16384 + c)) := cell_later hb (by simp [go_sem])
  have B2 : Below w.heap.size w w2 := Below.trans B1 (Below.mono (Below.trans (by go_grown) (hb.mono (by simp))) B1.size)
  have hz : w1.heap.size < w2.heap.size := lt_of_cell p0
  obtain ⟨k1, k2, k3, k4, k5, k6, k7, k8, k9, k10, k11, k12, k13, k14, k15, k16, k17, k18, k19, k20⟩ := lts hz
  clear hb B1 t5 t6 t7 t8 t9 t10
  rw [HP.out, HL.out]
  clear HP HL hv2
  have o1 : oI o = o := by unfold oI; rw [if_neg (by omega)]
  have o3 : oI (o + (n + m + 2)) = o + (n + m + 2) := by unfold oI; rw [if_neg (by omega)]
  have d1 : (ln * 16384 + c) / 16384 = ln := by omega
  have d2 : (ln * 16384 + c) % 16384 = c := by omega
  have d3 : (ln * 16384 + (c + (n + m + 2))) / 16384 = ln := by omega
  have d4 : (ln * 16384 + (c + (n + m + 2))) % 16384 = c + (n + m + 2) := by omega
  have y1 : IntKind.u32.wrap (o + (n + m + 2)) = o + (n + m + 2) := IntWalk.u32_in _ (by omega)
  have y2 : IntKind.u32.wrap (c + (n + m + 2)) = c + (n + m + 2) := IntWalk.u32_in _ (by omega)
  go_wp2_with (first | (go_at_call 14; refine (offset _ _ _ (by omega) (by omega)).mono ?_; rintro e w' ⟨rfl, rfl⟩) | (go_at_call 15; refine (line _ _ _ (by omega) (by omega)).mono ?_; rintro e w' ⟨rfl, rfl⟩) | (go_at_call 16; refine (col _ _ _ (by omega) (by omega)).mono ?_; rintro e w' ⟨rfl, rfl⟩))
  go_ret
  exact ⟨rfl, Below.trans B2 (Below.mono (by go_grown) B2.size)⟩
set_option maxRecDepth 100000 in
theorem law4 (f o ln c n m : Int) (w : World) (hf : 0 ≤ f ∧ f ≤ 255) (ho : 0 ≤ o ∧ o ≤ 4294967295) :
    Calls Try.prog 4 #[.int .u8 f, .int .u32 o, .int .u32 ln, .int .u32 c, .int .u32 n, .int .u32 m] w fun e w' => e = .returned (.bool true) ∧ Below w.heap.size w w' := by
  by_cases g0 : 2 < f
  · go_enter Try.func4, Try.ntmps4
    go_wp2
    go_ret
    exact ⟨rfl, Below.refl _ _⟩
  by_cases g1 : n < 1
  · go_enter Try.func4, Try.ntmps4
    go_wp2
    go_ret
    exact ⟨rfl, Below.refl _ _⟩
  by_cases g2 : 4096 < n
  · go_enter Try.func4, Try.ntmps4
    go_wp2
    go_ret
    exact ⟨rfl, Below.refl _ _⟩
  by_cases g3 : m < 1
  · go_enter Try.func4, Try.ntmps4
    go_wp2
    go_ret
    exact ⟨rfl, Below.refl _ _⟩
  by_cases g4 : 4096 < m
  · go_enter Try.func4, Try.ntmps4
    go_wp2
    go_ret
    exact ⟨rfl, Below.refl _ _⟩
  by_cases g5 : c < 1
  · go_enter Try.func4, Try.ntmps4
    go_wp2
    go_ret
    exact ⟨rfl, Below.refl _ _⟩
  by_cases g6 : 4096 < c
  · go_enter Try.func4, Try.ntmps4
    go_wp2
    go_ret
    exact ⟨rfl, Below.refl _ _⟩
  by_cases g7 : ln < 1
  · go_enter Try.func4, Try.ntmps4
    go_wp2
    go_ret
    exact ⟨rfl, Below.refl _ _⟩
  by_cases g8 : 262143 < ln
  · go_enter Try.func4, Try.ntmps4
    go_wp2
    go_ret
    exact ⟨rfl, Below.refl _ _⟩
  by_cases g9 : 1073741824 < o
  · go_enter Try.func4, Try.ntmps4
    go_wp2
    go_ret
    exact ⟨rfl, Below.refl _ _⟩
  have h3 : f = 0 ∨ f = 1 ∨ f = 2 := by omega
  rcases h3 with rfl | rfl | rfl
  · exact form0 o ln c n m w (by omega) (by omega) (by omega) (by omega) (by omega) (by omega) (by omega) (by omega) (by omega) (by omega)
  · exact form1 o ln c n m w (by omega) (by omega) (by omega) (by omega) (by omega) (by omega) (by omega) (by omega) (by omega) (by omega)
  · exact form2 o ln c n m w (by omega) (by omega) (by omega) (by omega) (by omega) (by omega) (by omega) (by omega) (by omega) (by omega)
end Go.Proofs.Ytccnpgmceoojmad.pexp
