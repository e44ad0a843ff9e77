/-
  A flags subscript without an expression ends at the flags' end moved one byte on, by the accessor table: for every value of the raw fields.
-/
import Derived.Test.YtccnpgmceoojmabPos
namespace Go.Proofs.Ytccnpgmceoojmab.flags
open Go.RowKit

theorem mkPos (o l : Int) (w : World) : Calls Try.prog 10 #[.int .u32 o, .int .u32 l] w fun e w' => e = .returned (.agg #[.int .u32 o, .int .u32 l]) ∧ w.alloc (.cells #[.int .u32 o, .int .u32 l] 25) = w' := by
  go_enter Try.func10, Try.ntmps10
  go_wp2
  go_returns
  exact ⟨rfl, rfl⟩
theorem litEnd (b : Nat) (o l : Int) (w : World) (c0 : w.cell? ⟨b, 2, none⟩ = some (.int .u32 o)) (c1 : w.cell? ⟨b, 3, none⟩ = some (.int .u32 l)) :
    Calls Try.prog 43 #[.pointer (some ⟨b, 0, none⟩)] w fun e w' => e = .returned (.agg #[.int .u32 o, .int .u32 l]) ∧ w.alloc (.cells #[.int .u32 o, .int .u32 l] 25) = w' := by
  have hlt := lt_of_cell c0
  go_enter Try.func43, Try.ntmps43
  go_wp2
  go_returns
  exact ⟨rfl, rfl⟩
def rB (o l : Int) : Bool := decide (o ≤ 4294967284) || (decide (o = 4294967285) && decide (l = 0))
theorem reach (o l : Int) (w : World) : Calls Try.prog 9 #[.int .u32 o, .int .u32 l] w fun e w' => e = .returned (.bool (rB o l)) ∧ w = w' := by
  go_enter Try.func9, Try.ntmps9
  go_wp2
  all_goals
    go_ret
    refine ⟨ret_bool ?_, rfl⟩
    rw [Bool.eq_iff_iff]
    simp [rB] at *
    try omega
theorem zPosY (o l : Int) (w : World) (hr : rB o l = true) : Calls Try.prog 12 #[.int .u32 o, .int .u32 l] w fun e w' => e = .returned (.agg #[.int .u32 o, .int .u32 l]) ∧ (w.alloc (.cells #[.int .u32 o, .int .u32 l] 25)).alloc (.cells #[.int .u32 o, .int .u32 l] 25) = w' := by
  go_enter Try.func12, Try.ntmps12
  go_wp2_with (first | (go_at_call 9; refine (reach _ _ _).mono ?_; rintro e w' ⟨rfl, rfl⟩) | (go_at_call 10; refine (mkPos _ _ _).mono ?_; rintro e w' ⟨rfl, rfl⟩))
  go_returns
  exact ⟨rfl, rfl⟩
theorem zPosN (o l : Int) (w : World) (hr : rB o l = false) : Calls Try.prog 12 #[.int .u32 o, .int .u32 l] w fun e w' => e = .returned (.agg #[.int .u32 0, .int .u32 0]) ∧ (w.alloc (.cells #[.int .u32 0, .int .u32 0] 25)).alloc (.cells #[.int .u32 0, .int .u32 0] 25) = w' := by
  go_enter Try.func12, Try.ntmps12
  go_wp2_with (first | (go_at_call 9; refine (reach _ _ _).mono ?_; rintro e w' ⟨rfl, rfl⟩) | (go_at_call 10; refine (mkPos _ _ _).mono ?_; rintro e w' ⟨rfl, rfl⟩))
  go_returns
  exact ⟨rfl, rfl⟩
theorem flNoX (a b c d : Int) (w : World) : Calls Try.prog 11 #[.agg #[.int .u32 a, .int .u32 b], .agg #[.int .u32 c, .int .u32 d]] w fun e w' => e = .returned (.pointer (some ⟨w.heap.size + 1 + 1 + 1, 0, none⟩)) ∧ (((w.alloc (.cells #[.int .u32 a, .int .u32 b] 25)).alloc (.cells #[.int .u32 c, .int .u32 d] 25)).alloc (.cells #[.int .u32 a, .int .u32 b, .int .u32 c, .int .u32 d, .string ⟨#[102]⟩] 74)).alloc (.cells #[.pointer (some ⟨w.heap.size + 1 + 1, 0, none⟩), .nilIface] 78) = w' := by
  go_enter Try.func11, Try.ntmps11
  go_wp2
  go_ret
  exact ⟨rfl, rfl⟩
theorem flEndY (b lb : Nat) (o l : Int) (w : World) (h0 : 0 ≤ o) (h2 : 0 ≤ l) (h3 : l ≤ 4294967295) (hv : vB o l = true) (c0 : w.cell? ⟨b, 0, none⟩ = some (.pointer (some ⟨lb, 0, none⟩))) (c1 : w.cell? ⟨b, 1, none⟩ = some .nilIface) (c2 : w.cell? ⟨lb, 2, none⟩ = some (.int .u32 o)) (c3 : w.cell? ⟨lb, 3, none⟩ = some (.int .u32 l)) :
    Calls Try.prog 13 #[.pointer (some ⟨b, 0, none⟩)] w fun e w' => e = .returned (.agg #[.int .u32 (pO o l 1), .int .u32 (pL o l 1)]) ∧ (((((w.alloc (.cells #[.int .u32 (pO o l 1), .int .u32 (pL o l 1)] 25)).alloc (.cells #[.int .u32 o, .int .u32 l] 25)).alloc (.cells #[.int .u32 (pO o l 1), .int .u32 (pL o l 1)] 25)).alloc (.cells #[.int .u32 (pO o l 1), .int .u32 (pL o l 1)] 25)).alloc (.cells #[.int .u32 o, .int .u32 l] 25)).alloc (.cells #[.int .u32 o, .int .u32 l] 25) = w' := by
  have hb := lt_of_cell c0
  have hl := lt_of_cell c2
  go_enter Try.func13, Try.ntmps13
  go_wp2_with (first | (go_at_call 43; refine (litEnd _ o l _ (cell_later (by go_grown) c2) (cell_later (by go_grown) c3)).mono ?_; rintro e w' ⟨rfl, rfl⟩) | (go_at_call 42; refine (posAddX _ _ _ _ h0 h2 h3 (by omega) (by omega) hv).mono ?_; rintro e w' ⟨rfl, rfl⟩))
  go_returns
  exact ⟨rfl, rfl⟩
theorem flEndN (b lb : Nat) (o l : Int) (w : World) (h0 : 0 ≤ o) (h2 : 0 ≤ l) (h3 : l ≤ 4294967295) (hv : vB o l = false) (c0 : w.cell? ⟨b, 0, none⟩ = some (.pointer (some ⟨lb, 0, none⟩))) (c1 : w.cell? ⟨b, 1, none⟩ = some .nilIface) (c2 : w.cell? ⟨lb, 2, none⟩ = some (.int .u32 o)) (c3 : w.cell? ⟨lb, 3, none⟩ = some (.int .u32 l)) :
    Calls Try.prog 13 #[.pointer (some ⟨b, 0, none⟩)] w fun e w' => e = .returned (.agg #[.int .u32 o, .int .u32 l]) ∧ ((((w.alloc (.cells #[.int .u32 o, .int .u32 l] 25)).alloc (.cells #[.int .u32 o, .int .u32 l] 25)).alloc (.cells #[.int .u32 o, .int .u32 l] 25)).alloc (.cells #[.int .u32 o, .int .u32 l] 25)).alloc (.cells #[.int .u32 o, .int .u32 l] 25) = w' := by
  have hb := lt_of_cell c0
  have hl := lt_of_cell c2
  go_enter Try.func13, Try.ntmps13
  go_wp2_with (first | (go_at_call 43; refine (litEnd _ o l _ (cell_later (by go_grown) c2) (cell_later (by go_grown) c3)).mono ?_; rintro e w' ⟨rfl, rfl⟩) | (go_at_call 42; refine (posAdd_no _ _ _ _ hv).mono ?_; rintro e w' ⟨rfl, rfl⟩))
  go_returns
  exact ⟨rfl, rfl⟩

theorem shN (c d : Int) (w : World) (hv : vB c d = false) : Calls Try.prog 14 #[.agg #[.int .u32 c, .int .u32 d], .agg #[.int .u32 c, .int .u32 d], .int .u64 1] w fun e w' => e = .returned (.bool true) ∧ Below w.heap.size w w' := by
  go_enter Try.func14, Try.ntmps14
  go_wp2_with (go_at_call 22; refine (isValid _ _ _).mono ?_; rintro e w' ⟨rfl, rfl⟩)
  go_ret
  exact ⟨rfl, by go_grown⟩

set_option maxHeartbeats 2000000 in
theorem shY (P L c d : Int) (w : World) (hv : vB c d = true) (hc : 0 ≤ c ∧ c ≤ 4294967295) (hd : 0 ≤ d ∧ d ≤ 4294967295) (hP : 0 ≤ P ∧ P ≤ 4294967284) (hL : 0 ≤ L ∧ L ≤ 4294967295)
    (e1 : L / 16384 = d / 16384) (e2 : P = if 4294967284 < c + 1 then 4294967284 else c + 1) (e3 : L % 16384 = if d % 16384 ≠ 0 ∧ d % 16384 + 1 ≤ 16383 then d % 16384 + 1 else 0) :
    Calls Try.prog 14 #[.agg #[.int .u32 P, .int .u32 L], .agg #[.int .u32 c, .int .u32 d], .int .u64 1] w fun e w' => e = .returned (.bool true) ∧ Below w.heap.size w w' := by
  have f1 : (L / 16384 != d / 16384) = false := by simp [e1]
  have o1 : oI P = P := by unfold oI; rw [if_neg (by omega)]
  have o2 : oI c = c := by unfold oI; rw [if_neg (by simp [vB] at hv; omega)]
  have x1 : IntKind.u64.wrap (c + 1) = c + 1 := IntWalk.u64_in _ (by omega)
  have x2 : IntKind.u64.wrap (d % 16384 + 1) = d % 16384 + 1 := IntWalk.u64_in _ (by omega)
  have E2 := Lib.hid e2
  have E3 := Lib.hid e3
  clear e1 e2 e3
  go_enter Try.func14, Try.ntmps14
  go_wp2_with (go_at_call 22; refine (isValid _ _ _).mono ?_; rintro e w' ⟨rfl, rfl⟩)
  refine wp_world (fun W => W.cell? ⟨w.heap.size, 0, none⟩ = some (.int .u32 P) ∧ W.cell? ⟨w.heap.size, 1, none⟩ = some (.int .u32 L) ∧ W.cell? ⟨w.heap.size + 1, 0, none⟩ = some (.int .u32 c) ∧ W.cell? ⟨w.heap.size + 1, 1, none⟩ = some (.int .u32 d) ∧ Below w.heap.size w W)
    ⟨by simp [go_sem], by simp [go_sem], by simp [go_sem], by simp [go_sem], by go_grown⟩ ?_
  rintro W ⟨s0, s1, s2, s3, BW⟩
  go_region_held3 (fun W => W.cell? ⟨w.heap.size, 0, none⟩ = some (.int .u32 P) ∧ W.cell? ⟨w.heap.size, 1, none⟩ = some (.int .u32 L) ∧ W.cell? ⟨w.heap.size + 1, 0, none⟩ = some (.int .u32 c) ∧ W.cell? ⟨w.heap.size + 1, 1, none⟩ = some (.int .u32 d)) (exact ⟨cell_later (w := W) (by go_grown) s0, cell_later (w := W) (by go_grown) s1, cell_later (w := W) (by go_grown) s2, cell_later (w := W) (by go_grown) s3⟩) (first | (go_at_call 20; refine (line _ _ _ (by omega) (by omega)).mono ?_; rintro e w' ⟨rfl, rfl⟩))
  have hz0 := lt_of_cell s0
  have hz1 := lt_of_cell s2
  obtain ⟨la1, la2, la3, la4, la5, la6, la7, la8, la9, la10, la11, la12, la13, la14, la15, la16, la17, la18, la19, la20⟩ := lts hz0
  obtain ⟨lb1, lb2, lb3, lb4, lb5, lb6, lb7, lb8, lb9, lb10, lb11, lb12, lb13, lb14, lb15, lb16, lb17, lb18, lb19, lb20⟩ := lts hz1
  clear la9 lb9 la10 lb10 la11 lb11 la12 lb12 la13 lb13 la14 lb14 la15 lb15 la16 lb16 la17 lb17 la18 lb18 la19 lb19 la20 lb20
  by_cases g1 : 4294967284 < c + 1
  · have f2 : (P != 4294967284) = false := by rw [E2.out]; simp; omega
    by_cases g2 : d % 16384 = 0
    · have f3 : (d % 16384 != 0) = false := by simp [g2]
      have f4 : (L % 16384 == 0) = true := by rw [E3.out]; simp [g2]
      clear g2
      go_wp2_with (first | (go_at_call 17; refine (offset _ _ _ (by omega) (by omega)).mono ?_; rintro e w' ⟨rfl, rfl⟩) | (go_at_call 18; refine (col _ _ _ (by omega) (by omega)).mono ?_; rintro e w' ⟨rfl, rfl⟩))
      go_ret
      exact ⟨rfl, Below.trans BW (Below.mono (by go_grown) BW.size)⟩
    have f3 : (d % 16384 != 0) = true := by simp [g2]
    by_cases g3 : d % 16384 + 1 ≤ 16383
    · have f4 : (L % 16384 == d % 16384 + 1) = true := by rw [E3.out]; simp; omega
      clear g2
      go_wp2_with (first | (go_at_call 17; refine (offset _ _ _ (by omega) (by omega)).mono ?_; rintro e w' ⟨rfl, rfl⟩) | (go_at_call 18; refine (col _ _ _ (by omega) (by omega)).mono ?_; rintro e w' ⟨rfl, rfl⟩))
      go_ret
      exact ⟨rfl, Below.trans BW (Below.mono (by go_grown) BW.size)⟩
    · have f4 : (L % 16384 == 0) = true := by rw [E3.out]; simp; omega
      clear g2
      go_wp2_with (first | (go_at_call 17; refine (offset _ _ _ (by omega) (by omega)).mono ?_; rintro e w' ⟨rfl, rfl⟩) | (go_at_call 18; refine (col _ _ _ (by omega) (by omega)).mono ?_; rintro e w' ⟨rfl, rfl⟩))
      go_ret
      exact ⟨rfl, Below.trans BW (Below.mono (by go_grown) BW.size)⟩
  · have f2 : (P != c + 1) = false := by rw [E2.out]; simp; omega
    by_cases g2 : d % 16384 = 0
    · have f3 : (d % 16384 != 0) = false := by simp [g2]
      have f4 : (L % 16384 == 0) = true := by rw [E3.out]; simp [g2]
      clear g2
      go_wp2_with (first | (go_at_call 17; refine (offset _ _ _ (by omega) (by omega)).mono ?_; rintro e w' ⟨rfl, rfl⟩) | (go_at_call 18; refine (col _ _ _ (by omega) (by omega)).mono ?_; rintro e w' ⟨rfl, rfl⟩))
      go_ret
      exact ⟨rfl, Below.trans BW (Below.mono (by go_grown) BW.size)⟩
    have f3 : (d % 16384 != 0) = true := by simp [g2]
    by_cases g3 : d % 16384 + 1 ≤ 16383
    · have f4 : (L % 16384 == d % 16384 + 1) = true := by rw [E3.out]; simp; omega
      clear g2
      go_wp2_with (first | (go_at_call 17; refine (offset _ _ _ (by omega) (by omega)).mono ?_; rintro e w' ⟨rfl, rfl⟩) | (go_at_call 18; refine (col _ _ _ (by omega) (by omega)).mono ?_; rintro e w' ⟨rfl, rfl⟩))
      go_ret
      exact ⟨rfl, Below.trans BW (Below.mono (by go_grown) BW.size)⟩
    · have f4 : (L % 16384 == 0) = true := by rw [E3.out]; simp; omega
      clear g2
      go_wp2_with (first | (go_at_call 17; refine (offset _ _ _ (by omega) (by omega)).mono ?_; rintro e w' ⟨rfl, rfl⟩) | (go_at_call 18; refine (col _ _ _ (by omega) (by omega)).mono ?_; rintro e w' ⟨rfl, rfl⟩))
      go_ret
      exact ⟨rfl, Below.trans BW (Below.mono (by go_grown) BW.size)⟩
end Go.Proofs.Ytccnpgmceoojmab.flags
