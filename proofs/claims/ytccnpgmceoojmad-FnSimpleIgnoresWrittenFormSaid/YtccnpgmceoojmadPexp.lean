/-
  ParamExp: Pos is the dollar or the name, End lies behind the name, the closing brace or the closing bracket: for positions within their bounds.
-/
import Derived.Test.YtccnpgmceoojmadPos
namespace Go.Proofs.Ytccnpgmceoojmad.pexp
open Go.RowKit

theorem or_line (ln c : Int) (h0 : 0 ≤ ln) (h1 : ln ≤ 262143) (c0 : 0 ≤ c) (c1 : c < 16384) : bits .or .u32 (ln * 16384) c = ln * 16384 + c := by
  have h := or_col (ln * 16384) c (by omega) (by omega) c0 c1
  have e : ln * 16384 - ln * 16384 % 16384 = ln * 16384 := by omega
  rw [e] at h
  exact h
theorem mkPos (o l : Int) (w : World) : Calls Try.prog 24 #[.int .u32 o, .int .u32 l] w fun e w' => e = .returned (.agg #[.int .u32 o, .int .u32 l]) ∧ w.alloc (.cells #[.int .u32 o, .int .u32 l] 29) = w' := by
  go_enter Try.func24, Try.ntmps24
  go_wp2
  go_returns
  exact ⟨rfl, rfl⟩
theorem zPos (o ln c : Int) (w : World) (hl0 : 0 ≤ ln) (hl1 : ln ≤ 262143) (ho : 0 ≤ o) (hc0 : 0 ≤ c) (hc1 : c < 16384) : Calls Try.prog 9 #[.int .u32 o, .int .u32 ln, .int .u32 c] w fun e w' => e = .returned (.agg #[.int .u32 o, .int .u32 (ln * 16384 + c)]) ∧ ((w.alloc (.cells #[.int .u32 o, .int .u32 (ln * 16384 + c)] 29)).alloc (.cells #[.int .u32 o, .int .u32 (ln * 16384 + c)] 29)) = w' := by
  have x3 : IntKind.u32.wrap (ln * 16384) = ln * 16384 := IntWalk.u32_in _ (by omega)
  have m0 := or_line ln c hl0 hl1 hc0 hc1
  go_enter Try.func9, Try.ntmps9
  go_wp2_with (go_at_call 24; refine (mkPos _ _ _).mono ?_; rintro e w' ⟨rfl, rfl⟩)
  go_returns
  exact ⟨rfl, rfl⟩
theorem zLit (o ln c n : Int) (w : World) (hl0 : 0 ≤ ln) (hl1 : ln ≤ 262143) (ho : 0 ≤ o) (hc0 : 0 ≤ c) (hn : 0 ≤ n) (hc1 : c + n < 16384) (ho1 : o + n ≤ 4294967284) : Calls Try.prog 10 #[.int .u32 o, .int .u32 ln, .int .u32 c, .int .u32 n] w fun e w' => e = .returned (.pointer (some ⟨w.heap.size + 1 + 1 + 1 + 1, 0, none⟩)) ∧ (((((w.alloc (.cells #[.int .u32 o, .int .u32 (ln * 16384 + c)] 29)).alloc (.cells #[.int .u32 o, .int .u32 (ln * 16384 + c)] 29)).alloc (.cells #[.int .u32 (o + n), .int .u32 (ln * 16384 + (c + n))] 29)).alloc (.cells #[.int .u32 (o + n), .int .u32 (ln * 16384 + (c + n))] 29)).alloc (.cells #[.int .u32 o, .int .u32 (ln * 16384 + c), .int .u32 (o + n), .int .u32 (ln * 16384 + (c + n)), .string ⟨#[]⟩] 72)) = w' := by
  have x1 : IntKind.u32.wrap (o + n) = o + n := IntWalk.u32_in _ (by omega)
  have x2 : IntKind.u32.wrap (c + n) = c + n := IntWalk.u32_in _ (by omega)
  go_enter Try.func10, Try.ntmps10
  go_wp2_with (go_at_call 9; refine (zPos _ _ _ _ hl0 hl1 (by omega) (by omega) (by omega)).mono ?_; rintro e w' ⟨rfl, rfl⟩)
  go_ret
  exact ⟨rfl, rfl⟩
theorem zIdx (o ln c n : Int) (w : World) (hl0 : 0 ≤ ln) (hl1 : ln ≤ 262143) (ho : 0 ≤ o) (hc0 : 0 ≤ c) (hn : 0 ≤ n) (hc1 : c + n < 16384) (ho1 : o + n ≤ 4294967284) : Calls Try.prog 11 #[.int .u32 o, .int .u32 ln, .int .u32 c, .int .u32 n] w fun e w' => e = .returned (.pointer (some ⟨w.heap.size + 1 + 1 + 1 + 1 + 1 + 1, 0, none⟩)) ∧ ((((((w.alloc (.cells #[.int .u32 o, .int .u32 (ln * 16384 + c)] 29)).alloc (.cells #[.int .u32 o, .int .u32 (ln * 16384 + c)] 29)).alloc (.cells #[.int .u32 (o + n), .int .u32 (ln * 16384 + (c + n))] 29)).alloc (.cells #[.int .u32 (o + n), .int .u32 (ln * 16384 + (c + n))] 29)).alloc (.cells #[.int .u32 o, .int .u32 (ln * 16384 + c), .int .u32 (o + n), .int .u32 (ln * 16384 + (c + n)), .string ⟨#[]⟩] 72)).alloc (.cells #[.iface 30 (.pointer (some ⟨w.heap.size + 1 + 1 + 1 + 1, 0, none⟩))] 33)).alloc (.cells #[.slice (some ⟨w.heap.size + 1 + 1 + 1 + 1 + 1, 0, none⟩) 1 1] 75) = w' := by
  go_enter Try.func11, Try.ntmps11
  go_wp2_with (go_at_call 10; refine (zLit _ _ _ _ _ hl0 hl1 ho hc0 hn hc1 ho1).mono ?_; rintro e w' ⟨rfl, rfl⟩)
  go_ret
  exact ⟨rfl, rfl⟩
theorem litPos (b : Nat) (o l : Int) (w : World) (c0 : w.cell? ⟨b, 0, none⟩ = some (.int .u32 o)) (c1 : w.cell? ⟨b, 1, none⟩ = some (.int .u32 l)) :
    Calls Try.prog 26 #[.pointer (some ⟨b, 0, none⟩)] w fun e w' => e = .returned (.agg #[.int .u32 o, .int .u32 l]) ∧ w.alloc (.cells #[.int .u32 o, .int .u32 l] 29) = w' := by
  have hlt := lt_of_cell c0
  go_enter Try.func26, Try.ntmps26
  go_wp2
  go_returns
  exact ⟨rfl, rfl⟩
theorem litEnd (b : Nat) (o l : Int) (w : World) (c0 : w.cell? ⟨b, 2, none⟩ = some (.int .u32 o)) (c1 : w.cell? ⟨b, 3, none⟩ = some (.int .u32 l)) :
    Calls Try.prog 28 #[.pointer (some ⟨b, 0, none⟩)] w fun e w' => e = .returned (.agg #[.int .u32 o, .int .u32 l]) ∧ w.alloc (.cells #[.int .u32 o, .int .u32 l] 29) = w' := by
  have hlt := lt_of_cell c0
  go_enter Try.func28, Try.ntmps28
  go_wp2
  go_returns
  exact ⟨rfl, rfl⟩
set_option maxRecDepth 100000 in
theorem wordEnd1 (wb pb lb : Nat) (o l : Int) (w : World) (c0 : w.cell? ⟨wb, 0, none⟩ = some (.slice (some ⟨pb, 0, none⟩) 1 1)) (c1 : w.cell? ⟨pb, 0, none⟩ = some (.iface 30 (.pointer (some ⟨lb, 0, none⟩)))) (d0 : w.cell? ⟨lb, 2, none⟩ = some (.int .u32 o)) (d1 : w.cell? ⟨lb, 3, none⟩ = some (.int .u32 l)) :
    Calls Try.prog 56 #[.pointer (some ⟨wb, 0, none⟩)] w fun e w' => e = .returned (.agg #[.int .u32 o, .int .u32 l]) ∧ Below w.heap.size w w' := by
  have h0 := lt_of_cell c0
  have h1 := lt_of_cell c1
  go_enter Try.func56, Try.ntmps56
  go_wp2
  refine wp_world (fun W => W.cell? ⟨wb, 0, none⟩ = some (.slice (some ⟨pb, 0, none⟩) 1 1) ∧ W.cell? ⟨pb, 0, none⟩ = some (.iface 30 (.pointer (some ⟨lb, 0, none⟩))) ∧ W.cell? ⟨lb, 2, none⟩ = some (.int .u32 o) ∧ W.cell? ⟨lb, 3, none⟩ = some (.int .u32 l) ∧ W.cell? ⟨w.heap.size, 0, none⟩ = some (.int .u32 0) ∧ W.cell? ⟨w.heap.size, 1, none⟩ = some (.int .u32 0) ∧ W.frozen? ⟨w.heap.size, 0, none⟩ = false ∧ W.frozen? ⟨w.heap.size, 1, none⟩ = false ∧ Below w.heap.size w W)
    ⟨cell_later (by go_grown) c0, cell_later (by go_grown) c1, cell_later (by go_grown) d0, cell_later (by go_grown) d1, by simp [go_sem], by simp [go_sem], by simp [go_sem], by simp [go_sem], by go_grown⟩ ?_
  rintro W ⟨s0, s1, s2, s3, v0, v1, v2, v3, BW⟩
  have q0 : ({ heap := W.heap, tape := W.tape, drawn := W.drawn + 1, os := W.os, output := W.output } : World).cell? ⟨wb, 0, none⟩ = some (.slice (some ⟨pb, 0, none⟩) 1 1) := s0
  have q1 : ({ heap := W.heap, tape := W.tape, drawn := W.drawn + 1, os := W.os, output := W.output } : World).cell? ⟨pb, 0, none⟩ = some (.iface 30 (.pointer (some ⟨lb, 0, none⟩))) := s1
  have x0 : IntKind.i64.wrap 0 = 0 := by decide
  go_still_tail 12, (by kernel_rfl)
  change wpList _ _ _ _ _ W.drew
  go_wp2_with fail
  refine (litEnd lb o l _ (cell_later (w := W) (by go_grown) s2) (cell_later (w := W) (by go_grown) s3)).mono ?_
  rintro e w1 ⟨rfl, rfl⟩
  have hz : w.heap.size < W.heap.size := lt_of_cell v0
  have hz1 : w.heap.size < W.heap.size + 1 := by omega
  go_wp2
  refine bodyPost_ret (v := .agg #[.int .u32 o, .int .u32 l]) (by simp [results, Try.results56, go_sem, hz, v0, v1]) rfl ⟨rfl, ?_⟩
  go_grown
theorem pePosA (b : Nat) (o l : Int) (w : World) (hv : vB o l = true) (c0 : w.cell? ⟨b, 0, none⟩ = some (.int .u32 o)) (c1 : w.cell? ⟨b, 1, none⟩ = some (.int .u32 l)) :
    Calls Try.prog 12 #[.pointer (some ⟨b, 0, none⟩)] w fun e w' => e = .returned (.agg #[.int .u32 o, .int .u32 l]) ∧ Below w.heap.size w w' := by
  have hlt := lt_of_cell c0
  go_enter Try.func12, Try.ntmps12
  go_wp2_with (go_at_call 25; refine (isValid _ _ _).mono ?_; rintro e w' ⟨rfl, rfl⟩)
  go_returns
  exact ⟨rfl, by go_grown⟩
theorem pePosB (b lb : Nat) (o l : Int) (w : World) (c0 : w.cell? ⟨b, 0, none⟩ = some (.int .u32 0)) (c1 : w.cell? ⟨b, 1, none⟩ = some (.int .u32 0)) (c2 : w.cell? ⟨b, 13, none⟩ = some (.pointer (some ⟨lb, 0, none⟩))) (d0 : w.cell? ⟨lb, 0, none⟩ = some (.int .u32 o)) (d1 : w.cell? ⟨lb, 1, none⟩ = some (.int .u32 l)) :
    Calls Try.prog 12 #[.pointer (some ⟨b, 0, none⟩)] w fun e w' => e = .returned (.agg #[.int .u32 o, .int .u32 l]) ∧ Below w.heap.size w w' := by
  have hlt := lt_of_cell c0
  have hlt2 := lt_of_cell d0
  have hv : vB 0 0 = false := by decide
  go_enter Try.func12, Try.ntmps12
  go_wp2_with (first | (go_at_call 25; refine (isValid _ _ _).mono ?_; rintro e w' ⟨rfl, rfl⟩) | (go_at_call 26; refine (litPos lb o l _ (cell_later (by go_grown) d0) (cell_later (by go_grown) d1)).mono ?_; rintro e w' ⟨rfl, rfl⟩))
  go_returns
  exact ⟨rfl, by go_grown⟩
theorem peEndN (b lb : Nat) (o l : Int) (w : World) (c0 : w.cell? ⟨b, 4, none⟩ = some (.bool true)) (c1 : w.cell? ⟨b, 15, none⟩ = some .nilIface) (c2 : w.cell? ⟨b, 13, none⟩ = some (.pointer (some ⟨lb, 0, none⟩))) (d0 : w.cell? ⟨lb, 2, none⟩ = some (.int .u32 o)) (d1 : w.cell? ⟨lb, 3, none⟩ = some (.int .u32 l)) :
    Calls Try.prog 13 #[.pointer (some ⟨b, 0, none⟩)] w fun e w' => e = .returned (.agg #[.int .u32 o, .int .u32 l]) ∧ Below w.heap.size w w' := by
  have hlt := lt_of_cell c0
  have hlt2 := lt_of_cell d0
  go_enter Try.func13, Try.ntmps13
  go_wp2_with (go_at_call 28; refine (litEnd lb o l _ (cell_later (by go_grown) d0) (cell_later (by go_grown) d1)).mono ?_; rintro e w' ⟨rfl, rfl⟩)
  go_returns
  exact ⟨rfl, by go_grown⟩
theorem peEndB (b : Nat) (o l : Int) (w : World) (h0 : 0 ≤ o) (h2 : 0 ≤ l) (h3 : l ≤ 4294967295) (hv : vB o l = true) (cs : w.cell? ⟨b, 4, none⟩ = some (.bool false)) (c0 : w.cell? ⟨b, 2, none⟩ = some (.int .u32 o)) (c1 : w.cell? ⟨b, 3, none⟩ = some (.int .u32 l)) :
    Calls Try.prog 13 #[.pointer (some ⟨b, 0, none⟩)] w fun e w' => e = .returned (.agg #[.int .u32 (pO o l 1), .int .u32 (pL o l 1)]) ∧ Below w.heap.size w w' := by
  have hlt := lt_of_cell c0
  go_enter Try.func13, Try.ntmps13
  go_wp2_with (go_at_call 27; refine (posAddX _ _ _ _ h0 h2 h3 (by omega) (by omega) hv).mono ?_; rintro e w' ⟨rfl, rfl⟩)
  go_returns
  exact ⟨rfl, by go_grown⟩
set_option maxRecDepth 100000 in
theorem peEndI (b wb pb lb : Nat) (o l : Int) (w : World) (h0 : 0 ≤ o) (h2 : 0 ≤ l) (h3 : l ≤ 4294967295) (hv : vB o l = true) (cs : w.cell? ⟨b, 4, none⟩ = some (.bool true)) (ci : w.cell? ⟨b, 15, none⟩ = some (.iface 45 (.pointer (some ⟨wb, 0, none⟩)))) (c0 : w.cell? ⟨wb, 0, none⟩ = some (.slice (some ⟨pb, 0, none⟩) 1 1)) (c1 : w.cell? ⟨pb, 0, none⟩ = some (.iface 30 (.pointer (some ⟨lb, 0, none⟩)))) (d0 : w.cell? ⟨lb, 2, none⟩ = some (.int .u32 o)) (d1 : w.cell? ⟨lb, 3, none⟩ = some (.int .u32 l)) :
    Calls Try.prog 13 #[.pointer (some ⟨b, 0, none⟩)] w fun e w' => e = .returned (.agg #[.int .u32 (pO o l 1), .int .u32 (pL o l 1)]) ∧ Below w.heap.size w w' := by
  have hlt := lt_of_cell cs
  go_enter Try.func13, Try.ntmps13
  go_wp2_with fail
  refine (wordEnd1 wb pb lb o l _ (cell_later (by go_grown) c0) (cell_later (by go_grown) c1) (cell_later (by go_grown) d0) (cell_later (by go_grown) d1)).mono ?_
  rintro e w1 ⟨rfl, hb⟩
  have hz : w.heap.size < w1.heap.size := by have := hb.size; simp at this; omega
  have u0 : w1.cell? ⟨w.heap.size, 0, none⟩ = some (.int .u32 0) := cell_later hb (by simp [go_sem])
  have u1 : w1.cell? ⟨w.heap.size, 1, none⟩ = some (.int .u32 0) := cell_later hb (by simp [go_sem])
  have u2 : w1.frozen? ⟨w.heap.size, 0, none⟩ = false := (hb.frozen (p := ⟨w.heap.size, 0, none⟩) (by simp)).trans (by simp [go_sem])
  have u3 : w1.frozen? ⟨w.heap.size, 1, none⟩ = false := (hb.frozen (p := ⟨w.heap.size, 1, none⟩) (by simp)).trans (by simp [go_sem])
  have B1 : Below w.heap.size w w1 := Below.trans (by go_grown) (hb.mono (by simp))
  clear hb
  obtain ⟨k1, k2, k3, k4, k5, k6, k7, k8, k9, k10, k11, k12, k13, k14, k15, k16, k17, k18, k19, k20⟩ := lts hz
  go_wp2_with (go_at_call 27; refine (posAddX _ _ _ _ h0 h2 h3 (by omega) (by omega) hv).mono ?_; rintro e w' ⟨rfl, rfl⟩)
  refine bodyPost_ret (v := .agg #[.int .u32 (pO o l 1), .int .u32 (pL o l 1)]) (by simp [results, Try.results13, go_sem, hz, k1, k2, k3, k4, k5, u0, u1]) rfl ⟨rfl, ?_⟩
  exact Below.trans B1 (by go_grown)
end Go.Proofs.Ytccnpgmceoojmad.pexp
