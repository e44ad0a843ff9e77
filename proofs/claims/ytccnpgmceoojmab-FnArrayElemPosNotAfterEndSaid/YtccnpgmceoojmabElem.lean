/-
  Array elements: what the makers of words and elements leave in memory, and where an element starts and ends.
-/
import Derived.Test.YtccnpgmceoojmabPos
import Derived.Test.YtccnpgmceoojmabBase2
import Derived.Deep.RegionHeld3
import Derived.StillTailTactics
namespace Go.Proofs.Ytccnpgmceoojmab.elem
open Go.RowKit

theorem mkPos27 (o l : Int) (w : World) : Calls Try.prog 31 #[.int .u32 o, .int .u32 l] w fun e w' => e = .returned (.agg #[.int .u32 o, .int .u32 l]) ∧ w.alloc (.cells #[.int .u32 o, .int .u32 l] 25) = w' := by
  go_enter Try.func31, Try.ntmps31
  go_wp2
  go_returns
  exact ⟨rfl, rfl⟩
theorem litPos (b : Nat) (o l : Int) (w : World) (c0 : w.cell? ⟨b, 0, none⟩ = some (.int .u32 o)) (c1 : w.cell? ⟨b, 1, none⟩ = some (.int .u32 l)) :
    Calls Try.prog 68 #[.pointer (some ⟨b, 0, none⟩)] w fun e w' => e = .returned (.agg #[.int .u32 o, .int .u32 l]) ∧ w.alloc (.cells #[.int .u32 o, .int .u32 l] 25) = w' := by
  have hlt := lt_of_cell c0
  go_enter Try.func68, Try.ntmps68
  go_wp2
  go_returns
  exact ⟨rfl, rfl⟩
theorem litEnd (b : Nat) (o l : Int) (w : World) (c0 : w.cell? ⟨b, 2, none⟩ = some (.int .u32 o)) (c1 : w.cell? ⟨b, 3, none⟩ = some (.int .u32 l)) :
    Calls Try.prog 43 #[.pointer (some ⟨b, 0, none⟩)] w fun e w' => e = .returned (.agg #[.int .u32 o, .int .u32 l]) ∧ w.alloc (.cells #[.int .u32 o, .int .u32 l] 25) = w' := by
  have hlt := lt_of_cell c0
  go_enter Try.func43, Try.ntmps43
  go_wp2
  go_returns
  exact ⟨rfl, rfl⟩
theorem zPos (x o l : Int) (w : World) (e1 : IntKind.u32.wrap x = o) (e2 : x / 4294967296 = l) (e3 : IntKind.u32.wrap l = l) (h0 : 0 ≤ x) (h1 : x ≤ 18446744073709551615) :
    Calls Try.prog 25 #[.int .u64 x] w fun e w' => e = .returned (.agg #[.int .u32 o, .int .u32 l]) ∧ (w.alloc (.cells #[.int .u32 o, .int .u32 l] 25)).alloc (.cells #[.int .u32 o, .int .u32 l] 25) = w' := by
  go_enter Try.func25, Try.ntmps25
  go_wp2_with (go_at_call 31; refine (mkPos27 _ _ _).mono ?_; rintro e w' ⟨rfl, rfl⟩)
  go_returns
  exact ⟨rfl, rfl⟩
theorem litW1 (a b c d : Int) (s : ByteArray) (w : World) : Calls Try.prog 24 #[.agg #[.int .u32 a, .int .u32 b], .agg #[.int .u32 c, .int .u32 d], .string s] w fun e w' => e = .returned (.pointer (some ⟨w.heap.size + 1 + 1 + 1 + 1, 0, none⟩)) ∧ ((((w.alloc (.cells #[.int .u32 a, .int .u32 b] 25)).alloc (.cells #[.int .u32 c, .int .u32 d] 25)).alloc (.cells #[.int .u32 a, .int .u32 b, .int .u32 c, .int .u32 d, .string s] 74)).alloc (.cells #[.iface 72 (.pointer (some ⟨w.heap.size + 1 + 1, 0, none⟩))] 94)).alloc (.cells #[.slice (some ⟨w.heap.size + 1 + 1 + 1, 0, none⟩) 1 1] 82) = w' := by
  go_enter Try.func24, Try.ntmps24
  go_wp2
  go_ret
  exact ⟨rfl, rfl⟩
theorem litW2 (a b c d a' b' c' d' : Int) (s s' : ByteArray) (w : World) : Calls Try.prog 26 #[.agg #[.int .u32 a, .int .u32 b], .agg #[.int .u32 c, .int .u32 d], .string s, .agg #[.int .u32 a', .int .u32 b'], .agg #[.int .u32 c', .int .u32 d'], .string s'] w fun e w' => e = .returned (.pointer (some ⟨w.heap.size + 1 + 1 + 1 + 1 + 1 + 1 + 1, 0, none⟩)) ∧ (((((((w.alloc (.cells #[.int .u32 a, .int .u32 b] 25)).alloc (.cells #[.int .u32 c, .int .u32 d] 25)).alloc (.cells #[.int .u32 a', .int .u32 b'] 25)).alloc (.cells #[.int .u32 c', .int .u32 d'] 25)).alloc (.cells #[.int .u32 a, .int .u32 b, .int .u32 c, .int .u32 d, .string s] 74)).alloc (.cells #[.int .u32 a', .int .u32 b', .int .u32 c', .int .u32 d', .string s'] 74)).alloc (.cells #[.iface 72 (.pointer (some ⟨w.heap.size + 1 + 1 + 1 + 1, 0, none⟩)), .iface 72 (.pointer (some ⟨w.heap.size + 1 + 1 + 1 + 1 + 1, 0, none⟩))] 94)).alloc (.cells #[.slice (some ⟨w.heap.size + 1 + 1 + 1 + 1 + 1 + 1, 0, none⟩) 2 2] 82) = w' := by
  go_enter Try.func26, Try.ntmps26
  go_wp2
  go_ret
  exact ⟨rfl, rfl⟩
theorem e44 (ib vb : Nat) (w : World) : Calls Try.prog 44 #[.pointer (some ⟨ib, 0, none⟩), .pointer (some ⟨vb, 0, none⟩)] w fun e w' => e = .returned (.pointer (some ⟨w.heap.size, 0, none⟩)) ∧ w.alloc (.cells #[.iface 35 (.pointer (some ⟨ib, 0, none⟩)), .pointer (some ⟨vb, 0, none⟩), .slice none 0 0] 86) = w' := by
  go_enter Try.func44, Try.ntmps44
  go_wp2
  go_ret
  exact ⟨rfl, rfl⟩
theorem zElem0 (m : Int) (ib vb : Nat) (w : World) (h0 : 0 ≤ m) (h1 : m ≤ 255) (h : m % 3 = 0) : Calls Try.prog 27 #[.int .u8 m, .pointer (some ⟨ib, 0, none⟩), .pointer (some ⟨vb, 0, none⟩)] w fun e w' => e = .returned (.pointer (some ⟨w.heap.size, 0, none⟩)) ∧ w.alloc (.cells #[.iface 35 (.pointer (some ⟨ib, 0, none⟩)), .pointer (some ⟨vb, 0, none⟩), .slice none 0 0] 86) = w' := by
  have h2 : m.tmod 3 = 0 := by rw [Int.tmod_eq_emod_of_nonneg h0]; exact h
  have h3 : IntKind.u8.wrap 0 = 0 := by decide
  go_enter Try.func27, Try.ntmps27
  go_wp2_with (go_at_call 44; refine (e44 ib vb _).mono ?_; rintro e w' ⟨rfl, rfl⟩)
  go_ret
  exact ⟨rfl, rfl⟩
theorem e45 (ib vb : Nat) (w : World) : Calls Try.prog 45 #[.pointer (some ⟨vb, 0, none⟩)] w fun e w' => e = .returned (.pointer (some ⟨w.heap.size, 0, none⟩)) ∧ w.alloc (.cells #[.nilIface, .pointer (some ⟨vb, 0, none⟩), .slice none 0 0] 86) = w' := by
  go_enter Try.func45, Try.ntmps45
  go_wp2
  go_ret
  exact ⟨rfl, rfl⟩
theorem zElem1 (m : Int) (ib vb : Nat) (w : World) (h0 : 0 ≤ m) (h1 : m ≤ 255) (h : m % 3 = 1) : Calls Try.prog 27 #[.int .u8 m, .pointer (some ⟨ib, 0, none⟩), .pointer (some ⟨vb, 0, none⟩)] w fun e w' => e = .returned (.pointer (some ⟨w.heap.size, 0, none⟩)) ∧ w.alloc (.cells #[.nilIface, .pointer (some ⟨vb, 0, none⟩), .slice none 0 0] 86) = w' := by
  have h2 : m.tmod 3 = 1 := by rw [Int.tmod_eq_emod_of_nonneg h0]; exact h
  have h3 : IntKind.u8.wrap 1 = 1 := by decide
  go_enter Try.func27, Try.ntmps27
  go_wp2_with (go_at_call 45; refine (e45 ib vb _).mono ?_; rintro e w' ⟨rfl, rfl⟩)
  go_ret
  exact ⟨rfl, rfl⟩
theorem e46 (ib vb : Nat) (w : World) : Calls Try.prog 46 #[.pointer (some ⟨ib, 0, none⟩)] w fun e w' => e = .returned (.pointer (some ⟨w.heap.size, 0, none⟩)) ∧ w.alloc (.cells #[.iface 35 (.pointer (some ⟨ib, 0, none⟩)), .pointer none, .slice none 0 0] 86) = w' := by
  go_enter Try.func46, Try.ntmps46
  go_wp2
  go_ret
  exact ⟨rfl, rfl⟩
theorem zElem2 (m : Int) (ib vb : Nat) (w : World) (h0 : 0 ≤ m) (h1 : m ≤ 255) (h : m % 3 = 2) : Calls Try.prog 27 #[.int .u8 m, .pointer (some ⟨ib, 0, none⟩), .pointer (some ⟨vb, 0, none⟩)] w fun e w' => e = .returned (.pointer (some ⟨w.heap.size, 0, none⟩)) ∧ w.alloc (.cells #[.iface 35 (.pointer (some ⟨ib, 0, none⟩)), .pointer none, .slice none 0 0] 86) = w' := by
  have h2 : m.tmod 3 = 2 := by rw [Int.tmod_eq_emod_of_nonneg h0]; exact h
  have h3 : IntKind.u8.wrap 2 = 2 := by decide
  go_enter Try.func27, Try.ntmps27
  go_wp2_with (go_at_call 46; refine (e46 ib vb _).mono ?_; rintro e w' ⟨rfl, rfl⟩)
  go_ret
  exact ⟨rfl, rfl⟩
theorem wPos1 (wb pb lb : Nat) (o l : Int) (w : World) (c0 : w.cell? ⟨wb, 0, none⟩ = some (.slice (some ⟨pb, 0, none⟩) 1 1)) (c1 : w.cell? ⟨pb, 0, none⟩ = some (.iface 72 (.pointer (some ⟨lb, 0, none⟩)))) (d0 : w.cell? ⟨lb, 0, none⟩ = some (.int .u32 o)) (d1 : w.cell? ⟨lb, 1, none⟩ = some (.int .u32 l)) :
    Calls Try.prog 47 #[.pointer (some ⟨wb, 0, none⟩)] w fun e w' => e = .returned (.agg #[.int .u32 o, .int .u32 l]) ∧ (w.alloc (.cells #[.int .u32 o, .int .u32 l] 25)).alloc (.cells #[.int .u32 o, .int .u32 l] 25) = w' := by
  have h0 := lt_of_cell c0
  have h1 := lt_of_cell c1
  go_enter Try.func47, Try.ntmps47
  go_wp2_with (go_at_call 68; refine (litPos lb o l _ (cell_later (by go_grown) d0) (cell_later (by go_grown) d1)).mono ?_; rintro e w' ⟨rfl, rfl⟩)
  go_returns
  exact ⟨rfl, rfl⟩
set_option maxRecDepth 100000 in
theorem wEnd1 (wb pb lb : Nat) (o l : Int) (w : World) (c0 : w.cell? ⟨wb, 0, none⟩ = some (.slice (some ⟨pb, 0, none⟩) 1 1)) (c1 : w.cell? ⟨pb, 0, none⟩ = some (.iface 72 (.pointer (some ⟨lb, 0, none⟩)))) (d0 : w.cell? ⟨lb, 2, none⟩ = some (.int .u32 o)) (d1 : w.cell? ⟨lb, 3, none⟩ = some (.int .u32 l)) :
    Calls Try.prog 48 #[.pointer (some ⟨wb, 0, none⟩)] w fun e w' => e = .returned (.agg #[.int .u32 o, .int .u32 l]) ∧ Below w.heap.size w w' := by
  have h0 := lt_of_cell c0
  have h1 := lt_of_cell c1
  go_enter Try.func48, Try.ntmps48
  go_wp2
  refine wp_world (fun W => W.cell? ⟨wb, 0, none⟩ = some (.slice (some ⟨pb, 0, none⟩) 1 1) ∧ W.cell? ⟨pb, 0, none⟩ = some (.iface 72 (.pointer (some ⟨lb, 0, none⟩))) ∧ W.cell? ⟨lb, 2, none⟩ = some (.int .u32 o) ∧ W.cell? ⟨lb, 3, none⟩ = some (.int .u32 l) ∧ W.cell? ⟨w.heap.size, 0, none⟩ = some (.int .u32 0) ∧ W.cell? ⟨w.heap.size, 1, none⟩ = some (.int .u32 0) ∧ W.frozen? ⟨w.heap.size, 0, none⟩ = false ∧ W.frozen? ⟨w.heap.size, 1, none⟩ = false ∧ Below w.heap.size w W)
    ⟨cell_later (by go_grown) c0, cell_later (by go_grown) c1, cell_later (by go_grown) d0, cell_later (by go_grown) d1, by simp [go_sem], by simp [go_sem], by simp [go_sem], by simp [go_sem], by go_grown⟩ ?_
  rintro W ⟨s0, s1, s2, s3, v0, v1, v2, v3, BW⟩
  have q0 : ({ heap := W.heap, tape := W.tape, drawn := W.drawn + 1, os := W.os, output := W.output } : World).cell? ⟨wb, 0, none⟩ = some (.slice (some ⟨pb, 0, none⟩) 1 1) := s0
  have q1 : ({ heap := W.heap, tape := W.tape, drawn := W.drawn + 1, os := W.os, output := W.output } : World).cell? ⟨pb, 0, none⟩ = some (.iface 72 (.pointer (some ⟨lb, 0, none⟩))) := s1
  have x0 : IntKind.i64.wrap 0 = 0 := by decide
  go_still_tail 12, (by kernel_rfl)
  change wpList _ _ _ _ _ W.drew
  go_wp2_with fail
  refine (litEnd lb o l _ (cell_later (w := W) (by go_grown) s2) (cell_later (w := W) (by go_grown) s3)).mono ?_
  rintro e w1 ⟨rfl, rfl⟩
  have hz : w.heap.size < W.heap.size := lt_of_cell v0
  have hz1 : w.heap.size < W.heap.size + 1 := by omega
  go_wp2
  refine bodyPost_ret (v := .agg #[.int .u32 o, .int .u32 l]) (by simp [results, Try.results48, go_sem, hz, v0, v1]) rfl ⟨rfl, ?_⟩
  go_grown
theorem wPos2 (wb pb lb : Nat) (o l : Int) (w : World) (c0 : w.cell? ⟨wb, 0, none⟩ = some (.slice (some ⟨pb, 0, none⟩) 2 2)) (c1 : w.cell? ⟨pb, 0, none⟩ = some (.iface 72 (.pointer (some ⟨lb, 0, none⟩)))) (d0 : w.cell? ⟨lb, 0, none⟩ = some (.int .u32 o)) (d1 : w.cell? ⟨lb, 1, none⟩ = some (.int .u32 l)) :
    Calls Try.prog 47 #[.pointer (some ⟨wb, 0, none⟩)] w fun e w' => e = .returned (.agg #[.int .u32 o, .int .u32 l]) ∧ (w.alloc (.cells #[.int .u32 o, .int .u32 l] 25)).alloc (.cells #[.int .u32 o, .int .u32 l] 25) = w' := by
  have h0 := lt_of_cell c0
  have h1 := lt_of_cell c1
  go_enter Try.func47, Try.ntmps47
  go_wp2_with (go_at_call 68; refine (litPos lb o l _ (cell_later (by go_grown) d0) (cell_later (by go_grown) d1)).mono ?_; rintro e w' ⟨rfl, rfl⟩)
  go_returns
  exact ⟨rfl, rfl⟩
set_option maxRecDepth 100000 in
theorem wEnd2 (wb pb lb : Nat) (o l : Int) (w : World) (c0 : w.cell? ⟨wb, 0, none⟩ = some (.slice (some ⟨pb, 0, none⟩) 2 2)) (c1 : w.cell? ⟨pb, 1, none⟩ = some (.iface 72 (.pointer (some ⟨lb, 0, none⟩)))) (d0 : w.cell? ⟨lb, 2, none⟩ = some (.int .u32 o)) (d1 : w.cell? ⟨lb, 3, none⟩ = some (.int .u32 l)) :
    Calls Try.prog 48 #[.pointer (some ⟨wb, 0, none⟩)] w fun e w' => e = .returned (.agg #[.int .u32 o, .int .u32 l]) ∧ Below w.heap.size w w' := by
  have h0 := lt_of_cell c0
  have h1 := lt_of_cell c1
  go_enter Try.func48, Try.ntmps48
  go_wp2
  refine wp_world (fun W => W.cell? ⟨wb, 0, none⟩ = some (.slice (some ⟨pb, 0, none⟩) 2 2) ∧ W.cell? ⟨pb, 1, none⟩ = some (.iface 72 (.pointer (some ⟨lb, 0, none⟩))) ∧ W.cell? ⟨lb, 2, none⟩ = some (.int .u32 o) ∧ W.cell? ⟨lb, 3, none⟩ = some (.int .u32 l) ∧ W.cell? ⟨w.heap.size, 0, none⟩ = some (.int .u32 0) ∧ W.cell? ⟨w.heap.size, 1, none⟩ = some (.int .u32 0) ∧ W.frozen? ⟨w.heap.size, 0, none⟩ = false ∧ W.frozen? ⟨w.heap.size, 1, none⟩ = false ∧ Below w.heap.size w W)
    ⟨cell_later (by go_grown) c0, cell_later (by go_grown) c1, cell_later (by go_grown) d0, cell_later (by go_grown) d1, by simp [go_sem], by simp [go_sem], by simp [go_sem], by simp [go_sem], by go_grown⟩ ?_
  rintro W ⟨s0, s1, s2, s3, v0, v1, v2, v3, BW⟩
  have q0 : ({ heap := W.heap, tape := W.tape, drawn := W.drawn + 1, os := W.os, output := W.output } : World).cell? ⟨wb, 0, none⟩ = some (.slice (some ⟨pb, 0, none⟩) 2 2) := s0
  have q1 : ({ heap := W.heap, tape := W.tape, drawn := W.drawn + 1, os := W.os, output := W.output } : World).cell? ⟨pb, 1, none⟩ = some (.iface 72 (.pointer (some ⟨lb, 0, none⟩))) := s1
  have x0 : IntKind.i64.wrap 1 = 1 := by decide
  go_still_tail 12, (by kernel_rfl)
  change wpList _ _ _ _ _ W.drew
  go_wp2_with fail
  refine (litEnd lb o l _ (cell_later (w := W) (by go_grown) s2) (cell_later (w := W) (by go_grown) s3)).mono ?_
  rintro e w1 ⟨rfl, rfl⟩
  have hz : w.heap.size < W.heap.size := lt_of_cell v0
  have hz1 : w.heap.size < W.heap.size + 1 := by omega
  go_wp2
  refine bodyPost_ret (v := .agg #[.int .u32 o, .int .u32 l]) (by simp [results, Try.results48, go_sem, hz, v0, v1]) rfl ⟨rfl, ?_⟩
  go_grown
theorem ePosI (eb wb pb lb : Nat) (o l : Int) (w : World) (a0 : w.cell? ⟨eb, 0, none⟩ = some (.iface 35 (.pointer (some ⟨wb, 0, none⟩)))) (c0 : w.cell? ⟨wb, 0, none⟩ = some (.slice (some ⟨pb, 0, none⟩) 1 1)) (c1 : w.cell? ⟨pb, 0, none⟩ = some (.iface 72 (.pointer (some ⟨lb, 0, none⟩)))) (d0 : w.cell? ⟨lb, 0, none⟩ = some (.int .u32 o)) (d1 : w.cell? ⟨lb, 1, none⟩ = some (.int .u32 l)) :
    Calls Try.prog 28 #[.pointer (some ⟨eb, 0, none⟩)] w fun e w' => e = .returned (.agg #[.int .u32 o, .int .u32 l]) ∧ ((w.alloc (.cells #[.int .u32 o, .int .u32 l] 25)).alloc (.cells #[.int .u32 o, .int .u32 l] 25)).alloc (.cells #[.int .u32 o, .int .u32 l] 25) = w' := by
  have h0 := lt_of_cell a0
  go_enter Try.func28, Try.ntmps28
  go_wp2_with (go_at_call 47; refine (wPos1 wb pb lb o l _ (cell_later (by go_grown) c0) (cell_later (by go_grown) c1) (cell_later (by go_grown) d0) (cell_later (by go_grown) d1)).mono ?_; rintro e w' ⟨rfl, rfl⟩)
  go_returns
  exact ⟨rfl, rfl⟩
theorem ePosV (eb wb pb lb : Nat) (o l : Int) (w : World) (a0 : w.cell? ⟨eb, 0, none⟩ = some .nilIface) (a1 : w.cell? ⟨eb, 1, none⟩ = some (.pointer (some ⟨wb, 0, none⟩))) (c0 : w.cell? ⟨wb, 0, none⟩ = some (.slice (some ⟨pb, 0, none⟩) 2 2)) (c1 : w.cell? ⟨pb, 0, none⟩ = some (.iface 72 (.pointer (some ⟨lb, 0, none⟩)))) (d0 : w.cell? ⟨lb, 0, none⟩ = some (.int .u32 o)) (d1 : w.cell? ⟨lb, 1, none⟩ = some (.int .u32 l)) :
    Calls Try.prog 28 #[.pointer (some ⟨eb, 0, none⟩)] w fun e w' => e = .returned (.agg #[.int .u32 o, .int .u32 l]) ∧ ((w.alloc (.cells #[.int .u32 o, .int .u32 l] 25)).alloc (.cells #[.int .u32 o, .int .u32 l] 25)).alloc (.cells #[.int .u32 o, .int .u32 l] 25) = w' := by
  have h0 := lt_of_cell a0
  go_enter Try.func28, Try.ntmps28
  go_wp2_with (go_at_call 47; refine (wPos2 wb pb lb o l _ (cell_later (by go_grown) c0) (cell_later (by go_grown) c1) (cell_later (by go_grown) d0) (cell_later (by go_grown) d1)).mono ?_; rintro e w' ⟨rfl, rfl⟩)
  go_returns
  exact ⟨rfl, rfl⟩
theorem eEndV (eb wb pb lb : Nat) (o l : Int) (w : World) (a1 : w.cell? ⟨eb, 1, none⟩ = some (.pointer (some ⟨wb, 0, none⟩))) (c0 : w.cell? ⟨wb, 0, none⟩ = some (.slice (some ⟨pb, 0, none⟩) 2 2)) (c1 : w.cell? ⟨pb, 1, none⟩ = some (.iface 72 (.pointer (some ⟨lb, 0, none⟩)))) (d0 : w.cell? ⟨lb, 2, none⟩ = some (.int .u32 o)) (d1 : w.cell? ⟨lb, 3, none⟩ = some (.int .u32 l)) :
    Calls Try.prog 29 #[.pointer (some ⟨eb, 0, none⟩)] w fun e w' => e = .returned (.agg #[.int .u32 o, .int .u32 l]) ∧ Below w.heap.size w w' := by
  have hlt := lt_of_cell a1
  go_enter Try.func29, Try.ntmps29
  go_wp2_with fail
  refine (wEnd2 wb pb lb o l _ (cell_later (by go_grown) c0) (cell_later (by go_grown) c1) (cell_later (by go_grown) d0) (cell_later (by go_grown) d1)).mono ?_
  rintro e w1 ⟨rfl, hb⟩
  obtain ⟨hc, hf⟩ := bcell hb
  have hz : w.heap.size < w1.heap.size := by have := hb.size; simp at this; omega
  go_wp2
  refine bodyPost_ret (v := .agg #[.int .u32 o, .int .u32 l]) (by simp [results, Try.results29, go_sem, hc, hz]) rfl ⟨rfl, ?_⟩
  exact (((((Below.refl _ _).alloc (Nat.le_refl _) _).trans (hb.mono (by simp))).setCell (by simp) _).setCell (by simp) _)
theorem eEndI (eb wb pb lb : Nat) (o l : Int) (w : World) (h0 : 0 ≤ o) (h2 : 0 ≤ l) (h3 : l ≤ 4294967295) (a0 : w.cell? ⟨eb, 0, none⟩ = some (.iface 35 (.pointer (some ⟨wb, 0, none⟩)))) (a1 : w.cell? ⟨eb, 1, none⟩ = some (.pointer none)) (c0 : w.cell? ⟨wb, 0, none⟩ = some (.slice (some ⟨pb, 0, none⟩) 1 1)) (c1 : w.cell? ⟨pb, 0, none⟩ = some (.iface 72 (.pointer (some ⟨lb, 0, none⟩)))) (d0 : w.cell? ⟨lb, 2, none⟩ = some (.int .u32 o)) (d1 : w.cell? ⟨lb, 3, none⟩ = some (.int .u32 l)) :
    Calls Try.prog 29 #[.pointer (some ⟨eb, 0, none⟩)] w fun e w' => e = .returned (.agg #[.int .u32 (pO o l 2), .int .u32 (pL o l 2)]) ∧ Below w.heap.size w w' := by
  have hlt := lt_of_cell a1
  go_enter Try.func29, Try.ntmps29
  go_wp2_with fail
  refine (wEnd1 wb pb lb o l _ (cell_later (by go_grown) c0) (cell_later (by go_grown) c1) (cell_later (by go_grown) d0) (cell_later (by go_grown) d1)).mono ?_
  rintro e w1 ⟨rfl, hb1⟩
  go_wp2_with fail
  refine (posAdd o l 2 w1 h0 h2 h3 (by omega) (by omega)).mono ?_
  rintro e w2 ⟨rfl, hb2⟩
  have hb := below_next hb1 hb2
  clear hb1 hb2
  obtain ⟨hc, hf⟩ := bcell hb
  have hz : w.heap.size < w2.heap.size := by have := hb.size; simp at this; omega
  go_wp2
  refine bodyPost_ret (v := .agg #[.int .u32 (pO o l 2), .int .u32 (pL o l 2)]) (by simp [results, Try.results29, go_sem, hc, hz]) rfl ⟨rfl, ?_⟩
  exact (((((Below.refl _ _).alloc (Nat.le_refl _) _).trans (hb.mono (by simp))).setCell (by simp) _).setCell (by simp) _)
end Go.Proofs.Ytccnpgmceoojmab.elem
