/-
  A let clause's end, positions' order, copies of rows: what they answer.
-/
import Derived.Test.YtlaihlpokpeahaaLetA
namespace Go.Proofs.Ytlaihlpokpeahaa.letc
open Go.RowKit
open Go.Proofs.Ytlaihlpokpeahaa

def vB (o l : Int) : Bool := decide (o ≤ 4294967284) && (l != 0)
def aB (o l q : Int) : Bool := vB o l && decide (q < o)
def rB (o l : Int) : Bool := decide (o ≤ 4294967284) || (decide (o = 4294967285) && decide (l = 0))
theorem isValid (o l : Int) (w : World) : Calls Try.prog 13 #[.agg #[.int .u32 o, .int .u32 l]] w fun e w' => e = .returned (.bool (vB o l)) ∧ w.alloc (.cells #[.int .u32 o, .int .u32 l] 28) = w' := by
  go_enter Try.func13, Try.ntmps13
  go_wp2
  all_goals
    go_ret
    refine ⟨ret_bool ?_, rfl⟩
    simp [vB] at *
    try simp [*]
    try omega
theorem after (o l q m : Int) (w : World) : Calls Try.prog 12 #[.agg #[.int .u32 o, .int .u32 l], .agg #[.int .u32 q, .int .u32 m]] w fun e w' => e = .returned (.bool (aB o l q)) ∧ ((w.alloc (.cells #[.int .u32 o, .int .u32 l] 28)).alloc (.cells #[.int .u32 q, .int .u32 m] 28)).alloc (.cells #[.int .u32 o, .int .u32 l] 28) = w' := by
  cases hv : vB o l
  all_goals
    go_enter Try.func12, Try.ntmps12
    go_wp2_with (go_at_call 13; refine (isValid _ _ _).mono ?_; rintro e w' ⟨rfl, rfl⟩)
    go_ret
    exact ⟨by simp [aB, hv], rfl⟩
theorem reach (o l : Int) (w : World) : Calls Try.prog 5 #[.int .u32 o, .int .u32 l] w fun e w' => e = .returned (.bool (rB o l)) ∧ w = w' := by
  go_enter Try.func5, Try.ntmps5
  go_wp2
  all_goals
    go_ret
    refine ⟨ret_bool ?_, rfl⟩
    rw [Bool.eq_iff_iff]
    simp [rB] at *
    try omega
theorem reachT (o l : Int) (b : Bool) (h : rB o l = b) (w : World) : Calls Try.prog 5 #[.int .u32 o, .int .u32 l] w fun e w' => e = .returned (.bool b) ∧ w = w' := h ▸ reach o l w
theorem cp_nil (w : World) : Calls Try.prog 6 #[.slice none 0 0] w fun e w' => e = .returned (.slice none 0 0) ∧ w = w' := by
  have hn := fun (w' : World) => Lib.run_eql_slice_nil (P := Try.prog) w' 23 22 none 0 0 0 0 Try.underlying23
  go_enter Try.func6, Try.ntmps6
  go_wp2
  go_ret
  exact ⟨rfl, rfl⟩
theorem cp_zero (x : Addr) (cap : Nat) (zs : List Int) (w : World) : Calls Try.prog 6 #[.slice (some x) 0 cap] w fun e w' => e = .returned (.slice (some ⟨w.heap.size, 0, none⟩) 0 0) ∧ w.alloc (.cells (cpL .u32 zs 0 0) 22) = w' := by
  have hn := fun (w' : World) => Lib.run_eql_slice_nil (P := Try.prog) w' 23 22 (some x) 0 cap 0 0 Try.underlying23
  have hmk : ∀ w' : World, (Instr.makeSlice 23 (.int .i64 0) (.int .i64 0)).run Try.prog w' = .ok (.slice (some ⟨w'.heap.size, 0, none⟩) 0 0) (w'.alloc (.cells (cpL .u32 zs 0 0) 22)) := fun w' => by
    have h := run_make_row' (P := Try.prog) 23 22 (.int .u32 0) 4 Try.underlying23 (by kernel_rfl) rfl .i64 .i64 0 (by omega) (by omega) w'
    rw [cpL_zero .u32 zs] at h
    exact h
  go_enter Try.func6, Try.ntmps6
  go_wp2
  refine wp_loop_rounds 1 ?_
  rw [rounds_succ]
  go_wp2
  go_ret
  exact ⟨rfl, rfl⟩
theorem cp_pos (b off len cap : Nat) (zs : List Int) (w : World) (hl : 0 < len) (hm : len ≤ 1048576) (hc : ∀ i, i < len → w.cell? ⟨b, off + i, none⟩ = some (.int .u32 (zs.getD i 0))) :
    Calls Try.prog 6 #[.slice (some ⟨b, off, none⟩) len cap] w fun e w' => e = .returned (.slice (some ⟨w.heap.size, 0, none⟩) len len) ∧ w.alloc (.cells (cpL .u32 zs len len) 22) = w' := by
  have hn := fun (w' : World) => Lib.run_eql_slice_nil (P := Try.prog) w' 23 22 (some ⟨b, off, none⟩) len cap 0 0 Try.underlying23
  have hmk : ∀ w' : World, (Instr.makeSlice 23 (.int .i64 (len : Int)) (.int .i64 (len : Int))).run Try.prog w' = .ok (.slice (some ⟨w'.heap.size, 0, none⟩) len len) (w'.alloc (.cells (cpL .u32 zs len 0) 22)) := fun w' => by
    have h := run_make_row' (P := Try.prog) 23 22 (.int .u32 0) 4 Try.underlying23 (by kernel_rfl) rfl .i64 .i64 len (by omega) (by omega) w'
    rw [cpL_zero .u32 zs] at h
    exact h
  have hlt := lt_of_cell (hc 0 hl)
  have HC := Lib.hid hc
  clear hc
  go_enter Try.func6, Try.ntmps6
  go_wp2
  clear hmk hn
  go_loopw [4] (fun i wr => ∃ j : Nat, j ≤ len ∧ i = .int .i64 j ∧ wr = w.alloc (.cells (cpL .u32 zs len j) 22)) (fun i _ => len - (intOf i).toNat)
  case atStart => exact ⟨0, by omega, rfl, rfl⟩
  case round =>
    obtain ⟨j, hj, rfl, rfl⟩ := hrel
    by_cases hjl : j < len
    · have c1 := HC.out j hjl
      have c2 : (cpL .u32 zs len j)[j]? = some (.int .u32 0) := by rw [cpL_get .u32 zs len j j hjl]; simp
      have HS := Lib.hid (cpL_set .u32 zs len j hjl)
      generalize zs.getD j 0 = zj at *
      go_wp2
      go_roundw
      case rel => exact ⟨j + 1, by omega, by go_num, by rw [← HS.out]⟩
      case measure => simp [intOf]; omega
    · obtain rfl : j = len := by omega
      go_wp2
      go_ret
      exact ⟨rfl, rfl⟩
set_option maxRecDepth 100000 in
theorem wEnd (wb pb lb : Nat) (o l : Int) (w : World) (c0 : w.cell? ⟨wb, 0, none⟩ = some (.slice (some ⟨pb, 0, none⟩) 1 1)) (c1 : w.cell? ⟨pb, 0, none⟩ = some (.iface 39 (.pointer (some ⟨lb, 0, none⟩)))) (d0 : w.cell? ⟨lb, 2, none⟩ = some (.int .u32 o)) (d1 : w.cell? ⟨lb, 3, none⟩ = some (.int .u32 l)) :
    Calls Try.prog 32 #[.pointer (some ⟨wb, 0, none⟩)] w fun e w' => e = .returned (.agg #[.int .u32 o, .int .u32 l]) ∧ Below w.heap.size w w' := by
  have h0 := lt_of_cell c0
  have h1 := lt_of_cell c1
  go_enter Try.func32, Try.ntmps32
  go_wp2
  refine wp_world (fun W => W.cell? ⟨wb, 0, none⟩ = some (.slice (some ⟨pb, 0, none⟩) 1 1) ∧ W.cell? ⟨pb, 0, none⟩ = some (.iface 39 (.pointer (some ⟨lb, 0, none⟩))) ∧ W.cell? ⟨lb, 2, none⟩ = some (.int .u32 o) ∧ W.cell? ⟨lb, 3, none⟩ = some (.int .u32 l) ∧ W.cell? ⟨w.heap.size, 0, none⟩ = some (.int .u32 0) ∧ W.cell? ⟨w.heap.size, 1, none⟩ = some (.int .u32 0) ∧ W.frozen? ⟨w.heap.size, 0, none⟩ = false ∧ W.frozen? ⟨w.heap.size, 1, none⟩ = false ∧ Below w.heap.size w W)
    ⟨cell_later (by go_grown) c0, cell_later (by go_grown) c1, cell_later (by go_grown) d0, cell_later (by go_grown) d1, by simp [go_sem], by simp [go_sem], by simp [go_sem], by simp [go_sem], by go_grown⟩ ?_
  rintro W ⟨s0, s1, s2, s3, v0, v1, v2, v3, BW⟩
  have q0 : ({ heap := W.heap, tape := W.tape, drawn := W.drawn + 1, os := W.os, output := W.output } : World).cell? ⟨wb, 0, none⟩ = some (.slice (some ⟨pb, 0, none⟩) 1 1) := s0
  have q1 : ({ heap := W.heap, tape := W.tape, drawn := W.drawn + 1, os := W.os, output := W.output } : World).cell? ⟨pb, 0, none⟩ = some (.iface 39 (.pointer (some ⟨lb, 0, none⟩))) := s1
  have x0 : IntKind.i64.wrap 0 = 0 := by decide
  go_still_tail 12, (by kernel_rfl)
  change wpList _ _ _ _ _ W.drew
  go_wp2_with fail
  refine (litEnd lb o l _ (cell_later (w := W) (by go_grown) s2) (cell_later (w := W) (by go_grown) s3)).mono ?_
  rintro e w1 ⟨rfl, rfl⟩
  have hz : w.heap.size < W.heap.size := lt_of_cell v0
  have hz1 : w.heap.size < W.heap.size + 1 := by omega
  go_wp2
  refine bodyPost_ret (v := .agg #[.int .u32 o, .int .u32 l]) (by simp [results, Try.results32, go_sem, hz, v0, v1]) rfl ⟨rfl, ?_⟩
  go_grown
set_option maxRecDepth 100000 in
theorem lEnd (L g wq : Nat) (n cap pb2 lb2 : Nat) (o l : Int) (hn : n ≤ 4096) (w : World) (c0 : w.cell? ⟨L, 2, none⟩ = some (.slice (some ⟨g, 0, none⟩) (n + 1) cap)) (c1 : w.cell? ⟨g, n, none⟩ = some (.iface 38 (.pointer (some ⟨wq, 0, none⟩)))) (d0 : w.cell? ⟨wq, 0, none⟩ = some (.slice (some ⟨pb2, 0, none⟩) 1 1)) (d1 : w.cell? ⟨pb2, 0, none⟩ = some (.iface 39 (.pointer (some ⟨lb2, 0, none⟩)))) (d2 : w.cell? ⟨lb2, 2, none⟩ = some (.int .u32 o)) (d3 : w.cell? ⟨lb2, 3, none⟩ = some (.int .u32 l)) :
    Calls Try.prog 11 #[.pointer (some ⟨L, 0, none⟩)] w fun e w' => e = .returned (.agg #[.int .u32 o, .int .u32 l]) ∧ Below w.heap.size w w' := by
  have h0 := lt_of_cell c0
  have h1 := lt_of_cell c1
  go_enter Try.func11, Try.ntmps11
  go_wp2
  refine wp_world (fun W => W.cell? ⟨L, 2, none⟩ = some (.slice (some ⟨g, 0, none⟩) (n + 1) cap) ∧ W.cell? ⟨g, n, none⟩ = some (.iface 38 (.pointer (some ⟨wq, 0, none⟩))) ∧ W.cell? ⟨wq, 0, none⟩ = some (.slice (some ⟨pb2, 0, none⟩) 1 1) ∧ W.cell? ⟨pb2, 0, none⟩ = some (.iface 39 (.pointer (some ⟨lb2, 0, none⟩))) ∧ W.cell? ⟨lb2, 2, none⟩ = some (.int .u32 o) ∧ W.cell? ⟨lb2, 3, none⟩ = some (.int .u32 l) ∧ W.cell? ⟨w.heap.size, 0, none⟩ = some (.int .u32 0) ∧ W.cell? ⟨w.heap.size, 1, none⟩ = some (.int .u32 0) ∧ W.frozen? ⟨w.heap.size, 0, none⟩ = false ∧ W.frozen? ⟨w.heap.size, 1, none⟩ = false ∧ Below w.heap.size w W)
    ⟨cell_later (by go_grown) c0, cell_later (by go_grown) c1, cell_later (by go_grown) d0, cell_later (by go_grown) d1, cell_later (by go_grown) d2, cell_later (by go_grown) d3, by simp [go_sem], by simp [go_sem], by simp [go_sem], by simp [go_sem], by go_grown⟩ ?_
  rintro W ⟨s0, s1, s2, s3, s4, s5, v0, v1, v2, v3, BW⟩
  have q0 : ({ heap := W.heap, tape := W.tape, drawn := W.drawn + 1, os := W.os, output := W.output } : World).cell? ⟨L, 2, none⟩ = some (.slice (some ⟨g, 0, none⟩) (n + 1) cap) := s0
  have q1 : ({ heap := W.heap, tape := W.tape, drawn := W.drawn + 1, os := W.os, output := W.output } : World).cell? ⟨g, n, none⟩ = some (.iface 38 (.pointer (some ⟨wq, 0, none⟩))) := s1
  have x0 : IntKind.i64.wrap (n : Int) = (n : Int) := IntWalk.i64_in _ (by omega)
  have x1 : IntKind.i64.wrap ((n : Int) + 1 - 1) = (n : Int) := by rw [IntWalk.i64_in _ (by omega)]; omega
  have x2 : (0 : Int) ≤ (n : Int) := by omega
  have x3 : (n : Int) < (n : Int) + 1 := by omega
  go_still_tail 12, (by kernel_rfl)
  change wpList _ _ _ _ _ W.drew
  go_wp2_with fail
  refine (wEnd wq pb2 lb2 o l _ (cell_later (w := W) (by go_grown) s2) (cell_later (w := W) (by go_grown) s3) (cell_later (w := W) (by go_grown) s4) (cell_later (w := W) (by go_grown) s5)).mono ?_
  rintro e w1 ⟨rfl, hb0⟩
  have hb : Below W.heap.size W w1 := ⟨hb0.os, hb0.tape, hb0.output, hb0.size, hb0.block⟩
  clear hb0
  have hz : w.heap.size < W.heap.size := lt_of_cell v0
  have u0 : w1.cell? ⟨w.heap.size, 0, none⟩ = some (.int .u32 0) := cell_later hb v0
  have u1 : w1.cell? ⟨w.heap.size, 1, none⟩ = some (.int .u32 0) := cell_later hb v1
  have u2 : w1.frozen? ⟨w.heap.size, 0, none⟩ = false := (hb.frozen (p := ⟨w.heap.size, 0, none⟩) hz).trans v2
  have u3 : w1.frozen? ⟨w.heap.size, 1, none⟩ = false := (hb.frozen (p := ⟨w.heap.size, 1, none⟩) hz).trans v3
  have hz1 := lt_of_cell u0
  have BW1 : Below w.heap.size w w1 := Below.trans BW (Below.mono hb BW.size)
  clear hb
  go_wp2
  refine bodyPost_ret (v := .agg #[.int .u32 o, .int .u32 l]) (by simp [results, Try.results11, go_sem, hz1, u0, u1]) rfl ⟨rfl, ?_⟩
  go_grown
theorem bytes6 (lo ll : Int) (a0 a1 a2 a3 : Option Addr) (n0 n1 n2 n3 c0 c1 c2 c3 : Nat) (w : World) (h0 : n0 ≤ 4096) (h1 : n1 ≤ 4096) (h2 : n2 ≤ 4096) (h3 : n3 ≤ 4096) :
    Calls Try.prog 4 #[.int .u32 lo, .int .u32 ll, .slice a0 n0 c0, .slice a1 n1 c1, .slice a2 n2 c2, .slice a3 n3 c3] w fun e w' => e = .returned (.bool true) ∧ w = w' := by
  have g1 : ¬ (1048576 : Int) < (n0 : Int) := by omega
  have g2 : ¬ (1048576 : Int) < (n1 : Int) := by omega
  have g3 : ¬ (1048576 : Int) < (n2 : Int) := by omega
  have g4 : ¬ (1048576 : Int) < (n3 : Int) := by omega
  have g5 : ¬ (1048576 : Int) < (n0 : Int) + (n1 : Int) := by omega
  have g6 : ¬ (1048576 : Int) < (n0 : Int) + (n1 : Int) + (n2 : Int) := by omega
  have g7 : ¬ (1048576 : Int) < (n0 : Int) + (n1 : Int) + (n2 : Int) + (n3 : Int) := by omega
  go_enter Try.func4, Try.ntmps4
  go_wp2
  go_ret
  exact ⟨rfl, rfl⟩
end Go.Proofs.Ytlaihlpokpeahaa.letc
