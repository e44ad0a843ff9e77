/-
  What Lit.End, Word.End on a word of one literal, and BinaryTest.End answer: the end of the last literal.
-/
import Derived.Test.YtccnpgmceoojmaaPos
import Derived.StillTailTactics
namespace Go.Proofs.Ytccnpgmceoojmaa
open Go.RowKit

theorem litEnd (b : Nat) (o l : Int) (w : World) (c0 : w.cell? ⟨b, 2, none⟩ = some (.int .u32 o)) (c1 : w.cell? ⟨b, 3, none⟩ = some (.int .u32 l)) :
    Calls Try.prog 39 #[.pointer (some ⟨b, 0, none⟩)] w fun e w' => e = .returned (.agg #[.int .u32 o, .int .u32 l]) ∧ w.alloc (.cells #[.int .u32 o, .int .u32 l] 26) = w' := by
  have hlt := lt_of_cell c0
  go_enter Try.func39, Try.ntmps39
  go_wp2
  go_returns
  exact ⟨rfl, rfl⟩
set_option maxRecDepth 100000 in
theorem wordEnd (wb pb lb : Nat) (o l : Int) (w : World) (c0 : w.cell? ⟨wb, 0, none⟩ = some (.slice (some ⟨pb, 0, none⟩) 1 1)) (c1 : w.cell? ⟨pb, 0, none⟩ = some (.iface 55 (.pointer (some ⟨lb, 0, none⟩)))) (d0 : w.cell? ⟨lb, 2, none⟩ = some (.int .u32 o)) (d1 : w.cell? ⟨lb, 3, none⟩ = some (.int .u32 l)) :
    Calls Try.prog 44 #[.pointer (some ⟨wb, 0, none⟩)] w fun e w' => e = .returned (.agg #[.int .u32 o, .int .u32 l]) ∧ Below w.heap.size w w' := by
  have h0 := lt_of_cell c0
  have h1 := lt_of_cell c1
  go_enter Try.func44, Try.ntmps44
  go_wp2
  refine wp_world (fun W => W.cell? ⟨wb, 0, none⟩ = some (.slice (some ⟨pb, 0, none⟩) 1 1) ∧ W.cell? ⟨pb, 0, none⟩ = some (.iface 55 (.pointer (some ⟨lb, 0, none⟩))) ∧ W.cell? ⟨lb, 2, none⟩ = some (.int .u32 o) ∧ W.cell? ⟨lb, 3, none⟩ = some (.int .u32 l) ∧ W.cell? ⟨w.heap.size, 0, none⟩ = some (.int .u32 0) ∧ W.cell? ⟨w.heap.size, 1, none⟩ = some (.int .u32 0) ∧ W.frozen? ⟨w.heap.size, 0, none⟩ = false ∧ W.frozen? ⟨w.heap.size, 1, none⟩ = false ∧ Below w.heap.size w W)
    ⟨cell_later (by go_grown) c0, cell_later (by go_grown) c1, cell_later (by go_grown) d0, cell_later (by go_grown) d1, by simp [go_sem], by simp [go_sem], by simp [go_sem], by simp [go_sem], by go_grown⟩ ?_
  rintro W ⟨s0, s1, s2, s3, v0, v1, v2, v3, BW⟩
  have q0 : ({ heap := W.heap, tape := W.tape, drawn := W.drawn + 1, os := W.os, output := W.output } : World).cell? ⟨wb, 0, none⟩ = some (.slice (some ⟨pb, 0, none⟩) 1 1) := s0
  have q1 : ({ heap := W.heap, tape := W.tape, drawn := W.drawn + 1, os := W.os, output := W.output } : World).cell? ⟨pb, 0, none⟩ = some (.iface 55 (.pointer (some ⟨lb, 0, none⟩))) := s1
  have x0 : IntKind.i64.wrap 0 = 0 := by decide
  go_still_tail 12, (by kernel_rfl)
  change wpList _ _ _ _ _ W.drew
  go_wp2_with fail
  refine (litEnd _ o l _ (cell_later (w := W) (by go_grown) s2) (cell_later (w := W) (by go_grown) s3)).mono ?_
  rintro e w1 ⟨rfl, rfl⟩
  have hz : w.heap.size < W.heap.size := lt_of_cell v0
  have hz1 : w.heap.size < W.heap.size + 1 := by omega
  go_wp2
  refine bodyPost_ret (v := .agg #[.int .u32 o, .int .u32 l]) (by simp [results, Try.results44, go_sem, hz, v0, v1]) rfl ⟨rfl, ?_⟩
  go_grown
theorem binEndW (b wb pb lb : Nat) (o l : Int) (w : World) (c0 : w.cell? ⟨b, 4, none⟩ = some (.iface 43 (.pointer (some ⟨wb, 0, none⟩)))) (c1 : w.cell? ⟨wb, 0, none⟩ = some (.slice (some ⟨pb, 0, none⟩) 1 1)) (c2 : w.cell? ⟨pb, 0, none⟩ = some (.iface 55 (.pointer (some ⟨lb, 0, none⟩)))) (c3 : w.cell? ⟨lb, 2, none⟩ = some (.int .u32 o)) (c4 : w.cell? ⟨lb, 3, none⟩ = some (.int .u32 l)) :
    Calls Try.prog 26 #[.pointer (some ⟨b, 0, none⟩)] w fun e w' => e = .returned (.agg #[.int .u32 o, .int .u32 l]) ∧ Below w.heap.size w w' := by
  have hlt := lt_of_cell c0
  go_enter Try.func26, Try.ntmps26
  go_wp2_with fail
  refine (wordEnd _ _ _ o l _ (cell_later (by go_grown) c1) (cell_later (by go_grown) c2) (cell_later (by go_grown) c3) (cell_later (by go_grown) c4)).mono ?_
  rintro e w1 ⟨rfl, hb⟩
  obtain ⟨hc, hf⟩ := bcell hb
  have hz : w.heap.size < w1.heap.size := by have := hb.size; simp at this; omega
  go_wp2
  refine bodyPost_ret (v := .agg #[.int .u32 o, .int .u32 l]) (by simp [results, Try.results26, go_sem, hc, hz]) rfl ⟨rfl, ?_⟩
  exact (((((Below.refl _ _).alloc (Nat.le_refl _) _).trans (hb.mono (by simp))).setCell (by simp) _).setCell (by simp) _)
theorem binEndB (b b2 wb pb lb : Nat) (o l : Int) (w : World) (c0 : w.cell? ⟨b, 4, none⟩ = some (.iface 45 (.pointer (some ⟨b2, 0, none⟩)))) (c1 : w.cell? ⟨b2, 4, none⟩ = some (.iface 43 (.pointer (some ⟨wb, 0, none⟩)))) (c2 : w.cell? ⟨wb, 0, none⟩ = some (.slice (some ⟨pb, 0, none⟩) 1 1)) (c3 : w.cell? ⟨pb, 0, none⟩ = some (.iface 55 (.pointer (some ⟨lb, 0, none⟩)))) (c4 : w.cell? ⟨lb, 2, none⟩ = some (.int .u32 o)) (c5 : w.cell? ⟨lb, 3, none⟩ = some (.int .u32 l)) :
    Calls Try.prog 26 #[.pointer (some ⟨b, 0, none⟩)] w fun e w' => e = .returned (.agg #[.int .u32 o, .int .u32 l]) ∧ Below w.heap.size w w' := by
  have hlt := lt_of_cell c0
  go_enter Try.func26, Try.ntmps26
  go_wp2_with fail
  refine (binEndW _ _ _ _ o l _ (cell_later (by go_grown) c1) (cell_later (by go_grown) c2) (cell_later (by go_grown) c3) (cell_later (by go_grown) c4) (cell_later (by go_grown) c5)).mono ?_
  rintro e w1 ⟨rfl, hb⟩
  obtain ⟨hc, hf⟩ := bcell hb
  have hz : w.heap.size < w1.heap.size := by have := hb.size; simp at this; omega
  go_wp2
  refine bodyPost_ret (v := .agg #[.int .u32 o, .int .u32 l]) (by simp [results, Try.results26, go_sem, hc, hz]) rfl ⟨rfl, ?_⟩
  exact (((((Below.refl _ _).alloc (Nat.le_refl _) _).trans (hb.mono (by simp))).setCell (by simp) _).setCell (by simp) _)
end Go.Proofs.Ytccnpgmceoojmaa
