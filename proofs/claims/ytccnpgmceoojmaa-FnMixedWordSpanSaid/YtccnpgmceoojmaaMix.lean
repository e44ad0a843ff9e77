/-
  Words of a literal and a single-quoted part: Pos, End, and Lit, which is empty.
-/
import Derived.Test.YtccnpgmceoojmaaLitn
import Derived.StillTailTactics
import Derived.OwnWalk
namespace Go.Proofs.Ytccnpgmceoojmaa.mix
open Go.RowKit

theorem below_next {W X w' : World} (h : Below W.heap.size W X) (hb : Below X.heap.size X w') : Below W.heap.size W w' := Below.trans h (Below.mono hb h.size)
theorem sglEnd (b : Nat) (o l : Int) (w : World) (h0 : 0 ≤ o) (h2 : 0 ≤ l) (h3 : l ≤ 4294967295) (c0 : w.cell? ⟨b, 2, none⟩ = some (.int .u32 o)) (c1 : w.cell? ⟨b, 3, none⟩ = some (.int .u32 l)) :
    Calls Try.prog 45 #[.pointer (some ⟨b, 0, none⟩)] w fun e w' => e = .returned (.agg #[.int .u32 (pO o l 1), .int .u32 (pL o l 1)]) ∧ Below w.heap.size w w' := by
  have hlt := lt_of_cell c0
  go_enter Try.func45, Try.ntmps45
  go_wp2_with fail
  refine (posAdd _ _ _ _ h0 h2 h3 (by omega) (by omega)).mono ?_
  rintro e w1 ⟨rfl, hb⟩
  obtain ⟨hc, hf⟩ := bcell hb
  have hz : w.heap.size < w1.heap.size := by have := hb.size; simp at this; omega
  go_wp2
  refine bodyPost_ret (v := .agg #[.int .u32 (pO o l 1), .int .u32 (pL o l 1)]) (by simp [results, Try.results45, go_sem, hc, hz]) rfl ⟨rfl, ?_⟩
  exact (((((Below.refl _ _).alloc (Nat.le_refl _) _).trans (hb.mono (by simp))).setCell (by simp) _).setCell (by simp) _)
theorem sglPosX (b : Nat) (o l : Int) (w : World) (c0 : w.cell? ⟨b, 0, none⟩ = some (.int .u32 o)) (c1 : w.cell? ⟨b, 1, none⟩ = some (.int .u32 l)) :
    Calls Try.prog 48 #[.pointer (some ⟨b, 0, none⟩)] w fun e w' => e = .returned (.agg #[.int .u32 o, .int .u32 l]) ∧ w.alloc (.cells #[.int .u32 o, .int .u32 l] 26) = w' := by
  have hlt := lt_of_cell c0
  go_enter Try.func48, Try.ntmps48
  go_wp2
  go_returns
  exact ⟨rfl, rfl⟩
theorem sglPos (b : Nat) (o l : Int) (w : World) (c0 : w.cell? ⟨b, 0, none⟩ = some (.int .u32 o)) (c1 : w.cell? ⟨b, 1, none⟩ = some (.int .u32 l)) :
    Calls Try.prog 48 #[.pointer (some ⟨b, 0, none⟩)] w fun e w' => e = .returned (.agg #[.int .u32 o, .int .u32 l]) ∧ Below w.heap.size w w' :=
  (sglPosX b o l w c0 c1).mono fun e w' h => ⟨h.1, by rw [← h.2]; go_grown⟩
theorem litPos (b : Nat) (o l : Int) (w : World) (c0 : w.cell? ⟨b, 0, none⟩ = some (.int .u32 o)) (c1 : w.cell? ⟨b, 1, none⟩ = some (.int .u32 l)) :
    Calls Try.prog 35 #[.pointer (some ⟨b, 0, none⟩)] w fun e w' => e = .returned (.agg #[.int .u32 o, .int .u32 l]) ∧ Below w.heap.size w w' :=
  (litn.litPosX b o l w c0 c1).mono fun e w' h => ⟨h.1, by rw [← h.2]; go_grown⟩
theorem wPosL (wb pb lb : Nat) (o l : Int) (w : World) (c0 : w.cell? ⟨wb, 0, none⟩ = some (.slice (some ⟨pb, 0, none⟩) 2 2)) (c1 : w.cell? ⟨pb, 0, none⟩ = some (.iface 55 (.pointer (some ⟨lb, 0, none⟩)))) (c2 : w.cell? ⟨lb, 0, none⟩ = some (.int .u32 o)) (c3 : w.cell? ⟨lb, 1, none⟩ = some (.int .u32 l)) :
    Calls Try.prog 43 #[.pointer (some ⟨wb, 0, none⟩)] w fun e w' => e = .returned (.agg #[.int .u32 o, .int .u32 l]) ∧ Below w.heap.size w w' := by
  have hlt := lt_of_cell c0
  have hlt1 := lt_of_cell c1
  go_enter Try.func43, Try.ntmps43
  go_wp2_with fail
  refine (litPos _ o l _ (cell_later (by go_grown) c2) (cell_later (by go_grown) c3)).mono ?_
  rintro e w1 ⟨rfl, hb⟩
  obtain ⟨hc, hf⟩ := bcell hb
  have hz : w.heap.size < w1.heap.size := by have := hb.size; simp at this; omega
  go_wp2
  refine bodyPost_ret (v := .agg #[.int .u32 o, .int .u32 l]) (by simp [results, Try.results43, go_sem, hc, hz]) rfl ⟨rfl, ?_⟩
  exact (((((Below.refl _ _).alloc (Nat.le_refl _) _).trans (hb.mono (by simp))).setCell (by simp) _).setCell (by simp) _)
theorem wPosS (wb pb lb : Nat) (o l : Int) (w : World) (c0 : w.cell? ⟨wb, 0, none⟩ = some (.slice (some ⟨pb, 0, none⟩) 2 2)) (c1 : w.cell? ⟨pb, 0, none⟩ = some (.iface 69 (.pointer (some ⟨lb, 0, none⟩)))) (c2 : w.cell? ⟨lb, 0, none⟩ = some (.int .u32 o)) (c3 : w.cell? ⟨lb, 1, none⟩ = some (.int .u32 l)) :
    Calls Try.prog 43 #[.pointer (some ⟨wb, 0, none⟩)] w fun e w' => e = .returned (.agg #[.int .u32 o, .int .u32 l]) ∧ Below w.heap.size w w' := by
  have hlt := lt_of_cell c0
  have hlt1 := lt_of_cell c1
  go_enter Try.func43, Try.ntmps43
  go_wp2_with fail
  refine (sglPos _ o l _ (cell_later (by go_grown) c2) (cell_later (by go_grown) c3)).mono ?_
  rintro e w1 ⟨rfl, hb⟩
  obtain ⟨hc, hf⟩ := bcell hb
  have hz : w.heap.size < w1.heap.size := by have := hb.size; simp at this; omega
  go_wp2
  refine bodyPost_ret (v := .agg #[.int .u32 o, .int .u32 l]) (by simp [results, Try.results43, go_sem, hc, hz]) rfl ⟨rfl, ?_⟩
  exact (((((Below.refl _ _).alloc (Nat.le_refl _) _).trans (hb.mono (by simp))).setCell (by simp) _).setCell (by simp) _)
set_option maxRecDepth 100000 in
theorem wEndL (wb pb lb : Nat) (o l : Int) (w : World) (c0 : w.cell? ⟨wb, 0, none⟩ = some (.slice (some ⟨pb, 0, none⟩) 2 2)) (c1 : w.cell? ⟨pb, 1, none⟩ = some (.iface 55 (.pointer (some ⟨lb, 0, none⟩)))) (d0 : w.cell? ⟨lb, 2, none⟩ = some (.int .u32 o)) (d1 : w.cell? ⟨lb, 3, none⟩ = some (.int .u32 l)) :
    Calls Try.prog 44 #[.pointer (some ⟨wb, 0, none⟩)] w fun e w' => e = .returned (.agg #[.int .u32 o, .int .u32 l]) ∧ Below w.heap.size w w' := by
  have h0 := lt_of_cell c0
  have h1 := lt_of_cell c1
  go_enter Try.func44, Try.ntmps44
  go_wp2
  refine wp_world (fun W => W.cell? ⟨wb, 0, none⟩ = some (.slice (some ⟨pb, 0, none⟩) 2 2) ∧ W.cell? ⟨pb, 1, none⟩ = some (.iface 55 (.pointer (some ⟨lb, 0, none⟩))) ∧ W.cell? ⟨lb, 2, none⟩ = some (.int .u32 o) ∧ W.cell? ⟨lb, 3, none⟩ = some (.int .u32 l) ∧ W.cell? ⟨w.heap.size, 0, none⟩ = some (.int .u32 0) ∧ W.cell? ⟨w.heap.size, 1, none⟩ = some (.int .u32 0) ∧ W.frozen? ⟨w.heap.size, 0, none⟩ = false ∧ W.frozen? ⟨w.heap.size, 1, none⟩ = false ∧ Below w.heap.size w W)
    ⟨cell_later (by go_grown) c0, cell_later (by go_grown) c1, cell_later (by go_grown) d0, cell_later (by go_grown) d1, by simp [go_sem], by simp [go_sem], by simp [go_sem], by simp [go_sem], by go_grown⟩ ?_
  rintro W ⟨s0, s1, s2, s3, v0, v1, v2, v3, BW⟩
  have q0 : ({ heap := W.heap, tape := W.tape, drawn := W.drawn + 1, os := W.os, output := W.output } : World).cell? ⟨wb, 0, none⟩ = some (.slice (some ⟨pb, 0, none⟩) 2 2) := s0
  have q1 : ({ heap := W.heap, tape := W.tape, drawn := W.drawn + 1, os := W.os, output := W.output } : World).cell? ⟨pb, 1, none⟩ = some (.iface 55 (.pointer (some ⟨lb, 0, none⟩))) := s1
  have x0 : IntKind.i64.wrap 1 = 1 := by decide
  go_still_tail 12, (by kernel_rfl)
  change wpList _ _ _ _ _ W.drew
  go_wp2_with fail
  refine (litEnd _ o l _ (cell_later (w := W) (by go_grown) s2) (cell_later (w := W) (by go_grown) s3)).mono ?_
  rintro e w1 ⟨rfl, rfl⟩
  have hz : w.heap.size < W.heap.size := lt_of_cell v0
  have hz1 : w.heap.size < W.heap.size + 1 := by omega
  go_wp2
  refine bodyPost_ret (v := .agg #[.int .u32 o, .int .u32 l]) (by simp [results, Try.results44, go_sem, hz, v0, v1]) rfl ⟨rfl, ?_⟩
  go_grown
set_option maxRecDepth 100000 in
theorem wEndS (wb pb lb : Nat) (o l : Int) (h0' : 0 ≤ o) (h2' : 0 ≤ l) (h3' : l ≤ 4294967295) (w : World) (c0 : w.cell? ⟨wb, 0, none⟩ = some (.slice (some ⟨pb, 0, none⟩) 2 2)) (c1 : w.cell? ⟨pb, 1, none⟩ = some (.iface 69 (.pointer (some ⟨lb, 0, none⟩)))) (d0 : w.cell? ⟨lb, 2, none⟩ = some (.int .u32 o)) (d1 : w.cell? ⟨lb, 3, none⟩ = some (.int .u32 l)) :
    Calls Try.prog 44 #[.pointer (some ⟨wb, 0, none⟩)] w fun e w' => e = .returned (.agg #[.int .u32 (pO o l 1), .int .u32 (pL o l 1)]) ∧ Below w.heap.size w w' := by
  have h0 := lt_of_cell c0
  have h1 := lt_of_cell c1
  go_enter Try.func44, Try.ntmps44
  go_wp2
  refine wp_world (fun W => W.cell? ⟨wb, 0, none⟩ = some (.slice (some ⟨pb, 0, none⟩) 2 2) ∧ W.cell? ⟨pb, 1, none⟩ = some (.iface 69 (.pointer (some ⟨lb, 0, none⟩))) ∧ W.cell? ⟨lb, 2, none⟩ = some (.int .u32 o) ∧ W.cell? ⟨lb, 3, none⟩ = some (.int .u32 l) ∧ W.cell? ⟨w.heap.size, 0, none⟩ = some (.int .u32 0) ∧ W.cell? ⟨w.heap.size, 1, none⟩ = some (.int .u32 0) ∧ W.frozen? ⟨w.heap.size, 0, none⟩ = false ∧ W.frozen? ⟨w.heap.size, 1, none⟩ = false ∧ Below w.heap.size w W)
    ⟨cell_later (by go_grown) c0, cell_later (by go_grown) c1, cell_later (by go_grown) d0, cell_later (by go_grown) d1, by simp [go_sem], by simp [go_sem], by simp [go_sem], by simp [go_sem], by go_grown⟩ ?_
  rintro W ⟨s0, s1, s2, s3, v0, v1, v2, v3, BW⟩
  have q0 : ({ heap := W.heap, tape := W.tape, drawn := W.drawn + 1, os := W.os, output := W.output } : World).cell? ⟨wb, 0, none⟩ = some (.slice (some ⟨pb, 0, none⟩) 2 2) := s0
  have q1 : ({ heap := W.heap, tape := W.tape, drawn := W.drawn + 1, os := W.os, output := W.output } : World).cell? ⟨pb, 1, none⟩ = some (.iface 69 (.pointer (some ⟨lb, 0, none⟩))) := s1
  have x0 : IntKind.i64.wrap 1 = 1 := by decide
  go_still_tail 12, (by kernel_rfl)
  change wpList _ _ _ _ _ W.drew
  go_wp2_with fail
  refine (sglEnd _ o l _ h0' h2' h3' (cell_later (w := W) (by go_grown) s2) (cell_later (w := W) (by go_grown) s3)).mono ?_
  rintro e w1 ⟨rfl, hb0⟩
  have hb : Below W.heap.size W w1 := ⟨hb0.os, hb0.tape, hb0.output, hb0.size, hb0.block⟩
  clear hb0
  have hz : w.heap.size < W.heap.size := lt_of_cell v0
  have u0 : w1.cell? ⟨w.heap.size, 0, none⟩ = some (.int .u32 0) := cell_later hb v0
  have u1 : w1.cell? ⟨w.heap.size, 1, none⟩ = some (.int .u32 0) := cell_later hb v1
  have u2 : w1.frozen? ⟨w.heap.size, 0, none⟩ = false := (hb.frozen (p := ⟨w.heap.size, 0, none⟩) hz).trans v2
  have u3 : w1.frozen? ⟨w.heap.size, 1, none⟩ = false := (hb.frozen (p := ⟨w.heap.size, 1, none⟩) hz).trans v3
  have hz1 := lt_of_cell u0
  have BW1 : Below w.heap.size w w1 := Below.trans BW (Below.mono hb BW.size)
  clear hb
  go_wp2
  refine bodyPost_ret (v := .agg #[.int .u32 (pO o l 1), .int .u32 (pL o l 1)]) (by simp [results, Try.results44, go_sem, hz1, u0, u1]) rfl ⟨rfl, ?_⟩
  go_grown

set_option maxRecDepth 100000 in
theorem wLitS (wb pb : Nat) (v : Value) (w : World) (c0 : w.cell? ⟨wb, 0, none⟩ = some (.slice (some ⟨pb, 0, none⟩) 2 2)) (c1 : w.cell? ⟨pb, 0, none⟩ = some (.iface 69 v)) :
    Calls Try.prog 46 #[.pointer (some ⟨wb, 0, none⟩)] w fun e w' => e = .returned (.string ⟨#[]⟩) ∧ Below w.heap.size w w' := by
  have h0 := lt_of_cell c0
  have h1 := lt_of_cell c1
  have hmk : ∀ w : World, (Instr.makeSlice 93 (.int .i64 0) (.int .i64 1)).run Try.prog w = .ok (.slice (some ⟨w.heap.size, 0, none⟩) 0 1) (w.alloc (.cells #[.string ⟨#[]⟩] 9)) := fun _ => by kernel_rfl
  have hta : ∀ (v : Value) (w : World), (Instr.typeAssert (.iface 69 v) 92 55 true).run Try.prog w = .ok (.tuple #[.pointer none, .bool false]) w := fun _ _ => by kernel_rfl
  go_enter Try.func46, Try.ntmps46
  go_wp2
  clear hmk
  refine wp_loop_rounds 1 ?_
  rw [rounds_succ]
  go_wp2
  go_ret
  exact ⟨rfl, by go_grown⟩
set_option maxRecDepth 100000 in
theorem wLitL (wb pb lb : Nat) (v : Value) (s : ByteArray) (w : World) (c0 : w.cell? ⟨wb, 0, none⟩ = some (.slice (some ⟨pb, 0, none⟩) 2 2)) (c1 : w.cell? ⟨pb, 0, none⟩ = some (.iface 55 (.pointer (some ⟨lb, 0, none⟩)))) (c2 : w.cell? ⟨pb, 1, none⟩ = some (.iface 69 v)) (c3 : w.cell? ⟨lb, 4, none⟩ = some (.string s)) :
    Calls Try.prog 46 #[.pointer (some ⟨wb, 0, none⟩)] w fun e w' => e = .returned (.string ⟨#[]⟩) ∧ Below w.heap.size w w' := by
  have h0 := lt_of_cell c0
  have h1 := lt_of_cell c1
  have h3 := lt_of_cell c3
  have h11 : pb < w.heap.size + 1 := by omega
  have h12 : pb < w.heap.size + 1 + 1 := by omega
  have h31 : lb < w.heap.size + 1 := by omega
  have hmk : ∀ w : World, (Instr.makeSlice 93 (.int .i64 0) (.int .i64 1)).run Try.prog w = .ok (.slice (some ⟨w.heap.size, 0, none⟩) 0 1) (w.alloc (.cells #[.string ⟨#[]⟩] 9)) := fun _ => by kernel_rfl
  have hta : ∀ (v : Value) (w : World), (Instr.typeAssert (.iface 69 v) 92 55 true).run Try.prog w = .ok (.tuple #[.pointer none, .bool false]) w := fun _ _ => by kernel_rfl
  have htb : ∀ (v : Value) (w : World), (Instr.typeAssert (.iface 55 v) 92 55 true).run Try.prog w = .ok (.tuple #[v, .bool true]) w := fun _ _ => by kernel_rfl
  go_enter Try.func46, Try.ntmps46
  go_wp2
  clear hmk
  refine wp_loop_rounds 2 ?_
  rw [rounds_succ]
  go_wp2
  rw [rounds_succ]
  go_wp2
  go_ret
  exact ⟨rfl, by go_grown⟩
theorem mkLS (x y : Nat) (w : World) : Calls Try.prog 42 #[.pointer (some ⟨x, 0, none⟩), .pointer (some ⟨y, 0, none⟩)] w fun e w' => e = .returned (.pointer (some ⟨w.heap.size + 1, 0, none⟩)) ∧ (w.alloc (.cells #[.iface 55 (.pointer (some ⟨x, 0, none⟩)), .iface 69 (.pointer (some ⟨y, 0, none⟩))] 92)).alloc (.cells #[.slice (some ⟨w.heap.size, 0, none⟩) 2 2] 77) = w' := by
  go_enter Try.func42, Try.ntmps42
  go_wp2
  go_ret
  exact ⟨rfl, rfl⟩
theorem mkSL (x y : Nat) (w : World) : Calls Try.prog 47 #[.pointer (some ⟨x, 0, none⟩), .pointer (some ⟨y, 0, none⟩)] w fun e w' => e = .returned (.pointer (some ⟨w.heap.size + 1, 0, none⟩)) ∧ (w.alloc (.cells #[.iface 69 (.pointer (some ⟨x, 0, none⟩)), .iface 55 (.pointer (some ⟨y, 0, none⟩))] 92)).alloc (.cells #[.slice (some ⟨w.heap.size, 0, none⟩) 2 2] 77) = w' := by
  go_enter Try.func47, Try.ntmps47
  go_wp2
  go_ret
  exact ⟨rfl, rfl⟩
end Go.Proofs.Ytccnpgmceoojmaa.mix
