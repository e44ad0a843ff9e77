/-
  wordOne and call: the command has no assignments and one word, and both start where the literal starts: for every position and every text.
-/
import Derived.Test.YtccnpgmceoojmacWone
import Derived.Deep.RegionHeld3
import Derived.Lib.Builder
namespace Go.Proofs.Ytccnpgmceoojmac.wone
open Go.RowKit

set_option maxRecDepth 100000 in
set_option maxHeartbeats 4000000 in
theorem law (o ln c : Int) (s : ByteArray) (w : World) (h0 : 0 ≤ o ∧ o ≤ 4294967295) (h1 : 0 ≤ ln ∧ ln ≤ 4294967295) (h2 : 0 ≤ c ∧ c ≤ 4294967295) :
    Calls Try.prog 8 #[.int .u32 o, .int .u32 ln, .int .u32 c, .string s] w fun e w' => e = .returned (.bool true) ∧ Below w.heap.size w w' := by
  by_cases hs : 1048576 < (s.size : Int)
  · go_enter Try.func8, Try.ntmps8
    go_wp2_with (go_at_call 33; refine (zzBig _ _ _ _ _ hs).mono ?_; rintro e w' ⟨rfl, rfl⟩)
    go_ret
    exact ⟨rfl, Below.refl _ _⟩
  go_enter Try.func8, Try.ntmps8
  go_wp2_with (go_at_call 33; refine (zzSmall _ _ _ _ _ hs).mono ?_; rintro e w' ⟨rfl, rfl⟩)
  refine (newPos o ln c w h0.1 h0.2 h1.1 h1.2 h2.1 h2.2).mono ?_
  rintro e w1 ⟨⟨a, b, rfl⟩, hb1⟩
  go_wp2_with fail
  refine calls_world (fun W => W.cell? ⟨w1.heap.size, 0, none⟩ = some (.int .u32 a) ∧ W.cell? ⟨w1.heap.size, 1, none⟩ = some (.int .u32 b) ∧ W.cell? ⟨w1.heap.size + 1, 0, none⟩ = some (.int .u32 a) ∧ W.cell? ⟨w1.heap.size + 1, 1, none⟩ = some (.int .u32 b) ∧ w1.heap.size + 1 < W.heap.size ∧ Below w.heap.size w W)
    ⟨by simp [go_sem], by simp [go_sem], by simp [go_sem], by simp [go_sem], by simp, below_next hb1 (by go_grown)⟩ ?_
  rintro W ⟨s0, s1, s2, s3, hz, BW⟩
  refine (new0 W).mono ?_
  rintro e w2 ⟨rfl, p1, p2, hb2⟩
  have t0 := cell_later hb2 s0
  have t1 := cell_later hb2 s1
  have t2 := cell_later hb2 s2
  have t3 := cell_later hb2 s3
  have hz2 := lt_of_cell p1
  have B2 := below_next BW hb2
  clear s0 s1 s2 s3 hb2 hb1
  go_wp2_with fail
  refine (zwordOne W.heap.size (w1.heap.size + 1) w2 p1 p2).mono ?_
  rintro e w3 ⟨rfl, q0, q1, qk, hz3, hb3⟩
  have u0 := (qk w1.heap.size 0 (by omega) (by omega)).trans t0
  have u1 := (qk w1.heap.size 1 (by omega) (by omega)).trans t1
  have u2 := (qk (w1.heap.size + 1) 0 (by omega) (by omega)).trans t2
  have u3 := (qk (w1.heap.size + 1) 1 (by omega) (by omega)).trans t3
  have B3 : Below w.heap.size w w3 := Below.trans B2 (Below.mono hb3 BW.size)
  clear t0 t1 t2 t3 qk hb3 B2 BW p1 p2
  obtain ⟨j, hj⟩ : ∃ j, Try.prog.info? 74 = some j := Option.isSome_iff_exists.1 (by kernel_rfl)
  have hne : ∀ (a : Addr) (W : World), (binOp .neq 51 (.pointer (some a)) (.pointer (some a))).run Try.prog W = .ok (.bool false) W := fun a W => Lib.run_neq_ptr_same W a Try.underlying51 hj
  go_wp2_with (go_at_call 36; refine (call36 _ _ _).mono ?_; rintro e w' ⟨rfl, rfl⟩)
  refine wp_world (fun W => W.cell? ⟨w1.heap.size, 0, none⟩ = some (.int .u32 a) ∧ W.cell? ⟨w1.heap.size, 1, none⟩ = some (.int .u32 b) ∧ W.cell? ⟨w1.heap.size + 1, 0, none⟩ = some (.int .u32 a) ∧ W.cell? ⟨w1.heap.size + 1, 1, none⟩ = some (.int .u32 b) ∧ W.cell? ⟨w2.heap.size, 0, none⟩ = some (.slice (some ⟨w2.heap.size, 1, none⟩) 1 1) ∧ W.cell? ⟨w2.heap.size, 1, none⟩ = some (.iface 50 (.pointer (some ⟨w1.heap.size + 1, 0, none⟩))) ∧ W.cell? ⟨w3.heap.size, 0, none⟩ = some (.slice none 0 0) ∧ W.cell? ⟨w3.heap.size, 1, none⟩ = some (.slice (some ⟨w3.heap.size, 2, none⟩) 1 4) ∧ W.cell? ⟨w3.heap.size, 2, none⟩ = some (.pointer (some ⟨w2.heap.size, 0, none⟩)) ∧ Below w.heap.size w W)
    ⟨cell_later (w := w3) (by go_grown) u0, cell_later (w := w3) (by go_grown) u1, cell_later (w := w3) (by go_grown) u2, cell_later (w := w3) (by go_grown) u3, cell_later (w := w3) (by go_grown) q0, cell_later (w := w3) (by go_grown) q1, (by first | (rw [cell_new]; rfl) | (trace_state; fail)), (by rw [cell_new]; rfl), (by rw [cell_new]; rfl), below_next B3 (by go_grown)⟩ ?_
  rintro Z ⟨s0, s1, s2, s3, s4, s5, s6, s7, s8, BW⟩
  go_region_held3 (fun W => W.cell? ⟨w1.heap.size, 0, none⟩ = some (.int .u32 a) ∧ W.cell? ⟨w1.heap.size, 1, none⟩ = some (.int .u32 b)) (exact ⟨cell_later (w := Z) (by go_grown) s0, cell_later (w := Z) (by go_grown) s1⟩) (first | (go_at_call 37; refine (wordPos w2.heap.size w2.heap.size 1 (w1.heap.size + 1) a b _ (cell_later (w := Z) (by go_grown) s4) (cell_later (w := Z) (by go_grown) s5) (cell_later (w := Z) (by go_grown) s2) (cell_later (w := Z) (by go_grown) s3)).mono ?_; rintro e w' ⟨rfl, rfl⟩) | (go_at_call 38; refine (cePos w3.heap.size w2.heap.size w2.heap.size 1 (w1.heap.size + 1) a b _ (cell_later (w := Z) (by go_grown) s6) (cell_later (w := Z) (by go_grown) s7) (cell_later (w := Z) (by go_grown) s8) (cell_later (w := Z) (by go_grown) s4) (cell_later (w := Z) (by go_grown) s5) (cell_later (w := Z) (by go_grown) s2) (cell_later (w := Z) (by go_grown) s3)).mono ?_; rintro e w' ⟨rfl, rfl⟩))
  go_wp2
  go_ret
  exact ⟨rfl, below_next BW (by go_grown)⟩
end Go.Proofs.Ytccnpgmceoojmac.wone
