/-
  A chain of stacked unary tests ends where its word ends and starts at its outermost operator, whatever its depth.
-/
import Derived.Test.YtccnpgmceoojmaaWord
namespace Go.Proofs.Ytccnpgmceoojmaa.chain
open Go.RowKit

/-- Block b is a unary test, k more of them stacked below it, the last over a word of one literal that ends at (o, l). -/
def Chain (o l : Int) (w : World) : Nat → Nat → Prop
  | 0, b => ∃ wb pb lb, w.cell? ⟨b, 3, none⟩ = some (.iface 43 (.pointer (some ⟨wb, 0, none⟩))) ∧ w.cell? ⟨wb, 0, none⟩ = some (.slice (some ⟨pb, 0, none⟩) 1 1) ∧ w.cell? ⟨pb, 0, none⟩ = some (.iface 55 (.pointer (some ⟨lb, 0, none⟩))) ∧ w.cell? ⟨lb, 2, none⟩ = some (.int .u32 o) ∧ w.cell? ⟨lb, 3, none⟩ = some (.int .u32 l)
  | k + 1, b => ∃ b', w.cell? ⟨b, 3, none⟩ = some (.iface 50 (.pointer (some ⟨b', 0, none⟩))) ∧ Chain o l w k b'
theorem Chain_later {o l : Int} {w wx : World} (hb : Below w.heap.size w wx) : ∀ (k b : Nat), Chain o l w k b → Chain o l wx k b
  | 0, b, ⟨wb, pb, lb, h0, h1, h2, h3, h4⟩ => ⟨wb, pb, lb, cell_later hb h0, cell_later hb h1, cell_later hb h2, cell_later hb h3, cell_later hb h4⟩
  | k + 1, b, ⟨b', h0, h1⟩ => ⟨b', cell_later hb h0, Chain_later hb k b' h1⟩

theorem unEndW (b wb pb lb : Nat) (o l : Int) (w : World) (c0 : w.cell? ⟨b, 3, none⟩ = some (.iface 43 (.pointer (some ⟨wb, 0, none⟩)))) (c1 : w.cell? ⟨wb, 0, none⟩ = some (.slice (some ⟨pb, 0, none⟩) 1 1)) (c2 : w.cell? ⟨pb, 0, none⟩ = some (.iface 55 (.pointer (some ⟨lb, 0, none⟩)))) (c3 : w.cell? ⟨lb, 2, none⟩ = some (.int .u32 o)) (c4 : w.cell? ⟨lb, 3, none⟩ = some (.int .u32 l)) :
    Calls Try.prog 30 #[.pointer (some ⟨b, 0, none⟩)] w fun e w' => e = .returned (.agg #[.int .u32 o, .int .u32 l]) ∧ Below w.heap.size w w' := by
  have hlt := lt_of_cell c0
  go_enter Try.func30, Try.ntmps30
  go_wp2_with fail
  refine (wordEnd _ _ _ o l _ (cell_later (by go_grown) c1) (cell_later (by go_grown) c2) (cell_later (by go_grown) c3) (cell_later (by go_grown) c4)).mono ?_
  rintro e w1 ⟨rfl, hb⟩
  obtain ⟨hc, hf⟩ := bcell hb
  have hz : w.heap.size < w1.heap.size := by have := hb.size; simp at this; omega
  go_wp2
  refine bodyPost_ret (v := .agg #[.int .u32 o, .int .u32 l]) (by simp [results, Try.results30, go_sem, hc, hz]) rfl ⟨rfl, ?_⟩
  exact (((((Below.refl _ _).alloc (Nat.le_refl _) _).trans (hb.mono (by simp))).setCell (by simp) _).setCell (by simp) _)
theorem unEnd (o l : Int) (k : Nat) : ∀ (b : Nat) (w : World), Chain o l w k b → Calls Try.prog 30 #[.pointer (some ⟨b, 0, none⟩)] w fun e w' => e = .returned (.agg #[.int .u32 o, .int .u32 l]) ∧ Below w.heap.size w w' := by
  induction k with
  | zero =>
    rintro b w ⟨wb, pb, lb, h0, h1, h2, h3, h4⟩
    exact unEndW b wb pb lb o l w h0 h1 h2 h3 h4
  | succ k ih =>
    rintro b w ⟨b', c0, hch⟩
    have IH := Lib.hid ih
    have HC := Lib.hid hch
    clear ih hch
    have hlt := lt_of_cell c0
    go_enter Try.func30, Try.ntmps30
    go_wp2_with fail
    refine (IH.out b' _ (Chain_later (by go_grown) k b' HC.out)).mono ?_
    rintro e w1 ⟨rfl, hb⟩
    obtain ⟨hc, hf⟩ := bcell hb
    have hz : w.heap.size < w1.heap.size := by have := hb.size; simp at this; omega
    go_wp2
    refine bodyPost_ret (v := .agg #[.int .u32 o, .int .u32 l]) (by simp [results, Try.results30, go_sem, hc, hz]) rfl ⟨rfl, ?_⟩
    exact (((((Below.refl _ _).alloc (Nat.le_refl _) _).trans (hb.mono (by simp))).setCell (by simp) _).setCell (by simp) _)
theorem unPos (b : Nat) (o l : Int) (w : World) (c0 : w.cell? ⟨b, 0, none⟩ = some (.int .u32 o)) (c1 : w.cell? ⟨b, 1, none⟩ = some (.int .u32 l)) :
    Calls Try.prog 31 #[.pointer (some ⟨b, 0, none⟩)] w fun e w' => e = .returned (.agg #[.int .u32 o, .int .u32 l]) ∧ w.alloc (.cells #[.int .u32 o, .int .u32 l] 26) = w' := by
  have hlt := lt_of_cell c0
  go_enter Try.func31, Try.ntmps31
  go_wp2
  go_returns
  exact ⟨rfl, rfl⟩
theorem mkPos35 (o l : Int) (w : World) : Calls Try.prog 21 #[.int .u32 o, .int .u32 l] w fun e w' => e = .returned (.agg #[.int .u32 o, .int .u32 l]) ∧ w.alloc (.cells #[.int .u32 o, .int .u32 l] 26) = w' := by
  go_enter Try.func21, Try.ntmps21
  go_wp2
  go_returns
  exact ⟨rfl, rfl⟩
theorem zOffs53 (o l : Int) (w : World) : Calls Try.prog 53 #[.agg #[.int .u32 o, .int .u32 l]] w fun e w' => e = .returned (.int .u32 o) ∧ w.alloc (.cells #[.int .u32 o, .int .u32 l] 26) = w' := by
  go_enter Try.func53, Try.ntmps53
  go_wp2
  go_ret
  exact ⟨rfl, rfl⟩
theorem zLc54 (o l : Int) (w : World) : Calls Try.prog 54 #[.agg #[.int .u32 o, .int .u32 l]] w fun e w' => e = .returned (.int .u32 l) ∧ w.alloc (.cells #[.int .u32 o, .int .u32 l] 26) = w' := by
  go_enter Try.func54, Try.ntmps54
  go_wp2
  go_ret
  exact ⟨rfl, rfl⟩
theorem is27 (o l : Int) (w : World) : Calls Try.prog 27 #[.agg #[.int .u32 o, .int .u32 l], .int .u32 o, .int .u32 l] w fun e w' => e = .returned (.bool true) ∧ ((w.alloc (.cells #[.int .u32 o, .int .u32 l] 26)).alloc (.cells #[.int .u32 o, .int .u32 l] 26)).alloc (.cells #[.int .u32 o, .int .u32 l] 26) = w' := by
  go_enter Try.func27, Try.ntmps27
  go_wp2_with (first | (go_at_call 53; refine (zOffs53 _ _ _).mono ?_; rintro e w' ⟨rfl, rfl⟩) | (go_at_call 54; refine (zLc54 _ _ _).mono ?_; rintro e w' ⟨rfl, rfl⟩))
  go_ret
  exact ⟨rfl, rfl⟩
theorem unWord (o l : Int) (x : Nat) (w : World) : Calls Try.prog 28 #[.agg #[.int .u32 o, .int .u32 l], .pointer (some ⟨x, 0, none⟩)] w fun e w' => e = .returned (.pointer (some ⟨w.heap.size + 1, 0, none⟩)) ∧ (w.alloc (.cells #[.int .u32 o, .int .u32 l] 26)).alloc (.cells #[.int .u32 o, .int .u32 l, .int .u32 125, .iface 43 (.pointer (some ⟨x, 0, none⟩))] 90) = w' := by
  go_enter Try.func28, Try.ntmps28
  go_wp2
  go_ret
  exact ⟨rfl, rfl⟩
theorem unUn (o l : Int) (x : Nat) (w : World) : Calls Try.prog 29 #[.agg #[.int .u32 o, .int .u32 l], .pointer (some ⟨x, 0, none⟩)] w fun e w' => e = .returned (.pointer (some ⟨w.heap.size + 1, 0, none⟩)) ∧ (w.alloc (.cells #[.int .u32 o, .int .u32 l] 26)).alloc (.cells #[.int .u32 o, .int .u32 l, .int .u32 39, .iface 50 (.pointer (some ⟨x, 0, none⟩))] 90) = w' := by
  go_enter Try.func29, Try.ntmps29
  go_wp2
  go_ret
  exact ⟨rfl, rfl⟩
theorem litW (s sl e el : Int) (w : World) : Calls Try.prog 22 #[.agg #[.int .u32 s, .int .u32 sl], .agg #[.int .u32 e, .int .u32 el]] w fun r w' => r = .returned (.pointer (some ⟨w.heap.size + 1 + 1 + 1 + 1, 0, none⟩)) ∧ ((((w.alloc (.cells #[.int .u32 s, .int .u32 sl] 26)).alloc (.cells #[.int .u32 e, .int .u32 el] 26)).alloc (.cells #[.int .u32 s, .int .u32 sl, .int .u32 e, .int .u32 el, .string ⟨#[120]⟩] 57)).alloc (.cells #[.iface 55 (.pointer (some ⟨w.heap.size + 1 + 1, 0, none⟩))] 92)).alloc (.cells #[.slice (some ⟨w.heap.size + 1 + 1 + 1, 0, none⟩) 1 1] 77) = w' := by
  go_enter Try.func22, Try.ntmps22
  go_wp2
  go_ret
  exact ⟨rfl, rfl⟩

set_option maxHeartbeats 4000000 in
theorem law_one (a b c d e1 e2 f1 f2 : Int) (w : World) : Calls Try.prog 6 #[.int .i64 1, .int .u32 a, .int .u32 b, .int .u32 c, .int .u32 d, .int .u32 e1, .int .u32 e2, .int .u32 f1, .int .u32 f2] w fun e w' => e = .returned (.bool true) ∧ Below w.heap.size w w' := by
  go_enter Try.func6, Try.ntmps6
  go_wp2_with (first | (go_at_call 21; refine (mkPos35 _ _ _).mono ?_; rintro e w' ⟨rfl, rfl⟩) | (go_at_call 28; refine (unWord _ _ _ _).mono ?_; rintro e w' ⟨rfl, rfl⟩) | (go_at_call 22; refine (litW _ _ _ _ _).mono ?_; rintro e w' ⟨rfl, rfl⟩))
  go_wp2_with fail
  refine (unEnd f1 f2 0 _ _ ⟨w.heap.size + 1 + 1 + 1 + 1 + 1 + 1 + 1 + 1 + 1 + 1, w.heap.size + 1 + 1 + 1 + 1 + 1 + 1 + 1 + 1 + 1, w.heap.size + 1 + 1 + 1 + 1 + 1 + 1 + 1 + 1, by simp [go_sem], by simp [go_sem], by simp [go_sem], by simp [go_sem], by simp [go_sem]⟩).mono ?_
  rintro e w1 ⟨rfl, hb1⟩
  have u0 : w1.cell? ⟨w.heap.size + 1 + 1 + 1 + 1 + 1 + 1 + 1 + 1 + 1 + 1 + 1 + 1, 0, none⟩ = some (.int .u32 a) := cell_later hb1 (by simp [go_sem])
  have u1 : w1.cell? ⟨w.heap.size + 1 + 1 + 1 + 1 + 1 + 1 + 1 + 1 + 1 + 1 + 1 + 1, 1, none⟩ = some (.int .u32 b) := cell_later hb1 (by simp [go_sem])
  have B1 : Below w.heap.size w w1 := Below.trans (by go_grown) (hb1.mono (by simp; omega))
  clear hb1
  go_wp2_with (first | (go_at_call 27; refine (is27 _ _ _).mono ?_; rintro e w' ⟨rfl, rfl⟩) | (go_at_call 31; refine (unPos _ a b _ (cell_later (w := w1) (by go_grown) u0) (cell_later (w := w1) (by go_grown) u1)).mono ?_; rintro e w' ⟨rfl, rfl⟩))
  go_ret
  exact ⟨rfl, Below.trans B1 (Below.mono (by go_grown) B1.size)⟩

set_option maxHeartbeats 4000000 in
theorem law_more (n : Nat) (a b c d e1 e2 f1 f2 : Int) (w : World) (h2 : 2 ≤ n) (h3 : n ≤ 4096) : Calls Try.prog 6 #[.int .i64 (n : Int), .int .u32 a, .int .u32 b, .int .u32 c, .int .u32 d, .int .u32 e1, .int .u32 e2, .int .u32 f1, .int .u32 f2] w fun e w' => e = .returned (.bool true) ∧ Below w.heap.size w w' := by
  have t1 : ((n : Int) == 1) = false := by simp; omega
  have t2 : ¬ (n : Int) < 1 := by omega
  have t3 : ¬ (4096 : Int) < (n : Int) := by omega
  go_enter Try.func6, Try.ntmps6
  go_wp2_with (first | (go_at_call 21; refine (mkPos35 _ _ _).mono ?_; rintro e w' ⟨rfl, rfl⟩) | (go_at_call 28; refine (unWord _ _ _ _).mono ?_; rintro e w' ⟨rfl, rfl⟩) | (go_at_call 22; refine (litW _ _ _ _ _).mono ?_; rintro e w' ⟨rfl, rfl⟩))
  go_loopw [22, 23] (fun u i wr => ∃ (k b' : Nat), k + 2 ≤ n ∧ i = .int .i64 ((k + 2 : Nat) : Int) ∧ u = .pointer (some ⟨b', 0, none⟩) ∧ Chain f1 f2 wr k b' ∧ wr.cell? ⟨w.heap.size + 1, 0, none⟩ = some (.int .u32 a) ∧ wr.cell? ⟨w.heap.size + 1, 1, none⟩ = some (.int .u32 b) ∧ wr.cell? ⟨w.heap.size + 1 + 1 + 1, 0, none⟩ = some (.int .u32 c) ∧ wr.cell? ⟨w.heap.size + 1 + 1 + 1, 1, none⟩ = some (.int .u32 d) ∧ Below w.heap.size w wr) (fun _ i _ => n - (intOf i).toNat)
  case atStart =>
    refine ⟨0, w.heap.size + 1 + 1 + 1 + 1 + 1 + 1 + 1 + 1 + 1 + 1 + 1 + 1, by omega, rfl, rfl, ⟨w.heap.size + 1 + 1 + 1 + 1 + 1 + 1 + 1 + 1 + 1 + 1, w.heap.size + 1 + 1 + 1 + 1 + 1 + 1 + 1 + 1 + 1, w.heap.size + 1 + 1 + 1 + 1 + 1 + 1 + 1 + 1, ?_⟩, ?_⟩
    · exact ⟨by simp [go_sem], by simp [go_sem], by simp [go_sem], by simp [go_sem], by simp [go_sem]⟩
    · exact ⟨by simp [go_sem], by simp [go_sem], by simp [go_sem], by simp [go_sem], by go_grown⟩
  case round =>
    obtain ⟨k, b', hk, rfl, rfl, hch, s0, s1, s2, s3, BW⟩ := hrel
    have HC := Lib.hid hch
    clear hch
    have z0 := lt_of_cell s0
    have z2 := lt_of_cell s2
    by_cases hlt : k + 2 < n
    · go_wp2_with (go_at_call 29; refine (unUn _ _ _ _).mono ?_; rintro e w' ⟨rfl, rfl⟩)
      go_roundw
      case rel => exact ⟨k + 1, wr.heap.size + 1, by omega, by go_num, rfl, ⟨b', by simp [go_sem], Chain_later (w := wr) (by go_grown) k b' HC.out⟩, cell_later (w := wr) (by go_grown) s0, cell_later (w := wr) (by go_grown) s1, cell_later (w := wr) (by go_grown) s2, cell_later (w := wr) (by go_grown) s3, Below.trans BW (Below.mono (by go_grown) BW.size)⟩
      case measure => simp [intOf]; omega
    · obtain rfl : n = k + 2 := by omega
      go_wp2_with (go_at_call 29; refine (unUn _ _ _ _).mono ?_; rintro e w' ⟨rfl, rfl⟩)
      refine (unEnd f1 f2 (k + 1) _ _ ⟨b', by simp [go_sem], Chain_later (w := wr) (by go_grown) k b' HC.out⟩).mono ?_
      rintro e w1 ⟨rfl, hb1⟩
      have u0 : w1.cell? ⟨wr.heap.size + 1, 0, none⟩ = some (.int .u32 a) := cell_later hb1 (by simp [go_sem])
      have u1 : w1.cell? ⟨wr.heap.size + 1, 1, none⟩ = some (.int .u32 b) := cell_later hb1 (by simp [go_sem])
      have B1 : Below w.heap.size w w1 := Below.trans (Below.trans BW (Below.mono (by go_grown) BW.size)) (hb1.mono (by have := BW.size; simp; omega))
      clear hb1
      go_wp2_with (first | (go_at_call 27; refine (is27 _ _ _).mono ?_; rintro e w' ⟨rfl, rfl⟩) | (go_at_call 31; refine (unPos _ a b _ (cell_later (w := w1) (by go_grown) u0) (cell_later (w := w1) (by go_grown) u1)).mono ?_; rintro e w' ⟨rfl, rfl⟩))
      go_ret
      exact ⟨rfl, Below.trans B1 (Below.mono (by go_grown) B1.size)⟩

theorem law6 (n : Int) (a b c d e1 e2 f1 f2 : Int) (w : World) : Calls Try.prog 6 #[.int .i64 n, .int .u32 a, .int .u32 b, .int .u32 c, .int .u32 d, .int .u32 e1, .int .u32 e2, .int .u32 f1, .int .u32 f2] w fun e w' => e = .returned (.bool true) ∧ Below w.heap.size w w' := by
  by_cases h1 : n < 1
  · go_enter Try.func6, Try.ntmps6
    go_wp2
    go_ret
    exact ⟨rfl, Below.refl _ _⟩
  by_cases h2 : 4096 < n
  · go_enter Try.func6, Try.ntmps6
    go_wp2
    go_ret
    exact ⟨rfl, Below.refl _ _⟩
  by_cases h3 : n = 1
  · subst h3
    exact law_one a b c d e1 e2 f1 f2 w
  obtain ⟨m, rfl⟩ := Int.eq_ofNat_of_zero_le (show 0 ≤ n by omega)
  exact law_more m a b c d e1 e2 f1 f2 w (by omega) (by omega)
end Go.Proofs.Ytccnpgmceoojmaa.chain
