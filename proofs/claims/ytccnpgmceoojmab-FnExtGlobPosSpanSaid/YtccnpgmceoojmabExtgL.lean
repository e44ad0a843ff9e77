/-
  An extended glob laid out as the parser lays it starts at its operator and spans its text: for every layout with room.
-/
import Derived.Test.YtccnpgmceoojmabExtg
namespace Go.Proofs.Ytccnpgmceoojmab.extg
open Go.RowKit

theorem then_world {K Q : _} {e : Exit} {a : Act} {w : World} (S : World → Prop) (hS : S w) (h : ∀ W, S W → Exit.then K Q e a W) : Exit.then K Q e a w := h w hS
set_option maxRecDepth 100000 in
set_option maxHeartbeats 4000000 in
theorem mainA (o ln op : Int) (n : Nat) (s : ByteArray) (w : World) (hn : s.size = n) (hn1 : n ≤ 1048576) (ho : 0 ≤ o) (ho2 : o + 3 + n ≤ 4294967284) (hl1 : 1 ≤ ln) (hl2 : ln ≤ 262143) (hop : 0 ≤ op ∧ op ≤ 255)  :
    Calls Try.prog 7 #[.int .u32 o, .int .u32 ln, .int .u32 0, .int .u8 op, .string s] w fun e w' => e = .returned (.bool true) ∧ Below w.heap.size w w' := by
  have q1 : (ln == 0) = false := by simp; omega
  have m0 : bits .or .u32 (ln * 16384) 0 = ln * 16384 := by have := or_line ln 0 (by omega) (by omega) (by omega) (by omega); omega
  have hv : vB (o + 2 + n) (ln * 16384) = true := by simp [vB]; omega
  have HP := Lib.hid (show pO (o + 2 + n) (ln * 16384) 1 = o + 3 + n by unfold pO; rw [if_pos hv, if_neg (by omega)]; omega)
  have HL := Lib.hid (show pL (o + 2 + n) (ln * 16384) 1 = ln * 16384 by unfold pL pC; rw [if_pos hv]; first | (rw [if_pos (by omega)]; omega) | (rw [if_neg (by omega)]; omega))
  have x1 : IntKind.u32.wrap (o + 2) = o + 2 := IntWalk.u32_in _ (by omega)
  have x2 : IntKind.u32.wrap (o + 2 + (n : Int)) = o + 2 + n := IntWalk.u32_in _ (by omega)
  have x3 : IntKind.u32.wrap (ln * 16384) = ln * 16384 := IntWalk.u32_in _ (by omega)
  have HS := Lib.hid hn
  have hsz : (s.size : Int) ≤ 1048576 := by omega
  subst hn
  go_enter Try.func7, Try.ntmps7
  go_wp2_with (first | (go_at_call 31; refine (mkPos27 _ _ _).mono ?_; rintro e w' ⟨rfl, rfl⟩) | go_in)
  refine wp_world (fun W => W.cell? ⟨w.heap.size + 1, 0, none⟩ = some (.int .u32 o) ∧ W.cell? ⟨w.heap.size + 1, 1, none⟩ = some (.int .u32 (ln * 16384)) ∧ Below w.heap.size w W)
    ⟨by simp [go_sem], by simp [go_sem], by go_grown⟩ ?_
  rintro W ⟨s0, s1, BW⟩
  go_region_held3 (fun W => W.cell? ⟨w.heap.size + 1, 0, none⟩ = some (.int .u32 o) ∧ W.cell? ⟨w.heap.size + 1, 1, none⟩ = some (.int .u32 (ln * 16384))) (exact ⟨cell_later (w := W) (by go_grown) s0, cell_later (w := W) (by go_grown) s1⟩) (first | (go_at_call 31; refine (mkPos27 _ _ _).mono ?_; rintro e w' ⟨rfl, rfl⟩) | (go_at_call 32; refine (newEG _ _ _ _ _ _ _ _ _).mono ?_; rintro e w' ⟨rfl, rfl⟩))
  refine then_world (fun V => V.cell? ⟨w.heap.size + 1, 0, none⟩ = some (.int .u32 o) ∧ V.cell? ⟨w.heap.size + 1, 1, none⟩ = some (.int .u32 (ln * 16384)) ∧ V.cell? ⟨W.heap.size + 1 + 1 + 1 + 1 + 1 + 1, 0, none⟩ = some (.int .u32 o) ∧ V.cell? ⟨W.heap.size + 1 + 1 + 1 + 1 + 1 + 1, 1, none⟩ = some (.int .u32 (ln * 16384)) ∧ V.cell? ⟨W.heap.size + 1 + 1 + 1 + 1 + 1 + 1, 3, none⟩ = some (.pointer (some ⟨W.heap.size + 1 + 1 + 1 + 1 + 1, 0, none⟩)) ∧ V.cell? ⟨W.heap.size + 1 + 1 + 1 + 1 + 1, 2, none⟩ = some (.int .u32 (o + 2 + (s.size : Int))) ∧ V.cell? ⟨W.heap.size + 1 + 1 + 1 + 1 + 1, 3, none⟩ = some (.int .u32 (ln * 16384)) ∧ Below w.heap.size w V)
    ⟨cell_later (w := W) (by go_grown) s0, cell_later (w := W) (by go_grown) s1, by simp [go_sem], by simp [go_sem], by simp [go_sem], by simp [go_sem], by simp [go_sem], Below.trans BW (Below.mono (by go_grown) BW.size)⟩ ?_
  rintro V ⟨v0, v1, v2, v3, v4, v5, v6, BV⟩
  clear BW s0 s1
  have hlv := lt_of_cell v0
  obtain ⟨k1, k2, k3, k4, k5, k6, k7, k8, k9, k10, k11, k12, k13, k14, k15, k16, k17, k18, k19, k20⟩ := lts hlv
  go_wp2_with (first | (go_at_call 33; refine (egPos (W.heap.size + 1 + 1 + 1 + 1 + 1 + 1) o (ln * 16384) _ (cell_later (w := V) (by go_grown) v2) (cell_later (w := V) (by go_grown) v3)).mono ?_; rintro e w' ⟨rfl, rfl⟩) | (go_at_call 34; refine (egEnd (W.heap.size + 1 + 1 + 1 + 1 + 1 + 1) (W.heap.size + 1 + 1 + 1 + 1 + 1) (o + 2 + (s.size : Int)) (ln * 16384) _ (by omega) (by omega) (by omega) hv (cell_later (w := V) (by go_grown) v4) (cell_later (w := V) (by go_grown) v5) (cell_later (w := V) (by go_grown) v6)).mono ?_; rintro e w' ⟨rfl, rfl⟩))
  refine wp_world (fun X => X.cell? ⟨V.heap.size + 1, 0, none⟩ = some (.int .u32 o) ∧ X.cell? ⟨V.heap.size + 1, 1, none⟩ = some (.int .u32 (ln * 16384)) ∧ X.cell? ⟨V.heap.size + 1 + 1 + 1 + 1 + 1 + 1 + 1 + 1, 0, none⟩ = some (.int .u32 (o + 3 + (s.size : Int))) ∧ X.cell? ⟨V.heap.size + 1 + 1 + 1 + 1 + 1 + 1 + 1 + 1, 1, none⟩ = some (.int .u32 (ln * 16384)) ∧ Below w.heap.size w X)
    ⟨by simp [go_sem], by simp [go_sem], by simp [go_sem, HP.out], by simp [go_sem, HL.out], Below.trans BV (Below.mono (by go_grown) BV.size)⟩ ?_
  rintro X ⟨x0, x1, x2, x3, BX⟩
  clear BV v0 v1 v2 v3 v4 v5 v6 hv HP HL
  obtain ⟨E, hE⟩ : ∃ E : Int, o + 3 + (s.size : Int) = E := ⟨_, rfl⟩
  rw [hE] at x2
  have b1 : 0 ≤ E := by omega
  have b2 : E ≤ 4294967295 := by omega
  have o1 : oI E = E := by unfold oI; rw [if_neg (by omega)]
  have o2 : oI o = o := by unfold oI; rw [if_neg (by omega)]
  have u0 : IntKind.u64.wrap 3 = 3 := IntWalk.u64_in _ (by omega)
  have u1 : IntKind.u64.wrap (E - o) = E - o := IntWalk.u64_in _ (by omega)
  have u2 : IntKind.u64.wrap (s.size : Int) = (s.size : Int) := IntWalk.u64_in _ (by omega)
  have u3 : IntKind.u64.wrap ((s.size : Int) + 3) = (s.size : Int) + 3 := IntWalk.u64_in _ (by omega)
  have u4 : (E - o != (s.size : Int) + 3) = false := by simp; omega
  have u5 : decide (E < o) = false := decide_eq_false (by omega)
  clear hE
  go_region_held3 (fun W => W.cell? ⟨V.heap.size + 1, 0, none⟩ = some (.int .u32 o) ∧ W.cell? ⟨V.heap.size + 1, 1, none⟩ = some (.int .u32 (ln * 16384)) ∧ W.cell? ⟨V.heap.size + 1 + 1 + 1 + 1 + 1 + 1 + 1 + 1, 0, none⟩ = some (.int .u32 E) ∧ W.cell? ⟨V.heap.size + 1 + 1 + 1 + 1 + 1 + 1 + 1 + 1, 1, none⟩ = some (.int .u32 (ln * 16384))) (exact ⟨cell_later (w := X) (by go_grown) x0, cell_later (w := X) (by go_grown) x1, cell_later (w := X) (by go_grown) x2, cell_later (w := X) (by go_grown) x3⟩) (first | (go_at_call 17; refine (offset _ _ _ (by omega) (by omega)).mono ?_; rintro e w' ⟨rfl, rfl⟩))
  refine then_world (fun Y => Y.cell? ⟨V.heap.size + 1, 0, none⟩ = some (.int .u32 o) ∧ Y.cell? ⟨V.heap.size + 1, 1, none⟩ = some (.int .u32 (ln * 16384)) ∧ Y.cell? ⟨V.heap.size + 1 + 1 + 1 + 1 + 1 + 1 + 1 + 1, 0, none⟩ = some (.int .u32 E) ∧ Y.cell? ⟨V.heap.size + 1 + 1 + 1 + 1 + 1 + 1 + 1 + 1, 1, none⟩ = some (.int .u32 (ln * 16384)) ∧ Below w.heap.size w Y)
    ⟨cell_later (w := X) (by go_grown) x0, cell_later (w := X) (by go_grown) x1, cell_later (w := X) (by go_grown) x2, cell_later (w := X) (by go_grown) x3, Below.trans BX (Below.mono (by go_grown) BX.size)⟩ ?_
  rintro Y ⟨y0, y1, y2, y3, BY⟩
  clear u0 u1 u2 u3 u4 u5 o1 o2 x0 x1 x2 x3 BX
  go_wp2_with fail
  have u6 : ((ln * 16384) / 16384 != (ln * 16384) / 16384) = false := by simp <;> omega
  go_region_held3 (fun W => W.cell? ⟨V.heap.size + 1, 0, none⟩ = some (.int .u32 o) ∧ W.cell? ⟨V.heap.size + 1, 1, none⟩ = some (.int .u32 (ln * 16384)) ∧ W.cell? ⟨V.heap.size + 1 + 1 + 1 + 1 + 1 + 1 + 1 + 1, 0, none⟩ = some (.int .u32 E) ∧ W.cell? ⟨V.heap.size + 1 + 1 + 1 + 1 + 1 + 1 + 1 + 1, 1, none⟩ = some (.int .u32 (ln * 16384))) (exact ⟨cell_later (w := Y) (by go_grown) y0, cell_later (w := Y) (by go_grown) y1, cell_later (w := Y) (by go_grown) y2, cell_later (w := Y) (by go_grown) y3⟩) (first | (go_at_call 20; refine (line _ _ _ (by omega) (by omega)).mono ?_; rintro e w' ⟨rfl, rfl⟩))
  go_wp2
  go_ret
  exact ⟨rfl, Below.trans BY (Below.mono (by go_grown) BY.size)⟩
set_option maxRecDepth 100000 in
set_option maxHeartbeats 4000000 in
theorem mainB (o ln c op : Int) (n : Nat) (s : ByteArray) (w : World) (hn : s.size = n) (hn1 : n ≤ 1048576) (ho : 0 ≤ o) (ho2 : o + 3 + n ≤ 4294967284) (hl1 : 1 ≤ ln) (hl2 : ln ≤ 262143) (hop : 0 ≤ op ∧ op ≤ 255) (hc1 : 1 ≤ c) (hc2 : c ≤ 16383) (hB : 16383 < c + 2) :
    Calls Try.prog 7 #[.int .u32 o, .int .u32 ln, .int .u32 c, .int .u8 op, .string s] w fun e w' => e = .returned (.bool true) ∧ Below w.heap.size w w' := by
  have q1 : (ln == 0) = false := by simp; omega
  have q2 : (c != 0) = true := by simp; omega
  have g1 : ¬ c + 2 ≤ 16383 := by omega
  have g2 : ¬ c + 2 + (n : Int) ≤ 16383 := by omega
  have g3 : ¬ c + 3 + (n : Int) ≤ 16383 := by omega
  have m0 : bits .or .u32 (ln * 16384) 0 = ln * 16384 := by have := or_line ln 0 (by omega) (by omega) (by omega) (by omega); omega
  have m1 : bits .or .u32 (ln * 16384) (c) = ln * 16384 + c := or_line ln (c) (by omega) (by omega) (by omega) (by omega)
  have hv : vB (o + 2 + n) (ln * 16384) = true := by simp [vB]; omega
  have HP := Lib.hid (show pO (o + 2 + n) (ln * 16384) 1 = o + 3 + n by unfold pO; rw [if_pos hv, if_neg (by omega)]; omega)
  have HL := Lib.hid (show pL (o + 2 + n) (ln * 16384) 1 = ln * 16384 by unfold pL pC; rw [if_pos hv]; first | (rw [if_pos (by omega)]; omega) | (rw [if_neg (by omega)]; omega))
  have x1 : IntKind.u32.wrap (o + 2) = o + 2 := IntWalk.u32_in _ (by omega)
  have x2 : IntKind.u32.wrap (o + 2 + (n : Int)) = o + 2 + n := IntWalk.u32_in _ (by omega)
  have x3 : IntKind.u32.wrap (ln * 16384) = ln * 16384 := IntWalk.u32_in _ (by omega)
  have HS := Lib.hid hn
  have hsz : (s.size : Int) ≤ 1048576 := by omega
  subst hn
  go_enter Try.func7, Try.ntmps7
  go_wp2_with (first | (go_at_call 31; refine (mkPos27 _ _ _).mono ?_; rintro e w' ⟨rfl, rfl⟩) | go_in)
  refine wp_world (fun W => W.cell? ⟨w.heap.size + 1, 0, none⟩ = some (.int .u32 o) ∧ W.cell? ⟨w.heap.size + 1, 1, none⟩ = some (.int .u32 (ln * 16384 + c)) ∧ Below w.heap.size w W)
    ⟨by simp [go_sem], by simp [go_sem], by go_grown⟩ ?_
  rintro W ⟨s0, s1, BW⟩
  go_region_held3 (fun W => W.cell? ⟨w.heap.size + 1, 0, none⟩ = some (.int .u32 o) ∧ W.cell? ⟨w.heap.size + 1, 1, none⟩ = some (.int .u32 (ln * 16384 + c))) (exact ⟨cell_later (w := W) (by go_grown) s0, cell_later (w := W) (by go_grown) s1⟩) (first | (go_at_call 31; refine (mkPos27 _ _ _).mono ?_; rintro e w' ⟨rfl, rfl⟩) | (go_at_call 32; refine (newEG _ _ _ _ _ _ _ _ _).mono ?_; rintro e w' ⟨rfl, rfl⟩))
  refine then_world (fun V => V.cell? ⟨w.heap.size + 1, 0, none⟩ = some (.int .u32 o) ∧ V.cell? ⟨w.heap.size + 1, 1, none⟩ = some (.int .u32 (ln * 16384 + c)) ∧ V.cell? ⟨W.heap.size + 1 + 1 + 1 + 1 + 1 + 1, 0, none⟩ = some (.int .u32 o) ∧ V.cell? ⟨W.heap.size + 1 + 1 + 1 + 1 + 1 + 1, 1, none⟩ = some (.int .u32 (ln * 16384 + c)) ∧ V.cell? ⟨W.heap.size + 1 + 1 + 1 + 1 + 1 + 1, 3, none⟩ = some (.pointer (some ⟨W.heap.size + 1 + 1 + 1 + 1 + 1, 0, none⟩)) ∧ V.cell? ⟨W.heap.size + 1 + 1 + 1 + 1 + 1, 2, none⟩ = some (.int .u32 (o + 2 + (s.size : Int))) ∧ V.cell? ⟨W.heap.size + 1 + 1 + 1 + 1 + 1, 3, none⟩ = some (.int .u32 (ln * 16384)) ∧ Below w.heap.size w V)
    ⟨cell_later (w := W) (by go_grown) s0, cell_later (w := W) (by go_grown) s1, by simp [go_sem], by simp [go_sem], by simp [go_sem], by simp [go_sem], by simp [go_sem], Below.trans BW (Below.mono (by go_grown) BW.size)⟩ ?_
  rintro V ⟨v0, v1, v2, v3, v4, v5, v6, BV⟩
  clear BW s0 s1
  have hlv := lt_of_cell v0
  obtain ⟨k1, k2, k3, k4, k5, k6, k7, k8, k9, k10, k11, k12, k13, k14, k15, k16, k17, k18, k19, k20⟩ := lts hlv
  go_wp2_with (first | (go_at_call 33; refine (egPos (W.heap.size + 1 + 1 + 1 + 1 + 1 + 1) o (ln * 16384 + c) _ (cell_later (w := V) (by go_grown) v2) (cell_later (w := V) (by go_grown) v3)).mono ?_; rintro e w' ⟨rfl, rfl⟩) | (go_at_call 34; refine (egEnd (W.heap.size + 1 + 1 + 1 + 1 + 1 + 1) (W.heap.size + 1 + 1 + 1 + 1 + 1) (o + 2 + (s.size : Int)) (ln * 16384) _ (by omega) (by omega) (by omega) hv (cell_later (w := V) (by go_grown) v4) (cell_later (w := V) (by go_grown) v5) (cell_later (w := V) (by go_grown) v6)).mono ?_; rintro e w' ⟨rfl, rfl⟩))
  refine wp_world (fun X => X.cell? ⟨V.heap.size + 1, 0, none⟩ = some (.int .u32 o) ∧ X.cell? ⟨V.heap.size + 1, 1, none⟩ = some (.int .u32 (ln * 16384 + c)) ∧ X.cell? ⟨V.heap.size + 1 + 1 + 1 + 1 + 1 + 1 + 1 + 1, 0, none⟩ = some (.int .u32 (o + 3 + (s.size : Int))) ∧ X.cell? ⟨V.heap.size + 1 + 1 + 1 + 1 + 1 + 1 + 1 + 1, 1, none⟩ = some (.int .u32 (ln * 16384)) ∧ Below w.heap.size w X)
    ⟨by simp [go_sem], by simp [go_sem], by simp [go_sem, HP.out], by simp [go_sem, HL.out], Below.trans BV (Below.mono (by go_grown) BV.size)⟩ ?_
  rintro X ⟨x0, x1, x2, x3, BX⟩
  clear BV v0 v1 v2 v3 v4 v5 v6 hv HP HL
  obtain ⟨E, hE⟩ : ∃ E : Int, o + 3 + (s.size : Int) = E := ⟨_, rfl⟩
  rw [hE] at x2
  have b1 : 0 ≤ E := by omega
  have b2 : E ≤ 4294967295 := by omega
  have o1 : oI E = E := by unfold oI; rw [if_neg (by omega)]
  have o2 : oI o = o := by unfold oI; rw [if_neg (by omega)]
  have u0 : IntKind.u64.wrap 3 = 3 := IntWalk.u64_in _ (by omega)
  have u1 : IntKind.u64.wrap (E - o) = E - o := IntWalk.u64_in _ (by omega)
  have u2 : IntKind.u64.wrap (s.size : Int) = (s.size : Int) := IntWalk.u64_in _ (by omega)
  have u3 : IntKind.u64.wrap ((s.size : Int) + 3) = (s.size : Int) + 3 := IntWalk.u64_in _ (by omega)
  have u4 : (E - o != (s.size : Int) + 3) = false := by simp; omega
  have u5 : decide (E < o) = false := decide_eq_false (by omega)
  clear hE
  go_region_held3 (fun W => W.cell? ⟨V.heap.size + 1, 0, none⟩ = some (.int .u32 o) ∧ W.cell? ⟨V.heap.size + 1, 1, none⟩ = some (.int .u32 (ln * 16384 + c)) ∧ W.cell? ⟨V.heap.size + 1 + 1 + 1 + 1 + 1 + 1 + 1 + 1, 0, none⟩ = some (.int .u32 E) ∧ W.cell? ⟨V.heap.size + 1 + 1 + 1 + 1 + 1 + 1 + 1 + 1, 1, none⟩ = some (.int .u32 (ln * 16384))) (exact ⟨cell_later (w := X) (by go_grown) x0, cell_later (w := X) (by go_grown) x1, cell_later (w := X) (by go_grown) x2, cell_later (w := X) (by go_grown) x3⟩) (first | (go_at_call 17; refine (offset _ _ _ (by omega) (by omega)).mono ?_; rintro e w' ⟨rfl, rfl⟩))
  refine then_world (fun Y => Y.cell? ⟨V.heap.size + 1, 0, none⟩ = some (.int .u32 o) ∧ Y.cell? ⟨V.heap.size + 1, 1, none⟩ = some (.int .u32 (ln * 16384 + c)) ∧ Y.cell? ⟨V.heap.size + 1 + 1 + 1 + 1 + 1 + 1 + 1 + 1, 0, none⟩ = some (.int .u32 E) ∧ Y.cell? ⟨V.heap.size + 1 + 1 + 1 + 1 + 1 + 1 + 1 + 1, 1, none⟩ = some (.int .u32 (ln * 16384)) ∧ Below w.heap.size w Y)
    ⟨cell_later (w := X) (by go_grown) x0, cell_later (w := X) (by go_grown) x1, cell_later (w := X) (by go_grown) x2, cell_later (w := X) (by go_grown) x3, Below.trans BX (Below.mono (by go_grown) BX.size)⟩ ?_
  rintro Y ⟨y0, y1, y2, y3, BY⟩
  clear u0 u1 u2 u3 u4 u5 o1 o2 x0 x1 x2 x3 BX
  go_wp2_with fail
  have u6 : ((ln * 16384) / 16384 != (ln * 16384 + c) / 16384) = false := by simp <;> omega
  go_region_held3 (fun W => W.cell? ⟨V.heap.size + 1, 0, none⟩ = some (.int .u32 o) ∧ W.cell? ⟨V.heap.size + 1, 1, none⟩ = some (.int .u32 (ln * 16384 + c)) ∧ W.cell? ⟨V.heap.size + 1 + 1 + 1 + 1 + 1 + 1 + 1 + 1, 0, none⟩ = some (.int .u32 E) ∧ W.cell? ⟨V.heap.size + 1 + 1 + 1 + 1 + 1 + 1 + 1 + 1, 1, none⟩ = some (.int .u32 (ln * 16384))) (exact ⟨cell_later (w := Y) (by go_grown) y0, cell_later (w := Y) (by go_grown) y1, cell_later (w := Y) (by go_grown) y2, cell_later (w := Y) (by go_grown) y3⟩) (first | (go_at_call 20; refine (line _ _ _ (by omega) (by omega)).mono ?_; rintro e w' ⟨rfl, rfl⟩))
  go_wp2
  go_ret
  exact ⟨rfl, Below.trans BY (Below.mono (by go_grown) BY.size)⟩
set_option maxRecDepth 100000 in
set_option maxHeartbeats 4000000 in
theorem mainC (o ln c op : Int) (n : Nat) (s : ByteArray) (w : World) (hn : s.size = n) (hn1 : n ≤ 1048576) (ho : 0 ≤ o) (ho2 : o + 3 + n ≤ 4294967284) (hl1 : 1 ≤ ln) (hl2 : ln ≤ 262143) (hop : 0 ≤ op ∧ op ≤ 255) (hc1 : 1 ≤ c) (hB : c + 2 ≤ 16383) (hC : 16383 < c + 2 + n) :
    Calls Try.prog 7 #[.int .u32 o, .int .u32 ln, .int .u32 c, .int .u8 op, .string s] w fun e w' => e = .returned (.bool true) ∧ Below w.heap.size w w' := by
  have q1 : (ln == 0) = false := by simp; omega
  have q2 : (c != 0) = true := by simp; omega
  have g2 : ¬ c + 2 + (n : Int) ≤ 16383 := by omega
  have g3 : ¬ c + 3 + (n : Int) ≤ 16383 := by omega
  have m0 : bits .or .u32 (ln * 16384) 0 = ln * 16384 := by have := or_line ln 0 (by omega) (by omega) (by omega) (by omega); omega
  have m1 : bits .or .u32 (ln * 16384) (c) = ln * 16384 + c := or_line ln (c) (by omega) (by omega) (by omega) (by omega)
  have m2 : bits .or .u32 (ln * 16384) (c + 2) = ln * 16384 + (c + 2) := or_line ln (c + 2) (by omega) (by omega) (by omega) (by omega)
  have hv : vB (o + 2 + n) (ln * 16384) = true := by simp [vB]; omega
  have HP := Lib.hid (show pO (o + 2 + n) (ln * 16384) 1 = o + 3 + n by unfold pO; rw [if_pos hv, if_neg (by omega)]; omega)
  have HL := Lib.hid (show pL (o + 2 + n) (ln * 16384) 1 = ln * 16384 by unfold pL pC; rw [if_pos hv]; first | (rw [if_pos (by omega)]; omega) | (rw [if_neg (by omega)]; omega))
  have x1 : IntKind.u32.wrap (o + 2) = o + 2 := IntWalk.u32_in _ (by omega)
  have x2 : IntKind.u32.wrap (o + 2 + (n : Int)) = o + 2 + n := IntWalk.u32_in _ (by omega)
  have x3 : IntKind.u32.wrap (ln * 16384) = ln * 16384 := IntWalk.u32_in _ (by omega)
  have HS := Lib.hid hn
  have hsz : (s.size : Int) ≤ 1048576 := by omega
  subst hn
  go_enter Try.func7, Try.ntmps7
  go_wp2_with (first | (go_at_call 31; refine (mkPos27 _ _ _).mono ?_; rintro e w' ⟨rfl, rfl⟩) | go_in)
  refine wp_world (fun W => W.cell? ⟨w.heap.size + 1, 0, none⟩ = some (.int .u32 o) ∧ W.cell? ⟨w.heap.size + 1, 1, none⟩ = some (.int .u32 (ln * 16384 + c)) ∧ Below w.heap.size w W)
    ⟨by simp [go_sem], by simp [go_sem], by go_grown⟩ ?_
  rintro W ⟨s0, s1, BW⟩
  go_region_held3 (fun W => W.cell? ⟨w.heap.size + 1, 0, none⟩ = some (.int .u32 o) ∧ W.cell? ⟨w.heap.size + 1, 1, none⟩ = some (.int .u32 (ln * 16384 + c))) (exact ⟨cell_later (w := W) (by go_grown) s0, cell_later (w := W) (by go_grown) s1⟩) (first | (go_at_call 31; refine (mkPos27 _ _ _).mono ?_; rintro e w' ⟨rfl, rfl⟩) | (go_at_call 32; refine (newEG _ _ _ _ _ _ _ _ _).mono ?_; rintro e w' ⟨rfl, rfl⟩))
  refine then_world (fun V => V.cell? ⟨w.heap.size + 1, 0, none⟩ = some (.int .u32 o) ∧ V.cell? ⟨w.heap.size + 1, 1, none⟩ = some (.int .u32 (ln * 16384 + c)) ∧ V.cell? ⟨W.heap.size + 1 + 1 + 1 + 1 + 1 + 1, 0, none⟩ = some (.int .u32 o) ∧ V.cell? ⟨W.heap.size + 1 + 1 + 1 + 1 + 1 + 1, 1, none⟩ = some (.int .u32 (ln * 16384 + c)) ∧ V.cell? ⟨W.heap.size + 1 + 1 + 1 + 1 + 1 + 1, 3, none⟩ = some (.pointer (some ⟨W.heap.size + 1 + 1 + 1 + 1 + 1, 0, none⟩)) ∧ V.cell? ⟨W.heap.size + 1 + 1 + 1 + 1 + 1, 2, none⟩ = some (.int .u32 (o + 2 + (s.size : Int))) ∧ V.cell? ⟨W.heap.size + 1 + 1 + 1 + 1 + 1, 3, none⟩ = some (.int .u32 (ln * 16384)) ∧ Below w.heap.size w V)
    ⟨cell_later (w := W) (by go_grown) s0, cell_later (w := W) (by go_grown) s1, by simp [go_sem], by simp [go_sem], by simp [go_sem], by simp [go_sem], by simp [go_sem], Below.trans BW (Below.mono (by go_grown) BW.size)⟩ ?_
  rintro V ⟨v0, v1, v2, v3, v4, v5, v6, BV⟩
  clear BW s0 s1
  have hlv := lt_of_cell v0
  obtain ⟨k1, k2, k3, k4, k5, k6, k7, k8, k9, k10, k11, k12, k13, k14, k15, k16, k17, k18, k19, k20⟩ := lts hlv
  go_wp2_with (first | (go_at_call 33; refine (egPos (W.heap.size + 1 + 1 + 1 + 1 + 1 + 1) o (ln * 16384 + c) _ (cell_later (w := V) (by go_grown) v2) (cell_later (w := V) (by go_grown) v3)).mono ?_; rintro e w' ⟨rfl, rfl⟩) | (go_at_call 34; refine (egEnd (W.heap.size + 1 + 1 + 1 + 1 + 1 + 1) (W.heap.size + 1 + 1 + 1 + 1 + 1) (o + 2 + (s.size : Int)) (ln * 16384) _ (by omega) (by omega) (by omega) hv (cell_later (w := V) (by go_grown) v4) (cell_later (w := V) (by go_grown) v5) (cell_later (w := V) (by go_grown) v6)).mono ?_; rintro e w' ⟨rfl, rfl⟩))
  refine wp_world (fun X => X.cell? ⟨V.heap.size + 1, 0, none⟩ = some (.int .u32 o) ∧ X.cell? ⟨V.heap.size + 1, 1, none⟩ = some (.int .u32 (ln * 16384 + c)) ∧ X.cell? ⟨V.heap.size + 1 + 1 + 1 + 1 + 1 + 1 + 1 + 1, 0, none⟩ = some (.int .u32 (o + 3 + (s.size : Int))) ∧ X.cell? ⟨V.heap.size + 1 + 1 + 1 + 1 + 1 + 1 + 1 + 1, 1, none⟩ = some (.int .u32 (ln * 16384)) ∧ Below w.heap.size w X)
    ⟨by simp [go_sem], by simp [go_sem], by simp [go_sem, HP.out], by simp [go_sem, HL.out], Below.trans BV (Below.mono (by go_grown) BV.size)⟩ ?_
  rintro X ⟨x0, x1, x2, x3, BX⟩
  clear BV v0 v1 v2 v3 v4 v5 v6 hv HP HL
  obtain ⟨E, hE⟩ : ∃ E : Int, o + 3 + (s.size : Int) = E := ⟨_, rfl⟩
  rw [hE] at x2
  have b1 : 0 ≤ E := by omega
  have b2 : E ≤ 4294967295 := by omega
  have o1 : oI E = E := by unfold oI; rw [if_neg (by omega)]
  have o2 : oI o = o := by unfold oI; rw [if_neg (by omega)]
  have u0 : IntKind.u64.wrap 3 = 3 := IntWalk.u64_in _ (by omega)
  have u1 : IntKind.u64.wrap (E - o) = E - o := IntWalk.u64_in _ (by omega)
  have u2 : IntKind.u64.wrap (s.size : Int) = (s.size : Int) := IntWalk.u64_in _ (by omega)
  have u3 : IntKind.u64.wrap ((s.size : Int) + 3) = (s.size : Int) + 3 := IntWalk.u64_in _ (by omega)
  have u4 : (E - o != (s.size : Int) + 3) = false := by simp; omega
  have u5 : decide (E < o) = false := decide_eq_false (by omega)
  clear hE
  go_region_held3 (fun W => W.cell? ⟨V.heap.size + 1, 0, none⟩ = some (.int .u32 o) ∧ W.cell? ⟨V.heap.size + 1, 1, none⟩ = some (.int .u32 (ln * 16384 + c)) ∧ W.cell? ⟨V.heap.size + 1 + 1 + 1 + 1 + 1 + 1 + 1 + 1, 0, none⟩ = some (.int .u32 E) ∧ W.cell? ⟨V.heap.size + 1 + 1 + 1 + 1 + 1 + 1 + 1 + 1, 1, none⟩ = some (.int .u32 (ln * 16384))) (exact ⟨cell_later (w := X) (by go_grown) x0, cell_later (w := X) (by go_grown) x1, cell_later (w := X) (by go_grown) x2, cell_later (w := X) (by go_grown) x3⟩) (first | (go_at_call 17; refine (offset _ _ _ (by omega) (by omega)).mono ?_; rintro e w' ⟨rfl, rfl⟩))
  refine then_world (fun Y => Y.cell? ⟨V.heap.size + 1, 0, none⟩ = some (.int .u32 o) ∧ Y.cell? ⟨V.heap.size + 1, 1, none⟩ = some (.int .u32 (ln * 16384 + c)) ∧ Y.cell? ⟨V.heap.size + 1 + 1 + 1 + 1 + 1 + 1 + 1 + 1, 0, none⟩ = some (.int .u32 E) ∧ Y.cell? ⟨V.heap.size + 1 + 1 + 1 + 1 + 1 + 1 + 1 + 1, 1, none⟩ = some (.int .u32 (ln * 16384)) ∧ Below w.heap.size w Y)
    ⟨cell_later (w := X) (by go_grown) x0, cell_later (w := X) (by go_grown) x1, cell_later (w := X) (by go_grown) x2, cell_later (w := X) (by go_grown) x3, Below.trans BX (Below.mono (by go_grown) BX.size)⟩ ?_
  rintro Y ⟨y0, y1, y2, y3, BY⟩
  clear u0 u1 u2 u3 u4 u5 o1 o2 x0 x1 x2 x3 BX
  go_wp2_with fail
  have u6 : ((ln * 16384) / 16384 != (ln * 16384 + c) / 16384) = false := by simp <;> omega
  go_region_held3 (fun W => W.cell? ⟨V.heap.size + 1, 0, none⟩ = some (.int .u32 o) ∧ W.cell? ⟨V.heap.size + 1, 1, none⟩ = some (.int .u32 (ln * 16384 + c)) ∧ W.cell? ⟨V.heap.size + 1 + 1 + 1 + 1 + 1 + 1 + 1 + 1, 0, none⟩ = some (.int .u32 E) ∧ W.cell? ⟨V.heap.size + 1 + 1 + 1 + 1 + 1 + 1 + 1 + 1, 1, none⟩ = some (.int .u32 (ln * 16384))) (exact ⟨cell_later (w := Y) (by go_grown) y0, cell_later (w := Y) (by go_grown) y1, cell_later (w := Y) (by go_grown) y2, cell_later (w := Y) (by go_grown) y3⟩) (first | (go_at_call 20; refine (line _ _ _ (by omega) (by omega)).mono ?_; rintro e w' ⟨rfl, rfl⟩))
  go_wp2
  go_ret
  exact ⟨rfl, Below.trans BY (Below.mono (by go_grown) BY.size)⟩
set_option maxRecDepth 100000 in
set_option maxHeartbeats 4000000 in
theorem mainD (o ln c op : Int) (n : Nat) (s : ByteArray) (w : World) (hn : s.size = n) (hn1 : n ≤ 1048576) (ho : 0 ≤ o) (ho2 : o + 3 + n ≤ 4294967284) (hl1 : 1 ≤ ln) (hl2 : ln ≤ 262143) (hop : 0 ≤ op ∧ op ≤ 255) (hc1 : 1 ≤ c) (hB : c + 2 + n ≤ 16383) (hC : 16383 < c + 3 + n) :
    Calls Try.prog 7 #[.int .u32 o, .int .u32 ln, .int .u32 c, .int .u8 op, .string s] w fun e w' => e = .returned (.bool true) ∧ Below w.heap.size w w' := by
  have q1 : (ln == 0) = false := by simp; omega
  have q2 : (c != 0) = true := by simp; omega
  have g1 : c + 2 ≤ 16383 := by omega
  have g3 : ¬ c + 3 + (n : Int) ≤ 16383 := by omega
  have m0 : bits .or .u32 (ln * 16384) 0 = ln * 16384 := by have := or_line ln 0 (by omega) (by omega) (by omega) (by omega); omega
  have m1 : bits .or .u32 (ln * 16384) (c) = ln * 16384 + c := or_line ln (c) (by omega) (by omega) (by omega) (by omega)
  have m2 : bits .or .u32 (ln * 16384) (c + 2) = ln * 16384 + (c + 2) := or_line ln (c + 2) (by omega) (by omega) (by omega) (by omega)
  have m3 : bits .or .u32 (ln * 16384) (c + 2 + n) = ln * 16384 + (c + 2 + n) := or_line ln (c + 2 + n) (by omega) (by omega) (by omega) (by omega)
  have hv : vB (o + 2 + n) (ln * 16384 + (c + 2 + n)) = true := by simp [vB]; omega
  have HP := Lib.hid (show pO (o + 2 + n) (ln * 16384 + (c + 2 + n)) 1 = o + 3 + n by unfold pO; rw [if_pos hv, if_neg (by omega)]; omega)
  have HL := Lib.hid (show pL (o + 2 + n) (ln * 16384 + (c + 2 + n)) 1 = ln * 16384 by unfold pL pC; rw [if_pos hv]; first | (rw [if_pos (by omega)]; omega) | (rw [if_neg (by omega)]; omega))
  have x1 : IntKind.u32.wrap (o + 2) = o + 2 := IntWalk.u32_in _ (by omega)
  have x2 : IntKind.u32.wrap (o + 2 + (n : Int)) = o + 2 + n := IntWalk.u32_in _ (by omega)
  have x3 : IntKind.u32.wrap (ln * 16384) = ln * 16384 := IntWalk.u32_in _ (by omega)
  have HS := Lib.hid hn
  have hsz : (s.size : Int) ≤ 1048576 := by omega
  subst hn
  go_enter Try.func7, Try.ntmps7
  go_wp2_with (first | (go_at_call 31; refine (mkPos27 _ _ _).mono ?_; rintro e w' ⟨rfl, rfl⟩) | go_in)
  refine wp_world (fun W => W.cell? ⟨w.heap.size + 1, 0, none⟩ = some (.int .u32 o) ∧ W.cell? ⟨w.heap.size + 1, 1, none⟩ = some (.int .u32 (ln * 16384 + c)) ∧ Below w.heap.size w W)
    ⟨by simp [go_sem], by simp [go_sem], by go_grown⟩ ?_
  rintro W ⟨s0, s1, BW⟩
  go_region_held3 (fun W => W.cell? ⟨w.heap.size + 1, 0, none⟩ = some (.int .u32 o) ∧ W.cell? ⟨w.heap.size + 1, 1, none⟩ = some (.int .u32 (ln * 16384 + c))) (exact ⟨cell_later (w := W) (by go_grown) s0, cell_later (w := W) (by go_grown) s1⟩) (first | (go_at_call 31; refine (mkPos27 _ _ _).mono ?_; rintro e w' ⟨rfl, rfl⟩) | (go_at_call 32; refine (newEG _ _ _ _ _ _ _ _ _).mono ?_; rintro e w' ⟨rfl, rfl⟩))
  refine then_world (fun V => V.cell? ⟨w.heap.size + 1, 0, none⟩ = some (.int .u32 o) ∧ V.cell? ⟨w.heap.size + 1, 1, none⟩ = some (.int .u32 (ln * 16384 + c)) ∧ V.cell? ⟨W.heap.size + 1 + 1 + 1 + 1 + 1 + 1, 0, none⟩ = some (.int .u32 o) ∧ V.cell? ⟨W.heap.size + 1 + 1 + 1 + 1 + 1 + 1, 1, none⟩ = some (.int .u32 (ln * 16384 + c)) ∧ V.cell? ⟨W.heap.size + 1 + 1 + 1 + 1 + 1 + 1, 3, none⟩ = some (.pointer (some ⟨W.heap.size + 1 + 1 + 1 + 1 + 1, 0, none⟩)) ∧ V.cell? ⟨W.heap.size + 1 + 1 + 1 + 1 + 1, 2, none⟩ = some (.int .u32 (o + 2 + (s.size : Int))) ∧ V.cell? ⟨W.heap.size + 1 + 1 + 1 + 1 + 1, 3, none⟩ = some (.int .u32 (ln * 16384 + (c + 2 + (s.size : Int)))) ∧ Below w.heap.size w V)
    ⟨cell_later (w := W) (by go_grown) s0, cell_later (w := W) (by go_grown) s1, by simp [go_sem], by simp [go_sem], by simp [go_sem], by simp [go_sem], by simp [go_sem], Below.trans BW (Below.mono (by go_grown) BW.size)⟩ ?_
  rintro V ⟨v0, v1, v2, v3, v4, v5, v6, BV⟩
  clear BW s0 s1
  have hlv := lt_of_cell v0
  obtain ⟨k1, k2, k3, k4, k5, k6, k7, k8, k9, k10, k11, k12, k13, k14, k15, k16, k17, k18, k19, k20⟩ := lts hlv
  go_wp2_with (first | (go_at_call 33; refine (egPos (W.heap.size + 1 + 1 + 1 + 1 + 1 + 1) o (ln * 16384 + c) _ (cell_later (w := V) (by go_grown) v2) (cell_later (w := V) (by go_grown) v3)).mono ?_; rintro e w' ⟨rfl, rfl⟩) | (go_at_call 34; refine (egEnd (W.heap.size + 1 + 1 + 1 + 1 + 1 + 1) (W.heap.size + 1 + 1 + 1 + 1 + 1) (o + 2 + (s.size : Int)) (ln * 16384 + (c + 2 + (s.size : Int))) _ (by omega) (by omega) (by omega) hv (cell_later (w := V) (by go_grown) v4) (cell_later (w := V) (by go_grown) v5) (cell_later (w := V) (by go_grown) v6)).mono ?_; rintro e w' ⟨rfl, rfl⟩))
  refine wp_world (fun X => X.cell? ⟨V.heap.size + 1, 0, none⟩ = some (.int .u32 o) ∧ X.cell? ⟨V.heap.size + 1, 1, none⟩ = some (.int .u32 (ln * 16384 + c)) ∧ X.cell? ⟨V.heap.size + 1 + 1 + 1 + 1 + 1 + 1 + 1 + 1, 0, none⟩ = some (.int .u32 (o + 3 + (s.size : Int))) ∧ X.cell? ⟨V.heap.size + 1 + 1 + 1 + 1 + 1 + 1 + 1 + 1, 1, none⟩ = some (.int .u32 (ln * 16384)) ∧ Below w.heap.size w X)
    ⟨by simp [go_sem], by simp [go_sem], by simp [go_sem, HP.out], by simp [go_sem, HL.out], Below.trans BV (Below.mono (by go_grown) BV.size)⟩ ?_
  rintro X ⟨x0, x1, x2, x3, BX⟩
  clear BV v0 v1 v2 v3 v4 v5 v6 hv HP HL
  obtain ⟨E, hE⟩ : ∃ E : Int, o + 3 + (s.size : Int) = E := ⟨_, rfl⟩
  rw [hE] at x2
  have b1 : 0 ≤ E := by omega
  have b2 : E ≤ 4294967295 := by omega
  have o1 : oI E = E := by unfold oI; rw [if_neg (by omega)]
  have o2 : oI o = o := by unfold oI; rw [if_neg (by omega)]
  have u0 : IntKind.u64.wrap 3 = 3 := IntWalk.u64_in _ (by omega)
  have u1 : IntKind.u64.wrap (E - o) = E - o := IntWalk.u64_in _ (by omega)
  have u2 : IntKind.u64.wrap (s.size : Int) = (s.size : Int) := IntWalk.u64_in _ (by omega)
  have u3 : IntKind.u64.wrap ((s.size : Int) + 3) = (s.size : Int) + 3 := IntWalk.u64_in _ (by omega)
  have u4 : (E - o != (s.size : Int) + 3) = false := by simp; omega
  have u5 : decide (E < o) = false := decide_eq_false (by omega)
  clear hE
  go_region_held3 (fun W => W.cell? ⟨V.heap.size + 1, 0, none⟩ = some (.int .u32 o) ∧ W.cell? ⟨V.heap.size + 1, 1, none⟩ = some (.int .u32 (ln * 16384 + c)) ∧ W.cell? ⟨V.heap.size + 1 + 1 + 1 + 1 + 1 + 1 + 1 + 1, 0, none⟩ = some (.int .u32 E) ∧ W.cell? ⟨V.heap.size + 1 + 1 + 1 + 1 + 1 + 1 + 1 + 1, 1, none⟩ = some (.int .u32 (ln * 16384))) (exact ⟨cell_later (w := X) (by go_grown) x0, cell_later (w := X) (by go_grown) x1, cell_later (w := X) (by go_grown) x2, cell_later (w := X) (by go_grown) x3⟩) (first | (go_at_call 17; refine (offset _ _ _ (by omega) (by omega)).mono ?_; rintro e w' ⟨rfl, rfl⟩))
  refine then_world (fun Y => Y.cell? ⟨V.heap.size + 1, 0, none⟩ = some (.int .u32 o) ∧ Y.cell? ⟨V.heap.size + 1, 1, none⟩ = some (.int .u32 (ln * 16384 + c)) ∧ Y.cell? ⟨V.heap.size + 1 + 1 + 1 + 1 + 1 + 1 + 1 + 1, 0, none⟩ = some (.int .u32 E) ∧ Y.cell? ⟨V.heap.size + 1 + 1 + 1 + 1 + 1 + 1 + 1 + 1, 1, none⟩ = some (.int .u32 (ln * 16384)) ∧ Below w.heap.size w Y)
    ⟨cell_later (w := X) (by go_grown) x0, cell_later (w := X) (by go_grown) x1, cell_later (w := X) (by go_grown) x2, cell_later (w := X) (by go_grown) x3, Below.trans BX (Below.mono (by go_grown) BX.size)⟩ ?_
  rintro Y ⟨y0, y1, y2, y3, BY⟩
  clear u0 u1 u2 u3 u4 u5 o1 o2 x0 x1 x2 x3 BX
  go_wp2_with fail
  have u6 : ((ln * 16384) / 16384 != (ln * 16384 + c) / 16384) = false := by simp <;> omega
  go_region_held3 (fun W => W.cell? ⟨V.heap.size + 1, 0, none⟩ = some (.int .u32 o) ∧ W.cell? ⟨V.heap.size + 1, 1, none⟩ = some (.int .u32 (ln * 16384 + c)) ∧ W.cell? ⟨V.heap.size + 1 + 1 + 1 + 1 + 1 + 1 + 1 + 1, 0, none⟩ = some (.int .u32 E) ∧ W.cell? ⟨V.heap.size + 1 + 1 + 1 + 1 + 1 + 1 + 1 + 1, 1, none⟩ = some (.int .u32 (ln * 16384))) (exact ⟨cell_later (w := Y) (by go_grown) y0, cell_later (w := Y) (by go_grown) y1, cell_later (w := Y) (by go_grown) y2, cell_later (w := Y) (by go_grown) y3⟩) (first | (go_at_call 20; refine (line _ _ _ (by omega) (by omega)).mono ?_; rintro e w' ⟨rfl, rfl⟩))
  go_wp2
  go_ret
  exact ⟨rfl, Below.trans BY (Below.mono (by go_grown) BY.size)⟩
set_option maxRecDepth 100000 in
set_option maxHeartbeats 4000000 in
theorem mainE (o ln c op : Int) (n : Nat) (s : ByteArray) (w : World) (hn : s.size = n) (hn1 : n ≤ 1048576) (ho : 0 ≤ o) (ho2 : o + 3 + n ≤ 4294967284) (hl1 : 1 ≤ ln) (hl2 : ln ≤ 262143) (hop : 0 ≤ op ∧ op ≤ 255) (hc1 : 1 ≤ c) (hB : c + 3 + n ≤ 16383) :
    Calls Try.prog 7 #[.int .u32 o, .int .u32 ln, .int .u32 c, .int .u8 op, .string s] w fun e w' => e = .returned (.bool true) ∧ Below w.heap.size w w' := by
  have q1 : (ln == 0) = false := by simp; omega
  have q2 : (c != 0) = true := by simp; omega
  have g1 : c + 2 ≤ 16383 := by omega
  have g2 : c + 2 + (n : Int) ≤ 16383 := by omega
  have m0 : bits .or .u32 (ln * 16384) 0 = ln * 16384 := by have := or_line ln 0 (by omega) (by omega) (by omega) (by omega); omega
  have m1 : bits .or .u32 (ln * 16384) (c) = ln * 16384 + c := or_line ln (c) (by omega) (by omega) (by omega) (by omega)
  have m2 : bits .or .u32 (ln * 16384) (c + 2) = ln * 16384 + (c + 2) := or_line ln (c + 2) (by omega) (by omega) (by omega) (by omega)
  have m3 : bits .or .u32 (ln * 16384) (c + 2 + n) = ln * 16384 + (c + 2 + n) := or_line ln (c + 2 + n) (by omega) (by omega) (by omega) (by omega)
  have hv : vB (o + 2 + n) (ln * 16384 + (c + 2 + n)) = true := by simp [vB]; omega
  have HP := Lib.hid (show pO (o + 2 + n) (ln * 16384 + (c + 2 + n)) 1 = o + 3 + n by unfold pO; rw [if_pos hv, if_neg (by omega)]; omega)
  have HL := Lib.hid (show pL (o + 2 + n) (ln * 16384 + (c + 2 + n)) 1 = ln * 16384 + (c + 3 + n) by unfold pL pC; rw [if_pos hv]; first | (rw [if_pos (by omega)]; omega) | (rw [if_neg (by omega)]; omega))
  have x1 : IntKind.u32.wrap (o + 2) = o + 2 := IntWalk.u32_in _ (by omega)
  have x2 : IntKind.u32.wrap (o + 2 + (n : Int)) = o + 2 + n := IntWalk.u32_in _ (by omega)
  have x3 : IntKind.u32.wrap (ln * 16384) = ln * 16384 := IntWalk.u32_in _ (by omega)
  have HS := Lib.hid hn
  have hsz : (s.size : Int) ≤ 1048576 := by omega
  subst hn
  go_enter Try.func7, Try.ntmps7
  go_wp2_with (first | (go_at_call 31; refine (mkPos27 _ _ _).mono ?_; rintro e w' ⟨rfl, rfl⟩) | go_in)
  refine wp_world (fun W => W.cell? ⟨w.heap.size + 1, 0, none⟩ = some (.int .u32 o) ∧ W.cell? ⟨w.heap.size + 1, 1, none⟩ = some (.int .u32 (ln * 16384 + c)) ∧ Below w.heap.size w W)
    ⟨by simp [go_sem], by simp [go_sem], by go_grown⟩ ?_
  rintro W ⟨s0, s1, BW⟩
  go_region_held3 (fun W => W.cell? ⟨w.heap.size + 1, 0, none⟩ = some (.int .u32 o) ∧ W.cell? ⟨w.heap.size + 1, 1, none⟩ = some (.int .u32 (ln * 16384 + c))) (exact ⟨cell_later (w := W) (by go_grown) s0, cell_later (w := W) (by go_grown) s1⟩) (first | (go_at_call 31; refine (mkPos27 _ _ _).mono ?_; rintro e w' ⟨rfl, rfl⟩) | (go_at_call 32; refine (newEG _ _ _ _ _ _ _ _ _).mono ?_; rintro e w' ⟨rfl, rfl⟩))
  refine then_world (fun V => V.cell? ⟨w.heap.size + 1, 0, none⟩ = some (.int .u32 o) ∧ V.cell? ⟨w.heap.size + 1, 1, none⟩ = some (.int .u32 (ln * 16384 + c)) ∧ V.cell? ⟨W.heap.size + 1 + 1 + 1 + 1 + 1 + 1, 0, none⟩ = some (.int .u32 o) ∧ V.cell? ⟨W.heap.size + 1 + 1 + 1 + 1 + 1 + 1, 1, none⟩ = some (.int .u32 (ln * 16384 + c)) ∧ V.cell? ⟨W.heap.size + 1 + 1 + 1 + 1 + 1 + 1, 3, none⟩ = some (.pointer (some ⟨W.heap.size + 1 + 1 + 1 + 1 + 1, 0, none⟩)) ∧ V.cell? ⟨W.heap.size + 1 + 1 + 1 + 1 + 1, 2, none⟩ = some (.int .u32 (o + 2 + (s.size : Int))) ∧ V.cell? ⟨W.heap.size + 1 + 1 + 1 + 1 + 1, 3, none⟩ = some (.int .u32 (ln * 16384 + (c + 2 + (s.size : Int)))) ∧ Below w.heap.size w V)
    ⟨cell_later (w := W) (by go_grown) s0, cell_later (w := W) (by go_grown) s1, by simp [go_sem], by simp [go_sem], by simp [go_sem], by simp [go_sem], by simp [go_sem], Below.trans BW (Below.mono (by go_grown) BW.size)⟩ ?_
  rintro V ⟨v0, v1, v2, v3, v4, v5, v6, BV⟩
  clear BW s0 s1
  have hlv := lt_of_cell v0
  obtain ⟨k1, k2, k3, k4, k5, k6, k7, k8, k9, k10, k11, k12, k13, k14, k15, k16, k17, k18, k19, k20⟩ := lts hlv
  go_wp2_with (first | (go_at_call 33; refine (egPos (W.heap.size + 1 + 1 + 1 + 1 + 1 + 1) o (ln * 16384 + c) _ (cell_later (w := V) (by go_grown) v2) (cell_later (w := V) (by go_grown) v3)).mono ?_; rintro e w' ⟨rfl, rfl⟩) | (go_at_call 34; refine (egEnd (W.heap.size + 1 + 1 + 1 + 1 + 1 + 1) (W.heap.size + 1 + 1 + 1 + 1 + 1) (o + 2 + (s.size : Int)) (ln * 16384 + (c + 2 + (s.size : Int))) _ (by omega) (by omega) (by omega) hv (cell_later (w := V) (by go_grown) v4) (cell_later (w := V) (by go_grown) v5) (cell_later (w := V) (by go_grown) v6)).mono ?_; rintro e w' ⟨rfl, rfl⟩))
  refine wp_world (fun X => X.cell? ⟨V.heap.size + 1, 0, none⟩ = some (.int .u32 o) ∧ X.cell? ⟨V.heap.size + 1, 1, none⟩ = some (.int .u32 (ln * 16384 + c)) ∧ X.cell? ⟨V.heap.size + 1 + 1 + 1 + 1 + 1 + 1 + 1 + 1, 0, none⟩ = some (.int .u32 (o + 3 + (s.size : Int))) ∧ X.cell? ⟨V.heap.size + 1 + 1 + 1 + 1 + 1 + 1 + 1 + 1, 1, none⟩ = some (.int .u32 (ln * 16384 + (c + 3 + (s.size : Int)))) ∧ Below w.heap.size w X)
    ⟨by simp [go_sem], by simp [go_sem], by simp [go_sem, HP.out], by simp [go_sem, HL.out], Below.trans BV (Below.mono (by go_grown) BV.size)⟩ ?_
  rintro X ⟨x0, x1, x2, x3, BX⟩
  clear BV v0 v1 v2 v3 v4 v5 v6 hv HP HL
  obtain ⟨E, hE⟩ : ∃ E : Int, o + 3 + (s.size : Int) = E := ⟨_, rfl⟩
  rw [hE] at x2
  have b1 : 0 ≤ E := by omega
  have b2 : E ≤ 4294967295 := by omega
  have o1 : oI E = E := by unfold oI; rw [if_neg (by omega)]
  have o2 : oI o = o := by unfold oI; rw [if_neg (by omega)]
  have u0 : IntKind.u64.wrap 3 = 3 := IntWalk.u64_in _ (by omega)
  have u1 : IntKind.u64.wrap (E - o) = E - o := IntWalk.u64_in _ (by omega)
  have u2 : IntKind.u64.wrap (s.size : Int) = (s.size : Int) := IntWalk.u64_in _ (by omega)
  have u3 : IntKind.u64.wrap ((s.size : Int) + 3) = (s.size : Int) + 3 := IntWalk.u64_in _ (by omega)
  have u4 : (E - o != (s.size : Int) + 3) = false := by simp; omega
  have u5 : decide (E < o) = false := decide_eq_false (by omega)
  clear hE
  go_region_held3 (fun W => W.cell? ⟨V.heap.size + 1, 0, none⟩ = some (.int .u32 o) ∧ W.cell? ⟨V.heap.size + 1, 1, none⟩ = some (.int .u32 (ln * 16384 + c)) ∧ W.cell? ⟨V.heap.size + 1 + 1 + 1 + 1 + 1 + 1 + 1 + 1, 0, none⟩ = some (.int .u32 E) ∧ W.cell? ⟨V.heap.size + 1 + 1 + 1 + 1 + 1 + 1 + 1 + 1, 1, none⟩ = some (.int .u32 (ln * 16384 + (c + 3 + (s.size : Int))))) (exact ⟨cell_later (w := X) (by go_grown) x0, cell_later (w := X) (by go_grown) x1, cell_later (w := X) (by go_grown) x2, cell_later (w := X) (by go_grown) x3⟩) (first | (go_at_call 17; refine (offset _ _ _ (by omega) (by omega)).mono ?_; rintro e w' ⟨rfl, rfl⟩))
  refine then_world (fun Y => Y.cell? ⟨V.heap.size + 1, 0, none⟩ = some (.int .u32 o) ∧ Y.cell? ⟨V.heap.size + 1, 1, none⟩ = some (.int .u32 (ln * 16384 + c)) ∧ Y.cell? ⟨V.heap.size + 1 + 1 + 1 + 1 + 1 + 1 + 1 + 1, 0, none⟩ = some (.int .u32 E) ∧ Y.cell? ⟨V.heap.size + 1 + 1 + 1 + 1 + 1 + 1 + 1 + 1, 1, none⟩ = some (.int .u32 (ln * 16384 + (c + 3 + (s.size : Int)))) ∧ Below w.heap.size w Y)
    ⟨cell_later (w := X) (by go_grown) x0, cell_later (w := X) (by go_grown) x1, cell_later (w := X) (by go_grown) x2, cell_later (w := X) (by go_grown) x3, Below.trans BX (Below.mono (by go_grown) BX.size)⟩ ?_
  rintro Y ⟨y0, y1, y2, y3, BY⟩
  clear u0 u1 u2 u3 u4 u5 o1 o2 x0 x1 x2 x3 BX
  go_wp2_with fail
  have u6 : ((ln * 16384 + (c + 3 + (s.size : Int))) / 16384 != (ln * 16384 + c) / 16384) = false := by simp <;> omega
  go_region_held3 (fun W => W.cell? ⟨V.heap.size + 1, 0, none⟩ = some (.int .u32 o) ∧ W.cell? ⟨V.heap.size + 1, 1, none⟩ = some (.int .u32 (ln * 16384 + c)) ∧ W.cell? ⟨V.heap.size + 1 + 1 + 1 + 1 + 1 + 1 + 1 + 1, 0, none⟩ = some (.int .u32 E) ∧ W.cell? ⟨V.heap.size + 1 + 1 + 1 + 1 + 1 + 1 + 1 + 1, 1, none⟩ = some (.int .u32 (ln * 16384 + (c + 3 + (s.size : Int))))) (exact ⟨cell_later (w := Y) (by go_grown) y0, cell_later (w := Y) (by go_grown) y1, cell_later (w := Y) (by go_grown) y2, cell_later (w := Y) (by go_grown) y3⟩) (first | (go_at_call 20; refine (line _ _ _ (by omega) (by omega)).mono ?_; rintro e w' ⟨rfl, rfl⟩))
  have u7 : ((c + 3 + (s.size : Int)) % 16384 == c + 3 + (s.size : Int)) = true := by simp; omega
  have u8 : IntKind.u32.wrap (c + 3) = c + 3 := IntWalk.u32_in _ (by omega)
  have u9 : IntKind.u32.wrap (c + 3 + (s.size : Int)) = c + 3 + (s.size : Int) := IntWalk.u32_in _ (by omega)
  refine then_world (fun Y => Y.cell? ⟨V.heap.size + 1, 0, none⟩ = some (.int .u32 o) ∧ Y.cell? ⟨V.heap.size + 1, 1, none⟩ = some (.int .u32 (ln * 16384 + c)) ∧ Y.cell? ⟨V.heap.size + 1 + 1 + 1 + 1 + 1 + 1 + 1 + 1, 0, none⟩ = some (.int .u32 E) ∧ Y.cell? ⟨V.heap.size + 1 + 1 + 1 + 1 + 1 + 1 + 1 + 1, 1, none⟩ = some (.int .u32 (ln * 16384 + (c + 3 + (s.size : Int)))) ∧ Below w.heap.size w Y)
    ⟨cell_later (w := Y) (by go_grown) y0, cell_later (w := Y) (by go_grown) y1, cell_later (w := Y) (by go_grown) y2, cell_later (w := Y) (by go_grown) y3, Below.trans BY (Below.mono (by go_grown) BY.size)⟩ ?_
  rintro Z ⟨z0, z1, z2, z3, BZ⟩
  clear BY y0 y1 y2 y3
  go_wp2_with (first | (go_at_call 18; refine (col _ _ _ (by omega) (by omega)).mono ?_; rintro e w' ⟨rfl, rfl⟩))
  go_ret
  exact ⟨rfl, Below.trans BZ (Below.mono (by go_grown) BZ.size)⟩
end Go.Proofs.Ytccnpgmceoojmab.extg
