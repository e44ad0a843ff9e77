/-
  An array element laid out in source order never starts after it ends: for every mode, position and text.
-/
import Derived.Test.YtccnpgmceoojmabElem
namespace Go.Proofs.Ytccnpgmceoojmab.elem
open Go.RowKit

def zs (x0 x1 x2 x3 x4 x5 : Int) : List Int := [x0, x1, x2, x3, x4, x5]
theorem wmod (x : Int) : IntKind.u32.wrap x = x % 4294967296 := by first | rfl | simp [IntKind.wrap] | (unfold IntKind.wrap; rfl)
/-- What the loop knows after its first j rounds. -/
def Fit (p : Nat → Int) (j : Nat) : Prop := ∀ i, i < j → p i % 4294967296 ≤ 4294967284 ∧ p i / 4294967296 ≠ 0 ∧ ∀ k, k + 1 = i → p k % 4294967296 ≤ p i % 4294967296
theorem zzBig (m x0 x1 x2 x3 x4 x5 : Int) (s0 s1 s2 : ByteArray) (w : World) (h : 1048576 < (s0.size : Int) + (s1.size : Int) + (s2.size : Int)) (z0 : s0.size ≤ maxLen) (z1 : s1.size ≤ maxLen) (z2 : s2.size ≤ maxLen) : Calls Try.prog 23 #[.int .u8 m, .int .u64 x0, .int .u64 x1, .int .u64 x2, .int .u64 x3, .int .u64 x4, .int .u64 x5, .string s0, .string s1, .string s2] w fun e w' => e = .returned (.bool false) ∧ w = w' := by
  by_cases g0 : 1048576 < (s0.size : Int)
  · go_enter Try.func23, Try.ntmps23
    go_wp2
    go_ret
    exact ⟨rfl, rfl⟩
  have y0 : IntKind.i64.wrap (s0.size : Int) = (s0.size : Int) := IntWalk.i64_in _ (by omega)
  by_cases g1 : 1048576 < (s1.size : Int)
  · go_enter Try.func23, Try.ntmps23
    go_wp2
    go_ret
    exact ⟨rfl, rfl⟩
  have y1 : IntKind.i64.wrap ((s0.size : Int) + (s1.size : Int)) = (s0.size : Int) + (s1.size : Int) := IntWalk.i64_in _ (by omega)
  by_cases g2 : 1048576 < (s0.size : Int) + (s1.size : Int)
  · go_enter Try.func23, Try.ntmps23
    go_wp2
    go_ret
    exact ⟨rfl, rfl⟩
  by_cases g3 : 1048576 < (s2.size : Int)
  · go_enter Try.func23, Try.ntmps23
    go_wp2
    go_ret
    exact ⟨rfl, rfl⟩
  have y2 : IntKind.i64.wrap ((s0.size : Int) + (s1.size : Int) + (s2.size : Int)) = (s0.size : Int) + (s1.size : Int) + (s2.size : Int) := IntWalk.i64_in _ (by omega)
  go_enter Try.func23, Try.ntmps23
  go_wp2
  go_ret
  exact ⟨rfl, rfl⟩
theorem zzSmall (m x0 x1 x2 x3 x4 x5 : Int) (s0 s1 s2 : ByteArray) (w : World) (h : ¬ 1048576 < (s0.size : Int) + (s1.size : Int) + (s2.size : Int)) : Calls Try.prog 23 #[.int .u8 m, .int .u64 x0, .int .u64 x1, .int .u64 x2, .int .u64 x3, .int .u64 x4, .int .u64 x5, .string s0, .string s1, .string s2] w fun e w' => e = .returned (.bool true) ∧ w = w' := by
  have g0 : ¬ 1048576 < (s0.size : Int) := by omega
  have g1 : ¬ 1048576 < (s1.size : Int) := by omega
  have g2 : ¬ 1048576 < (s0.size : Int) + (s1.size : Int) := by omega
  have g3 : ¬ 1048576 < (s2.size : Int) := by omega
  have y0 : IntKind.i64.wrap (s0.size : Int) = (s0.size : Int) := IntWalk.i64_in _ (by omega)
  have y1 : IntKind.i64.wrap ((s0.size : Int) + (s1.size : Int)) = (s0.size : Int) + (s1.size : Int) := IntWalk.i64_in _ (by omega)
  have y2 : IntKind.i64.wrap ((s0.size : Int) + (s1.size : Int) + (s2.size : Int)) = (s0.size : Int) + (s1.size : Int) + (s2.size : Int) := IntWalk.i64_in _ (by omega)
  go_enter Try.func23, Try.ntmps23
  go_wp2
  go_ret
  exact ⟨rfl, rfl⟩
set_option maxRecDepth 100000 in
set_option maxHeartbeats 8000000 in
theorem main (m x0 x1 x2 x3 x4 x5 : Int) (s0 s1 s2 : ByteArray) (w : World) (hm : 0 ≤ m ∧ m ≤ 255) (b0 : 0 ≤ x0 ∧ x0 ≤ 18446744073709551615) (b1 : 0 ≤ x1 ∧ x1 ≤ 18446744073709551615) (b2 : 0 ≤ x2 ∧ x2 ≤ 18446744073709551615) (b3 : 0 ≤ x3 ∧ x3 ≤ 18446744073709551615) (b4 : 0 ≤ x4 ∧ x4 ≤ 18446744073709551615) (b5 : 0 ≤ x5 ∧ x5 ≤ 18446744073709551615) (hs : ¬ 1048576 < (s0.size : Int) + (s1.size : Int) + (s2.size : Int)) :
    Calls Try.prog 6 #[.int .u8 m, .int .u64 x0, .int .u64 x1, .int .u64 x2, .int .u64 x3, .int .u64 x4, .int .u64 x5, .string s0, .string s1, .string s2] w fun e w' => e = .returned (.bool true) ∧ Below w.heap.size w w' := by
  have HS := Lib.hid hs
  have g0 : ¬ 1048576 < (s0.size : Int) := by omega
  have g1 : ¬ 1048576 < (s1.size : Int) := by omega
  have g3 : ¬ 1048576 < (s2.size : Int) := by omega
  have y1 : IntKind.i64.wrap ((s0.size : Int) + (s1.size : Int)) = (s0.size : Int) + (s1.size : Int) := IntWalk.i64_in _ (by omega)
  have y2 : IntKind.i64.wrap ((s0.size : Int) + (s1.size : Int) + (s2.size : Int)) = (s0.size : Int) + (s1.size : Int) + (s2.size : Int) := IntWalk.i64_in _ (by omega)
  have wo0 := wmod x0
  obtain ⟨o0, eo0⟩ : ∃ o, o = x0 % 4294967296 := ⟨_, rfl⟩
  obtain ⟨l0, el0⟩ : ∃ l, l = x0 / 4294967296 := ⟨_, rfl⟩
  have wl0 := el0.symm
  have wm0 : IntKind.u32.wrap l0 = l0 := IntWalk.u32_in _ (by omega)
  rw [← eo0] at wo0
  have bo0 : 0 ≤ o0 ∧ 0 ≤ l0 ∧ l0 ≤ 4294967295 := by omega
  clear eo0 el0
  have wo1 := wmod x1
  obtain ⟨o1, eo1⟩ : ∃ o, o = x1 % 4294967296 := ⟨_, rfl⟩
  obtain ⟨l1, el1⟩ : ∃ l, l = x1 / 4294967296 := ⟨_, rfl⟩
  have wl1 := el1.symm
  have wm1 : IntKind.u32.wrap l1 = l1 := IntWalk.u32_in _ (by omega)
  rw [← eo1] at wo1
  have bo1 : 0 ≤ o1 ∧ 0 ≤ l1 ∧ l1 ≤ 4294967295 := by omega
  clear eo1 el1
  have wo2 := wmod x2
  obtain ⟨o2, eo2⟩ : ∃ o, o = x2 % 4294967296 := ⟨_, rfl⟩
  obtain ⟨l2, el2⟩ : ∃ l, l = x2 / 4294967296 := ⟨_, rfl⟩
  have wl2 := el2.symm
  have wm2 : IntKind.u32.wrap l2 = l2 := IntWalk.u32_in _ (by omega)
  rw [← eo2] at wo2
  have bo2 : 0 ≤ o2 ∧ 0 ≤ l2 ∧ l2 ≤ 4294967295 := by omega
  clear eo2 el2
  have wo3 := wmod x3
  obtain ⟨o3, eo3⟩ : ∃ o, o = x3 % 4294967296 := ⟨_, rfl⟩
  obtain ⟨l3, el3⟩ : ∃ l, l = x3 / 4294967296 := ⟨_, rfl⟩
  have wl3 := el3.symm
  have wm3 : IntKind.u32.wrap l3 = l3 := IntWalk.u32_in _ (by omega)
  rw [← eo3] at wo3
  have bo3 : 0 ≤ o3 ∧ 0 ≤ l3 ∧ l3 ≤ 4294967295 := by omega
  clear eo3 el3
  have wo4 := wmod x4
  obtain ⟨o4, eo4⟩ : ∃ o, o = x4 % 4294967296 := ⟨_, rfl⟩
  obtain ⟨l4, el4⟩ : ∃ l, l = x4 / 4294967296 := ⟨_, rfl⟩
  have wl4 := el4.symm
  have wm4 : IntKind.u32.wrap l4 = l4 := IntWalk.u32_in _ (by omega)
  rw [← eo4] at wo4
  have bo4 : 0 ≤ o4 ∧ 0 ≤ l4 ∧ l4 ≤ 4294967295 := by omega
  clear eo4 el4
  have wo5 := wmod x5
  obtain ⟨o5, eo5⟩ : ∃ o, o = x5 % 4294967296 := ⟨_, rfl⟩
  obtain ⟨l5, el5⟩ : ∃ l, l = x5 / 4294967296 := ⟨_, rfl⟩
  have wl5 := el5.symm
  have wm5 : IntKind.u32.wrap l5 = l5 := IntWalk.u32_in _ (by omega)
  rw [← eo5] at wo5
  have bo5 : 0 ≤ o5 ∧ 0 ≤ l5 ∧ l5 ≤ 4294967295 := by omega
  clear eo5 el5
  go_enter Try.func6, Try.ntmps6
  go_wp2_with (go_at_call 23; refine (zzSmall _ _ _ _ _ _ _ _ _ _ _ HS.out).mono ?_; rintro e w' ⟨rfl, rfl⟩)
  clear hs HS g0 g1 g3 y1 y2
  refine wp_loop_rounds 7 ?_
  rw [rounds_succ]

  by_cases n0 : 4294967284 < o0
  · go_wp2
    go_ret
    exact ⟨rfl, by (repeat (refine below_drewN ?_ _)); go_grown⟩
  by_cases k0 : l0 = 0
  · have k' : (l0 == 0) = true := by simp [k0]
    clear k0
    go_wp2
    go_ret
    exact ⟨rfl, by (repeat (refine below_drewN ?_ _)); go_grown⟩
  have q0 : (l0 == 0) = false := by simp [k0]
  go_wp2_with fail
  go_quiet (fail)
  go_wp2_with fail
  rw [rounds_succ]

  have j1 : IntKind.i64.wrap (1 - 1) = 0 := by decide
  by_cases n1 : 4294967284 < o1
  · go_wp2
    go_ret
    exact ⟨rfl, by (repeat (refine below_drewN ?_ _)); go_grown⟩
  by_cases k1 : l1 = 0
  · have k' : (l1 == 0) = true := by simp [k1]
    clear k1
    go_wp2
    go_ret
    exact ⟨rfl, by (repeat (refine below_drewN ?_ _)); go_grown⟩
  have q1 : (l1 == 0) = false := by simp [k1]
  by_cases r1 : o1 < o0
  · go_wp2_with fail
    go_quiet (fail)
    go_wp2
    go_ret
    exact ⟨rfl, by (repeat (refine below_drewN ?_ _)); go_grown⟩
  have r1' : decide (o1 < o0) = false := decide_eq_false r1
  go_wp2_with fail
  go_quiet (fail)
  go_wp2_with fail
  rw [rounds_succ]

  have j2 : IntKind.i64.wrap (2 - 1) = 1 := by decide
  by_cases n2 : 4294967284 < o2
  · go_wp2
    go_ret
    exact ⟨rfl, by (repeat (refine below_drewN ?_ _)); go_grown⟩
  by_cases k2 : l2 = 0
  · have k' : (l2 == 0) = true := by simp [k2]
    clear k2
    go_wp2
    go_ret
    exact ⟨rfl, by (repeat (refine below_drewN ?_ _)); go_grown⟩
  have q2 : (l2 == 0) = false := by simp [k2]
  by_cases r2 : o2 < o1
  · go_wp2_with fail
    go_quiet (fail)
    go_wp2
    go_ret
    exact ⟨rfl, by (repeat (refine below_drewN ?_ _)); go_grown⟩
  have r2' : decide (o2 < o1) = false := decide_eq_false r2
  go_wp2_with fail
  go_quiet (fail)
  go_wp2_with fail
  rw [rounds_succ]

  have j3 : IntKind.i64.wrap (3 - 1) = 2 := by decide
  by_cases n3 : 4294967284 < o3
  · go_wp2
    go_ret
    exact ⟨rfl, by (repeat (refine below_drewN ?_ _)); go_grown⟩
  by_cases k3 : l3 = 0
  · have k' : (l3 == 0) = true := by simp [k3]
    clear k3
    go_wp2
    go_ret
    exact ⟨rfl, by (repeat (refine below_drewN ?_ _)); go_grown⟩
  have q3 : (l3 == 0) = false := by simp [k3]
  by_cases r3 : o3 < o2
  · go_wp2_with fail
    go_quiet (fail)
    go_wp2
    go_ret
    exact ⟨rfl, by (repeat (refine below_drewN ?_ _)); go_grown⟩
  have r3' : decide (o3 < o2) = false := decide_eq_false r3
  go_wp2_with fail
  go_quiet (fail)
  go_wp2_with fail
  rw [rounds_succ]

  have j4 : IntKind.i64.wrap (4 - 1) = 3 := by decide
  by_cases n4 : 4294967284 < o4
  · go_wp2
    go_ret
    exact ⟨rfl, by (repeat (refine below_drewN ?_ _)); go_grown⟩
  by_cases k4 : l4 = 0
  · have k' : (l4 == 0) = true := by simp [k4]
    clear k4
    go_wp2
    go_ret
    exact ⟨rfl, by (repeat (refine below_drewN ?_ _)); go_grown⟩
  have q4 : (l4 == 0) = false := by simp [k4]
  by_cases r4 : o4 < o3
  · go_wp2_with fail
    go_quiet (fail)
    go_wp2
    go_ret
    exact ⟨rfl, by (repeat (refine below_drewN ?_ _)); go_grown⟩
  have r4' : decide (o4 < o3) = false := decide_eq_false r4
  go_wp2_with fail
  go_quiet (fail)
  go_wp2_with fail
  rw [rounds_succ]

  have j5 : IntKind.i64.wrap (5 - 1) = 4 := by decide
  by_cases n5 : 4294967284 < o5
  · go_wp2
    go_ret
    exact ⟨rfl, by (repeat (refine below_drewN ?_ _)); go_grown⟩
  by_cases k5 : l5 = 0
  · have k' : (l5 == 0) = true := by simp [k5]
    clear k5
    go_wp2
    go_ret
    exact ⟨rfl, by (repeat (refine below_drewN ?_ _)); go_grown⟩
  have q5 : (l5 == 0) = false := by simp [k5]
  by_cases r5 : o5 < o4
  · go_wp2_with fail
    go_quiet (fail)
    go_wp2
    go_ret
    exact ⟨rfl, by (repeat (refine below_drewN ?_ _)); go_grown⟩
  have r5' : decide (o5 < o4) = false := decide_eq_false r5
  go_wp2_with fail
  go_quiet (fail)
  go_wp2_with fail
  rw [rounds_succ]
  refine wp_world (fun W => Below w.heap.size w W) (by (repeat (refine below_drewN ?_ _)); go_grown) ?_
  rintro wr BW
  have HV : 0 ≤ o0 ∧ o0 ≤ o1 ∧ o1 ≤ o2 ∧ o2 ≤ o3 ∧ o3 ≤ o4 ∧ o4 ≤ o5 ∧ o5 ≤ 4294967284 := by omega
  have HL : 0 < l0 ∧ l0 ≤ 4294967295 ∧ 0 < l1 ∧ l1 ≤ 4294967295 ∧ 0 < l2 ∧ l2 ≤ 4294967295 ∧ 0 < l5 ∧ l5 ≤ 4294967295 := by omega
  clear n0 k0 q0 bo0 n1 k1 q1 bo1 n2 k2 q2 bo2 n3 k3 q3 bo3 n4 k4 q4 bo4 n5 k5 q5 bo5 r1 r1' j1 r2 r2' j2 r3 r3' j3 r4 r4' j4 r5 r5' j5
  have h3 : m % 3 = 0 ∨ m % 3 = 1 ∨ m % 3 = 2 := by omega
  rcases h3 with hr | hr | hr
  · have tk : True := trivial
    go_wp2_with (first | (go_at_call 25; (first | (with_reducible refine (zPos x0 o0 l0 _ ?_ ?_ ?_ ?_ ?_).mono ?_; exact wo0; exact wl0; exact wm0; exact b0.1; exact b0.2) | (with_reducible refine (zPos x1 o1 l1 _ ?_ ?_ ?_ ?_ ?_).mono ?_; exact wo1; exact wl1; exact wm1; exact b1.1; exact b1.2) | (with_reducible refine (zPos x2 o2 l2 _ ?_ ?_ ?_ ?_ ?_).mono ?_; exact wo2; exact wl2; exact wm2; exact b2.1; exact b2.2) | (with_reducible refine (zPos x3 o3 l3 _ ?_ ?_ ?_ ?_ ?_).mono ?_; exact wo3; exact wl3; exact wm3; exact b3.1; exact b3.2) | (with_reducible refine (zPos x4 o4 l4 _ ?_ ?_ ?_ ?_ ?_).mono ?_; exact wo4; exact wl4; exact wm4; exact b4.1; exact b4.2) | (with_reducible refine (zPos x5 o5 l5 _ ?_ ?_ ?_ ?_ ?_).mono ?_; exact wo5; exact wl5; exact wm5; exact b5.1; exact b5.2)); rintro e w' ⟨rfl, rfl⟩) | (go_at_call 24; refine (litW1 _ _ _ _ _ _).mono ?_; rintro e w' ⟨rfl, rfl⟩) | (go_at_call 26; refine (litW2 _ _ _ _ _ _ _ _ _ _ _).mono ?_; rintro e w' ⟨rfl, rfl⟩) | (go_at_call 27; refine (zElem0 _ _ _ _ hm.1 hm.2 hr).mono ?_; rintro e w' ⟨rfl, rfl⟩))
    refine calls_world (fun W => W.cell? ⟨wr.heap.size + 1 + 1 + 1 + 1 + 1 + 1 + 1 + 1 + 1 + 1 + 1 + 1 + 1 + 1 + 1 + 1 + 1 + 1 + 1 + 1 + 1 + 1 + 1 + 1 + 1, 0, none⟩ = some (.iface 35 (.pointer (some ⟨wr.heap.size + 1 + 1 + 1 + 1 + 1 + 1 + 1 + 1, 0, none⟩))) ∧ W.cell? ⟨wr.heap.size + 1 + 1 + 1 + 1 + 1 + 1 + 1 + 1 + 1 + 1 + 1 + 1 + 1 + 1 + 1 + 1 + 1 + 1 + 1 + 1 + 1 + 1 + 1 + 1 + 1, 1, none⟩ = some (.pointer (some ⟨wr.heap.size + 1 + 1 + 1 + 1 + 1 + 1 + 1 + 1 + 1 + 1 + 1 + 1 + 1 + 1 + 1 + 1 + 1 + 1 + 1 + 1 + 1 + 1 + 1 + 1, 0, none⟩)) ∧ W.cell? ⟨wr.heap.size + 1 + 1 + 1 + 1 + 1 + 1 + 1 + 1, 0, none⟩ = some (.slice (some ⟨wr.heap.size + 1 + 1 + 1 + 1 + 1 + 1 + 1, 0, none⟩) 1 1) ∧ W.cell? ⟨wr.heap.size + 1 + 1 + 1 + 1 + 1 + 1 + 1, 0, none⟩ = some (.iface 72 (.pointer (some ⟨wr.heap.size + 1 + 1 + 1 + 1 + 1 + 1, 0, none⟩))) ∧ W.cell? ⟨wr.heap.size + 1 + 1 + 1 + 1 + 1 + 1, 0, none⟩ = some (.int .u32 o0) ∧ W.cell? ⟨wr.heap.size + 1 + 1 + 1 + 1 + 1 + 1, 1, none⟩ = some (.int .u32 l0) ∧ W.cell? ⟨wr.heap.size + 1 + 1 + 1 + 1 + 1 + 1, 2, none⟩ = some (.int .u32 o1) ∧ W.cell? ⟨wr.heap.size + 1 + 1 + 1 + 1 + 1 + 1, 3, none⟩ = some (.int .u32 l1) ∧ W.cell? ⟨wr.heap.size + 1 + 1 + 1 + 1 + 1 + 1 + 1 + 1 + 1 + 1 + 1 + 1 + 1 + 1 + 1 + 1 + 1 + 1 + 1 + 1 + 1 + 1 + 1 + 1, 0, none⟩ = some (.slice (some ⟨wr.heap.size + 1 + 1 + 1 + 1 + 1 + 1 + 1 + 1 + 1 + 1 + 1 + 1 + 1 + 1 + 1 + 1 + 1 + 1 + 1 + 1 + 1 + 1 + 1, 0, none⟩) 2 2) ∧ W.cell? ⟨wr.heap.size + 1 + 1 + 1 + 1 + 1 + 1 + 1 + 1 + 1 + 1 + 1 + 1 + 1 + 1 + 1 + 1 + 1 + 1 + 1 + 1 + 1 + 1 + 1, 0, none⟩ = some (.iface 72 (.pointer (some ⟨wr.heap.size + 1 + 1 + 1 + 1 + 1 + 1 + 1 + 1 + 1 + 1 + 1 + 1 + 1 + 1 + 1 + 1 + 1 + 1 + 1 + 1 + 1, 0, none⟩))) ∧ W.cell? ⟨wr.heap.size + 1 + 1 + 1 + 1 + 1 + 1 + 1 + 1 + 1 + 1 + 1 + 1 + 1 + 1 + 1 + 1 + 1 + 1 + 1 + 1 + 1 + 1 + 1, 1, none⟩ = some (.iface 72 (.pointer (some ⟨wr.heap.size + 1 + 1 + 1 + 1 + 1 + 1 + 1 + 1 + 1 + 1 + 1 + 1 + 1 + 1 + 1 + 1 + 1 + 1 + 1 + 1 + 1 + 1, 0, none⟩))) ∧ W.cell? ⟨wr.heap.size + 1 + 1 + 1 + 1 + 1 + 1 + 1 + 1 + 1 + 1 + 1 + 1 + 1 + 1 + 1 + 1 + 1 + 1 + 1 + 1 + 1, 0, none⟩ = some (.int .u32 o2) ∧ W.cell? ⟨wr.heap.size + 1 + 1 + 1 + 1 + 1 + 1 + 1 + 1 + 1 + 1 + 1 + 1 + 1 + 1 + 1 + 1 + 1 + 1 + 1 + 1 + 1, 1, none⟩ = some (.int .u32 l2) ∧ W.cell? ⟨wr.heap.size + 1 + 1 + 1 + 1 + 1 + 1 + 1 + 1 + 1 + 1 + 1 + 1 + 1 + 1 + 1 + 1 + 1 + 1 + 1 + 1 + 1 + 1, 2, none⟩ = some (.int .u32 o5) ∧ W.cell? ⟨wr.heap.size + 1 + 1 + 1 + 1 + 1 + 1 + 1 + 1 + 1 + 1 + 1 + 1 + 1 + 1 + 1 + 1 + 1 + 1 + 1 + 1 + 1 + 1, 3, none⟩ = some (.int .u32 l5) ∧ Below w.heap.size w W)
      ⟨by simp [go_sem], by simp [go_sem], by simp [go_sem], by simp [go_sem], by simp [go_sem], by simp [go_sem], by simp [go_sem], by simp [go_sem], by simp [go_sem], by simp [go_sem], by simp [go_sem], by simp [go_sem], by simp [go_sem], by simp [go_sem], by simp [go_sem], below_next BW (by go_grown)⟩ ?_
    clear BW
    rintro X ⟨s0, s1, s2, s3, s4, s5, s6, s7, s8, s9, s10, s11, s12, s13, s14, BW⟩
    clear wo0 wl0 wm0 wo1 wl1 wm1 wo2 wl2 wm2 wo3 wl3 wm3 wo4 wl4 wm4 wo5 wl5 wm5
    refine (ePosI (wr.heap.size + 1 + 1 + 1 + 1 + 1 + 1 + 1 + 1 + 1 + 1 + 1 + 1 + 1 + 1 + 1 + 1 + 1 + 1 + 1 + 1 + 1 + 1 + 1 + 1 + 1) (wr.heap.size + 1 + 1 + 1 + 1 + 1 + 1 + 1 + 1) (wr.heap.size + 1 + 1 + 1 + 1 + 1 + 1 + 1) (wr.heap.size + 1 + 1 + 1 + 1 + 1 + 1) o0 l0 X s0 s2 s3 s4 s5).mono ?_
    rintro e w' ⟨rfl, rfl⟩
    go_wp2_with fail
    refine (eEndV (wr.heap.size + 1 + 1 + 1 + 1 + 1 + 1 + 1 + 1 + 1 + 1 + 1 + 1 + 1 + 1 + 1 + 1 + 1 + 1 + 1 + 1 + 1 + 1 + 1 + 1 + 1) (wr.heap.size + 1 + 1 + 1 + 1 + 1 + 1 + 1 + 1 + 1 + 1 + 1 + 1 + 1 + 1 + 1 + 1 + 1 + 1 + 1 + 1 + 1 + 1 + 1 + 1) (wr.heap.size + 1 + 1 + 1 + 1 + 1 + 1 + 1 + 1 + 1 + 1 + 1 + 1 + 1 + 1 + 1 + 1 + 1 + 1 + 1 + 1 + 1 + 1 + 1) (wr.heap.size + 1 + 1 + 1 + 1 + 1 + 1 + 1 + 1 + 1 + 1 + 1 + 1 + 1 + 1 + 1 + 1 + 1 + 1 + 1 + 1 + 1 + 1) o5 l5 _ (cell_later (w := X) (by go_grown) s1) (cell_later (w := X) (by go_grown) s8) (cell_later (w := X) (by go_grown) s10) (cell_later (w := X) (by go_grown) s13) (cell_later (w := X) (by go_grown) s14)).mono ?_
    rintro e w2 ⟨rfl, hb⟩
    have t0 : w2.cell? ⟨X.heap.size + 1 + 1 + 1, 0, none⟩ = some (.int .u32 o0) := cell_later hb (by simp [go_sem])
    have t1 : w2.cell? ⟨X.heap.size + 1 + 1 + 1, 1, none⟩ = some (.int .u32 l0) := cell_later hb (by simp [go_sem])
    have B2 : Below w.heap.size w w2 := Below.trans BW (Below.mono (Below.trans (by go_grown) (hb.mono (by simp; omega))) BW.size)
    clear hb BW s0 s1 s2 s3 s4 s5 s6 s7 s8 s9 s10 s11 s12 s13 s14
    obtain ⟨tO, eT⟩ : ∃ x, x = o5 := ⟨_, rfl⟩
    obtain ⟨tL, eL⟩ : ∃ x, x = l5 := ⟨_, rfl⟩
    have gT : o0 ≤ tO ∧ tO ≤ 4294967284 := by omega
    rw [← eT, ← eL]
    clear eT eL
    have v1 : oI o0 = o0 := by unfold oI; rw [if_neg (by omega)]
    have v2 : oI tO = tO := by unfold oI; rw [if_neg (by omega)]
    have v3 : decide (o0 ≤ tO) = true := decide_eq_true (by omega)
    have v4 : aB o0 l0 tO = false := by unfold aB; rw [decide_eq_false (show ¬ tO < o0 by omega)]; simp
    have hzz := lt_of_cell t0
    go_wp2_with fail
    refine wp_world (fun W => W.cell? ⟨X.heap.size + 1 + 1 + 1, 0, none⟩ = some (.int .u32 o0) ∧ W.cell? ⟨X.heap.size + 1 + 1 + 1, 1, none⟩ = some (.int .u32 l0) ∧ W.cell? ⟨w2.heap.size, 0, none⟩ = some (.int .u32 tO) ∧ W.cell? ⟨w2.heap.size, 1, none⟩ = some (.int .u32 tL) ∧ Below w.heap.size w W)
      ⟨cell_later (w := w2) (by go_grown) t0, cell_later (w := w2) (by go_grown) t1, by simp [go_sem], by simp [go_sem], below_next B2 (by go_grown)⟩ ?_
    clear B2 t0 t1
    rintro Z ⟨s0, s1, s2, s3, BW⟩
    go_region_held3 (fun W => W.cell? ⟨X.heap.size + 1 + 1 + 1, 0, none⟩ = some (.int .u32 o0) ∧ W.cell? ⟨X.heap.size + 1 + 1 + 1, 1, none⟩ = some (.int .u32 l0) ∧ W.cell? ⟨w2.heap.size, 0, none⟩ = some (.int .u32 tO) ∧ W.cell? ⟨w2.heap.size, 1, none⟩ = some (.int .u32 tL)) (exact ⟨cell_later (w := Z) (by go_grown) s0, cell_later (w := Z) (by go_grown) s1, cell_later (w := Z) (by go_grown) s2, cell_later (w := Z) (by go_grown) s3⟩) (first | (go_at_call 17; refine (offset _ _ _ (by omega) (by omega)).mono ?_; rintro e w' ⟨rfl, rfl⟩) | (go_at_call 21; refine (after _ _ _ _ _).mono ?_; rintro e w' ⟨rfl, rfl⟩))
    go_wp2
    go_ret
    exact ⟨rfl, below_next BW (by go_grown)⟩
  · have tk : True := trivial
    go_wp2_with (first | (go_at_call 25; (first | (with_reducible refine (zPos x0 o0 l0 _ ?_ ?_ ?_ ?_ ?_).mono ?_; exact wo0; exact wl0; exact wm0; exact b0.1; exact b0.2) | (with_reducible refine (zPos x1 o1 l1 _ ?_ ?_ ?_ ?_ ?_).mono ?_; exact wo1; exact wl1; exact wm1; exact b1.1; exact b1.2) | (with_reducible refine (zPos x2 o2 l2 _ ?_ ?_ ?_ ?_ ?_).mono ?_; exact wo2; exact wl2; exact wm2; exact b2.1; exact b2.2) | (with_reducible refine (zPos x3 o3 l3 _ ?_ ?_ ?_ ?_ ?_).mono ?_; exact wo3; exact wl3; exact wm3; exact b3.1; exact b3.2) | (with_reducible refine (zPos x4 o4 l4 _ ?_ ?_ ?_ ?_ ?_).mono ?_; exact wo4; exact wl4; exact wm4; exact b4.1; exact b4.2) | (with_reducible refine (zPos x5 o5 l5 _ ?_ ?_ ?_ ?_ ?_).mono ?_; exact wo5; exact wl5; exact wm5; exact b5.1; exact b5.2)); rintro e w' ⟨rfl, rfl⟩) | (go_at_call 24; refine (litW1 _ _ _ _ _ _).mono ?_; rintro e w' ⟨rfl, rfl⟩) | (go_at_call 26; refine (litW2 _ _ _ _ _ _ _ _ _ _ _).mono ?_; rintro e w' ⟨rfl, rfl⟩) | (go_at_call 27; refine (zElem1 _ _ _ _ hm.1 hm.2 hr).mono ?_; rintro e w' ⟨rfl, rfl⟩))
    refine calls_world (fun W => W.cell? ⟨wr.heap.size + 1 + 1 + 1 + 1 + 1 + 1 + 1 + 1 + 1 + 1 + 1 + 1 + 1 + 1 + 1 + 1 + 1 + 1 + 1 + 1 + 1 + 1 + 1 + 1 + 1, 0, none⟩ = some .nilIface ∧ W.cell? ⟨wr.heap.size + 1 + 1 + 1 + 1 + 1 + 1 + 1 + 1 + 1 + 1 + 1 + 1 + 1 + 1 + 1 + 1 + 1 + 1 + 1 + 1 + 1 + 1 + 1 + 1 + 1, 1, none⟩ = some (.pointer (some ⟨wr.heap.size + 1 + 1 + 1 + 1 + 1 + 1 + 1 + 1 + 1 + 1 + 1 + 1 + 1 + 1 + 1 + 1 + 1 + 1 + 1 + 1 + 1 + 1 + 1 + 1, 0, none⟩)) ∧ W.cell? ⟨wr.heap.size + 1 + 1 + 1 + 1 + 1 + 1 + 1 + 1, 0, none⟩ = some (.slice (some ⟨wr.heap.size + 1 + 1 + 1 + 1 + 1 + 1 + 1, 0, none⟩) 1 1) ∧ W.cell? ⟨wr.heap.size + 1 + 1 + 1 + 1 + 1 + 1 + 1, 0, none⟩ = some (.iface 72 (.pointer (some ⟨wr.heap.size + 1 + 1 + 1 + 1 + 1 + 1, 0, none⟩))) ∧ W.cell? ⟨wr.heap.size + 1 + 1 + 1 + 1 + 1 + 1, 0, none⟩ = some (.int .u32 o0) ∧ W.cell? ⟨wr.heap.size + 1 + 1 + 1 + 1 + 1 + 1, 1, none⟩ = some (.int .u32 l0) ∧ W.cell? ⟨wr.heap.size + 1 + 1 + 1 + 1 + 1 + 1, 2, none⟩ = some (.int .u32 o1) ∧ W.cell? ⟨wr.heap.size + 1 + 1 + 1 + 1 + 1 + 1, 3, none⟩ = some (.int .u32 l1) ∧ W.cell? ⟨wr.heap.size + 1 + 1 + 1 + 1 + 1 + 1 + 1 + 1 + 1 + 1 + 1 + 1 + 1 + 1 + 1 + 1 + 1 + 1 + 1 + 1 + 1 + 1 + 1 + 1, 0, none⟩ = some (.slice (some ⟨wr.heap.size + 1 + 1 + 1 + 1 + 1 + 1 + 1 + 1 + 1 + 1 + 1 + 1 + 1 + 1 + 1 + 1 + 1 + 1 + 1 + 1 + 1 + 1 + 1, 0, none⟩) 2 2) ∧ W.cell? ⟨wr.heap.size + 1 + 1 + 1 + 1 + 1 + 1 + 1 + 1 + 1 + 1 + 1 + 1 + 1 + 1 + 1 + 1 + 1 + 1 + 1 + 1 + 1 + 1 + 1, 0, none⟩ = some (.iface 72 (.pointer (some ⟨wr.heap.size + 1 + 1 + 1 + 1 + 1 + 1 + 1 + 1 + 1 + 1 + 1 + 1 + 1 + 1 + 1 + 1 + 1 + 1 + 1 + 1 + 1, 0, none⟩))) ∧ W.cell? ⟨wr.heap.size + 1 + 1 + 1 + 1 + 1 + 1 + 1 + 1 + 1 + 1 + 1 + 1 + 1 + 1 + 1 + 1 + 1 + 1 + 1 + 1 + 1 + 1 + 1, 1, none⟩ = some (.iface 72 (.pointer (some ⟨wr.heap.size + 1 + 1 + 1 + 1 + 1 + 1 + 1 + 1 + 1 + 1 + 1 + 1 + 1 + 1 + 1 + 1 + 1 + 1 + 1 + 1 + 1 + 1, 0, none⟩))) ∧ W.cell? ⟨wr.heap.size + 1 + 1 + 1 + 1 + 1 + 1 + 1 + 1 + 1 + 1 + 1 + 1 + 1 + 1 + 1 + 1 + 1 + 1 + 1 + 1 + 1, 0, none⟩ = some (.int .u32 o2) ∧ W.cell? ⟨wr.heap.size + 1 + 1 + 1 + 1 + 1 + 1 + 1 + 1 + 1 + 1 + 1 + 1 + 1 + 1 + 1 + 1 + 1 + 1 + 1 + 1 + 1, 1, none⟩ = some (.int .u32 l2) ∧ W.cell? ⟨wr.heap.size + 1 + 1 + 1 + 1 + 1 + 1 + 1 + 1 + 1 + 1 + 1 + 1 + 1 + 1 + 1 + 1 + 1 + 1 + 1 + 1 + 1 + 1, 2, none⟩ = some (.int .u32 o5) ∧ W.cell? ⟨wr.heap.size + 1 + 1 + 1 + 1 + 1 + 1 + 1 + 1 + 1 + 1 + 1 + 1 + 1 + 1 + 1 + 1 + 1 + 1 + 1 + 1 + 1 + 1, 3, none⟩ = some (.int .u32 l5) ∧ Below w.heap.size w W)
      ⟨by simp [go_sem], by simp [go_sem], by simp [go_sem], by simp [go_sem], by simp [go_sem], by simp [go_sem], by simp [go_sem], by simp [go_sem], by simp [go_sem], by simp [go_sem], by simp [go_sem], by simp [go_sem], by simp [go_sem], by simp [go_sem], by simp [go_sem], below_next BW (by go_grown)⟩ ?_
    clear BW
    rintro X ⟨s0, s1, s2, s3, s4, s5, s6, s7, s8, s9, s10, s11, s12, s13, s14, BW⟩
    clear wo0 wl0 wm0 wo1 wl1 wm1 wo2 wl2 wm2 wo3 wl3 wm3 wo4 wl4 wm4 wo5 wl5 wm5
    refine (ePosV (wr.heap.size + 1 + 1 + 1 + 1 + 1 + 1 + 1 + 1 + 1 + 1 + 1 + 1 + 1 + 1 + 1 + 1 + 1 + 1 + 1 + 1 + 1 + 1 + 1 + 1 + 1) (wr.heap.size + 1 + 1 + 1 + 1 + 1 + 1 + 1 + 1 + 1 + 1 + 1 + 1 + 1 + 1 + 1 + 1 + 1 + 1 + 1 + 1 + 1 + 1 + 1 + 1) (wr.heap.size + 1 + 1 + 1 + 1 + 1 + 1 + 1 + 1 + 1 + 1 + 1 + 1 + 1 + 1 + 1 + 1 + 1 + 1 + 1 + 1 + 1 + 1 + 1) (wr.heap.size + 1 + 1 + 1 + 1 + 1 + 1 + 1 + 1 + 1 + 1 + 1 + 1 + 1 + 1 + 1 + 1 + 1 + 1 + 1 + 1 + 1) o2 l2 X s0 s1 s8 s9 s11 s12).mono ?_
    rintro e w' ⟨rfl, rfl⟩
    go_wp2_with fail
    refine (eEndV (wr.heap.size + 1 + 1 + 1 + 1 + 1 + 1 + 1 + 1 + 1 + 1 + 1 + 1 + 1 + 1 + 1 + 1 + 1 + 1 + 1 + 1 + 1 + 1 + 1 + 1 + 1) (wr.heap.size + 1 + 1 + 1 + 1 + 1 + 1 + 1 + 1 + 1 + 1 + 1 + 1 + 1 + 1 + 1 + 1 + 1 + 1 + 1 + 1 + 1 + 1 + 1 + 1) (wr.heap.size + 1 + 1 + 1 + 1 + 1 + 1 + 1 + 1 + 1 + 1 + 1 + 1 + 1 + 1 + 1 + 1 + 1 + 1 + 1 + 1 + 1 + 1 + 1) (wr.heap.size + 1 + 1 + 1 + 1 + 1 + 1 + 1 + 1 + 1 + 1 + 1 + 1 + 1 + 1 + 1 + 1 + 1 + 1 + 1 + 1 + 1 + 1) o5 l5 _ (cell_later (w := X) (by go_grown) s1) (cell_later (w := X) (by go_grown) s8) (cell_later (w := X) (by go_grown) s10) (cell_later (w := X) (by go_grown) s13) (cell_later (w := X) (by go_grown) s14)).mono ?_
    rintro e w2 ⟨rfl, hb⟩
    have t0 : w2.cell? ⟨X.heap.size + 1 + 1 + 1, 0, none⟩ = some (.int .u32 o2) := cell_later hb (by simp [go_sem])
    have t1 : w2.cell? ⟨X.heap.size + 1 + 1 + 1, 1, none⟩ = some (.int .u32 l2) := cell_later hb (by simp [go_sem])
    have B2 : Below w.heap.size w w2 := Below.trans BW (Below.mono (Below.trans (by go_grown) (hb.mono (by simp; omega))) BW.size)
    clear hb BW s0 s1 s2 s3 s4 s5 s6 s7 s8 s9 s10 s11 s12 s13 s14
    obtain ⟨tO, eT⟩ : ∃ x, x = o5 := ⟨_, rfl⟩
    obtain ⟨tL, eL⟩ : ∃ x, x = l5 := ⟨_, rfl⟩
    have gT : o2 ≤ tO ∧ tO ≤ 4294967284 := by omega
    rw [← eT, ← eL]
    clear eT eL
    have v1 : oI o2 = o2 := by unfold oI; rw [if_neg (by omega)]
    have v2 : oI tO = tO := by unfold oI; rw [if_neg (by omega)]
    have v3 : decide (o2 ≤ tO) = true := decide_eq_true (by omega)
    have v4 : aB o2 l2 tO = false := by unfold aB; rw [decide_eq_false (show ¬ tO < o2 by omega)]; simp
    have hzz := lt_of_cell t0
    go_wp2_with fail
    refine wp_world (fun W => W.cell? ⟨X.heap.size + 1 + 1 + 1, 0, none⟩ = some (.int .u32 o2) ∧ W.cell? ⟨X.heap.size + 1 + 1 + 1, 1, none⟩ = some (.int .u32 l2) ∧ W.cell? ⟨w2.heap.size, 0, none⟩ = some (.int .u32 tO) ∧ W.cell? ⟨w2.heap.size, 1, none⟩ = some (.int .u32 tL) ∧ Below w.heap.size w W)
      ⟨cell_later (w := w2) (by go_grown) t0, cell_later (w := w2) (by go_grown) t1, by simp [go_sem], by simp [go_sem], below_next B2 (by go_grown)⟩ ?_
    clear B2 t0 t1
    rintro Z ⟨s0, s1, s2, s3, BW⟩
    go_region_held3 (fun W => W.cell? ⟨X.heap.size + 1 + 1 + 1, 0, none⟩ = some (.int .u32 o2) ∧ W.cell? ⟨X.heap.size + 1 + 1 + 1, 1, none⟩ = some (.int .u32 l2) ∧ W.cell? ⟨w2.heap.size, 0, none⟩ = some (.int .u32 tO) ∧ W.cell? ⟨w2.heap.size, 1, none⟩ = some (.int .u32 tL)) (exact ⟨cell_later (w := Z) (by go_grown) s0, cell_later (w := Z) (by go_grown) s1, cell_later (w := Z) (by go_grown) s2, cell_later (w := Z) (by go_grown) s3⟩) (first | (go_at_call 17; refine (offset _ _ _ (by omega) (by omega)).mono ?_; rintro e w' ⟨rfl, rfl⟩) | (go_at_call 21; refine (after _ _ _ _ _).mono ?_; rintro e w' ⟨rfl, rfl⟩))
    go_wp2
    go_ret
    exact ⟨rfl, below_next BW (by go_grown)⟩
  · have tk : True := trivial
    go_wp2_with (first | (go_at_call 25; (first | (with_reducible refine (zPos x0 o0 l0 _ ?_ ?_ ?_ ?_ ?_).mono ?_; exact wo0; exact wl0; exact wm0; exact b0.1; exact b0.2) | (with_reducible refine (zPos x1 o1 l1 _ ?_ ?_ ?_ ?_ ?_).mono ?_; exact wo1; exact wl1; exact wm1; exact b1.1; exact b1.2) | (with_reducible refine (zPos x2 o2 l2 _ ?_ ?_ ?_ ?_ ?_).mono ?_; exact wo2; exact wl2; exact wm2; exact b2.1; exact b2.2) | (with_reducible refine (zPos x3 o3 l3 _ ?_ ?_ ?_ ?_ ?_).mono ?_; exact wo3; exact wl3; exact wm3; exact b3.1; exact b3.2) | (with_reducible refine (zPos x4 o4 l4 _ ?_ ?_ ?_ ?_ ?_).mono ?_; exact wo4; exact wl4; exact wm4; exact b4.1; exact b4.2) | (with_reducible refine (zPos x5 o5 l5 _ ?_ ?_ ?_ ?_ ?_).mono ?_; exact wo5; exact wl5; exact wm5; exact b5.1; exact b5.2)); rintro e w' ⟨rfl, rfl⟩) | (go_at_call 24; refine (litW1 _ _ _ _ _ _).mono ?_; rintro e w' ⟨rfl, rfl⟩) | (go_at_call 26; refine (litW2 _ _ _ _ _ _ _ _ _ _ _).mono ?_; rintro e w' ⟨rfl, rfl⟩) | (go_at_call 27; refine (zElem2 _ _ _ _ hm.1 hm.2 hr).mono ?_; rintro e w' ⟨rfl, rfl⟩))
    refine calls_world (fun W => W.cell? ⟨wr.heap.size + 1 + 1 + 1 + 1 + 1 + 1 + 1 + 1 + 1 + 1 + 1 + 1 + 1 + 1 + 1 + 1 + 1 + 1 + 1 + 1 + 1 + 1 + 1 + 1 + 1, 0, none⟩ = some (.iface 35 (.pointer (some ⟨wr.heap.size + 1 + 1 + 1 + 1 + 1 + 1 + 1 + 1, 0, none⟩))) ∧ W.cell? ⟨wr.heap.size + 1 + 1 + 1 + 1 + 1 + 1 + 1 + 1 + 1 + 1 + 1 + 1 + 1 + 1 + 1 + 1 + 1 + 1 + 1 + 1 + 1 + 1 + 1 + 1 + 1, 1, none⟩ = some (.pointer none) ∧ W.cell? ⟨wr.heap.size + 1 + 1 + 1 + 1 + 1 + 1 + 1 + 1, 0, none⟩ = some (.slice (some ⟨wr.heap.size + 1 + 1 + 1 + 1 + 1 + 1 + 1, 0, none⟩) 1 1) ∧ W.cell? ⟨wr.heap.size + 1 + 1 + 1 + 1 + 1 + 1 + 1, 0, none⟩ = some (.iface 72 (.pointer (some ⟨wr.heap.size + 1 + 1 + 1 + 1 + 1 + 1, 0, none⟩))) ∧ W.cell? ⟨wr.heap.size + 1 + 1 + 1 + 1 + 1 + 1, 0, none⟩ = some (.int .u32 o0) ∧ W.cell? ⟨wr.heap.size + 1 + 1 + 1 + 1 + 1 + 1, 1, none⟩ = some (.int .u32 l0) ∧ W.cell? ⟨wr.heap.size + 1 + 1 + 1 + 1 + 1 + 1, 2, none⟩ = some (.int .u32 o1) ∧ W.cell? ⟨wr.heap.size + 1 + 1 + 1 + 1 + 1 + 1, 3, none⟩ = some (.int .u32 l1) ∧ W.cell? ⟨wr.heap.size + 1 + 1 + 1 + 1 + 1 + 1 + 1 + 1 + 1 + 1 + 1 + 1 + 1 + 1 + 1 + 1 + 1 + 1 + 1 + 1 + 1 + 1 + 1 + 1, 0, none⟩ = some (.slice (some ⟨wr.heap.size + 1 + 1 + 1 + 1 + 1 + 1 + 1 + 1 + 1 + 1 + 1 + 1 + 1 + 1 + 1 + 1 + 1 + 1 + 1 + 1 + 1 + 1 + 1, 0, none⟩) 2 2) ∧ W.cell? ⟨wr.heap.size + 1 + 1 + 1 + 1 + 1 + 1 + 1 + 1 + 1 + 1 + 1 + 1 + 1 + 1 + 1 + 1 + 1 + 1 + 1 + 1 + 1 + 1 + 1, 0, none⟩ = some (.iface 72 (.pointer (some ⟨wr.heap.size + 1 + 1 + 1 + 1 + 1 + 1 + 1 + 1 + 1 + 1 + 1 + 1 + 1 + 1 + 1 + 1 + 1 + 1 + 1 + 1 + 1, 0, none⟩))) ∧ W.cell? ⟨wr.heap.size + 1 + 1 + 1 + 1 + 1 + 1 + 1 + 1 + 1 + 1 + 1 + 1 + 1 + 1 + 1 + 1 + 1 + 1 + 1 + 1 + 1 + 1 + 1, 1, none⟩ = some (.iface 72 (.pointer (some ⟨wr.heap.size + 1 + 1 + 1 + 1 + 1 + 1 + 1 + 1 + 1 + 1 + 1 + 1 + 1 + 1 + 1 + 1 + 1 + 1 + 1 + 1 + 1 + 1, 0, none⟩))) ∧ W.cell? ⟨wr.heap.size + 1 + 1 + 1 + 1 + 1 + 1 + 1 + 1 + 1 + 1 + 1 + 1 + 1 + 1 + 1 + 1 + 1 + 1 + 1 + 1 + 1, 0, none⟩ = some (.int .u32 o2) ∧ W.cell? ⟨wr.heap.size + 1 + 1 + 1 + 1 + 1 + 1 + 1 + 1 + 1 + 1 + 1 + 1 + 1 + 1 + 1 + 1 + 1 + 1 + 1 + 1 + 1, 1, none⟩ = some (.int .u32 l2) ∧ W.cell? ⟨wr.heap.size + 1 + 1 + 1 + 1 + 1 + 1 + 1 + 1 + 1 + 1 + 1 + 1 + 1 + 1 + 1 + 1 + 1 + 1 + 1 + 1 + 1 + 1, 2, none⟩ = some (.int .u32 o5) ∧ W.cell? ⟨wr.heap.size + 1 + 1 + 1 + 1 + 1 + 1 + 1 + 1 + 1 + 1 + 1 + 1 + 1 + 1 + 1 + 1 + 1 + 1 + 1 + 1 + 1 + 1, 3, none⟩ = some (.int .u32 l5) ∧ Below w.heap.size w W)
      ⟨by simp [go_sem], by simp [go_sem], by simp [go_sem], by simp [go_sem], by simp [go_sem], by simp [go_sem], by simp [go_sem], by simp [go_sem], by simp [go_sem], by simp [go_sem], by simp [go_sem], by simp [go_sem], by simp [go_sem], by simp [go_sem], by simp [go_sem], below_next BW (by go_grown)⟩ ?_
    clear BW
    rintro X ⟨s0, s1, s2, s3, s4, s5, s6, s7, s8, s9, s10, s11, s12, s13, s14, BW⟩
    clear wo0 wl0 wm0 wo1 wl1 wm1 wo2 wl2 wm2 wo3 wl3 wm3 wo4 wl4 wm4 wo5 wl5 wm5
    refine (ePosI (wr.heap.size + 1 + 1 + 1 + 1 + 1 + 1 + 1 + 1 + 1 + 1 + 1 + 1 + 1 + 1 + 1 + 1 + 1 + 1 + 1 + 1 + 1 + 1 + 1 + 1 + 1) (wr.heap.size + 1 + 1 + 1 + 1 + 1 + 1 + 1 + 1) (wr.heap.size + 1 + 1 + 1 + 1 + 1 + 1 + 1) (wr.heap.size + 1 + 1 + 1 + 1 + 1 + 1) o0 l0 X s0 s2 s3 s4 s5).mono ?_
    rintro e w' ⟨rfl, rfl⟩
    go_wp2_with fail
    refine (eEndI (wr.heap.size + 1 + 1 + 1 + 1 + 1 + 1 + 1 + 1 + 1 + 1 + 1 + 1 + 1 + 1 + 1 + 1 + 1 + 1 + 1 + 1 + 1 + 1 + 1 + 1 + 1) (wr.heap.size + 1 + 1 + 1 + 1 + 1 + 1 + 1 + 1) (wr.heap.size + 1 + 1 + 1 + 1 + 1 + 1 + 1) (wr.heap.size + 1 + 1 + 1 + 1 + 1 + 1) o1 l1 _ (by omega) (by omega) (by omega) (cell_later (w := X) (by go_grown) s0) (cell_later (w := X) (by go_grown) s1) (cell_later (w := X) (by go_grown) s2) (cell_later (w := X) (by go_grown) s3) (cell_later (w := X) (by go_grown) s6) (cell_later (w := X) (by go_grown) s7)).mono ?_
    rintro e w2 ⟨rfl, hb⟩
    have t0 : w2.cell? ⟨X.heap.size + 1 + 1 + 1, 0, none⟩ = some (.int .u32 o0) := cell_later hb (by simp [go_sem])
    have t1 : w2.cell? ⟨X.heap.size + 1 + 1 + 1, 1, none⟩ = some (.int .u32 l0) := cell_later hb (by simp [go_sem])
    have B2 : Below w.heap.size w w2 := Below.trans BW (Below.mono (Below.trans (by go_grown) (hb.mono (by simp; omega))) BW.size)
    clear hb BW s0 s1 s2 s3 s4 s5 s6 s7 s8 s9 s10 s11 s12 s13 s14
    obtain ⟨tO, eT⟩ : ∃ x, x = (pO o1 l1 2) := ⟨_, rfl⟩
    obtain ⟨tL, eL⟩ : ∃ x, x = (pL o1 l1 2) := ⟨_, rfl⟩
    have hv : vB o1 l1 = true := by simp [vB]; omega
    have gT : o0 ≤ tO ∧ tO ≤ 4294967284 := by rw [eT]; unfold pO; rw [if_pos hv]; split <;> omega
    rw [← eT, ← eL]
    clear eT eL
    have v1 : oI o0 = o0 := by unfold oI; rw [if_neg (by omega)]
    have v2 : oI tO = tO := by unfold oI; rw [if_neg (by omega)]
    have v3 : decide (o0 ≤ tO) = true := decide_eq_true (by omega)
    have v4 : aB o0 l0 tO = false := by unfold aB; rw [decide_eq_false (show ¬ tO < o0 by omega)]; simp
    have hzz := lt_of_cell t0
    go_wp2_with fail
    refine wp_world (fun W => W.cell? ⟨X.heap.size + 1 + 1 + 1, 0, none⟩ = some (.int .u32 o0) ∧ W.cell? ⟨X.heap.size + 1 + 1 + 1, 1, none⟩ = some (.int .u32 l0) ∧ W.cell? ⟨w2.heap.size, 0, none⟩ = some (.int .u32 tO) ∧ W.cell? ⟨w2.heap.size, 1, none⟩ = some (.int .u32 tL) ∧ Below w.heap.size w W)
      ⟨cell_later (w := w2) (by go_grown) t0, cell_later (w := w2) (by go_grown) t1, by simp [go_sem], by simp [go_sem], below_next B2 (by go_grown)⟩ ?_
    clear B2 t0 t1
    rintro Z ⟨s0, s1, s2, s3, BW⟩
    go_region_held3 (fun W => W.cell? ⟨X.heap.size + 1 + 1 + 1, 0, none⟩ = some (.int .u32 o0) ∧ W.cell? ⟨X.heap.size + 1 + 1 + 1, 1, none⟩ = some (.int .u32 l0) ∧ W.cell? ⟨w2.heap.size, 0, none⟩ = some (.int .u32 tO) ∧ W.cell? ⟨w2.heap.size, 1, none⟩ = some (.int .u32 tL)) (exact ⟨cell_later (w := Z) (by go_grown) s0, cell_later (w := Z) (by go_grown) s1, cell_later (w := Z) (by go_grown) s2, cell_later (w := Z) (by go_grown) s3⟩) (first | (go_at_call 17; refine (offset _ _ _ (by omega) (by omega)).mono ?_; rintro e w' ⟨rfl, rfl⟩) | (go_at_call 21; refine (after _ _ _ _ _).mono ?_; rintro e w' ⟨rfl, rfl⟩))
    go_wp2
    go_ret
    exact ⟨rfl, below_next BW (by go_grown)⟩
theorem law (m x0 x1 x2 x3 x4 x5 : Int) (s0 s1 s2 : ByteArray) (w : World) (hm : 0 ≤ m ∧ m ≤ 255) (b0 : 0 ≤ x0 ∧ x0 ≤ 18446744073709551615) (b1 : 0 ≤ x1 ∧ x1 ≤ 18446744073709551615) (b2 : 0 ≤ x2 ∧ x2 ≤ 18446744073709551615) (b3 : 0 ≤ x3 ∧ x3 ≤ 18446744073709551615) (b4 : 0 ≤ x4 ∧ x4 ≤ 18446744073709551615) (b5 : 0 ≤ x5 ∧ x5 ≤ 18446744073709551615) (z0 : s0.size ≤ maxLen) (z1 : s1.size ≤ maxLen) (z2 : s2.size ≤ maxLen) :
    Calls Try.prog 6 #[.int .u8 m, .int .u64 x0, .int .u64 x1, .int .u64 x2, .int .u64 x3, .int .u64 x4, .int .u64 x5, .string s0, .string s1, .string s2] w fun e w' => e = .returned (.bool true) ∧ Below w.heap.size w w' := by
  by_cases hs : 1048576 < (s0.size : Int) + (s1.size : Int) + (s2.size : Int)
  · have HS := Lib.hid hs
    clear hs
    go_enter Try.func6, Try.ntmps6
    go_wp2_with (go_at_call 23; refine (zzBig _ _ _ _ _ _ _ _ _ _ _ HS.out z0 z1 z2).mono ?_; rintro e w' ⟨rfl, rfl⟩)
    go_ret
    exact ⟨rfl, Below.refl _ _⟩
  exact main m x0 x1 x2 x3 x4 x5 s0 s1 s2 w hm b0 b1 b2 b3 b4 b5 hs
end Go.Proofs.Ytccnpgmceoojmab.elem
