/-
  A let clause built by appends starts at its keyword, ends at the last expression's end and does not start after it ends: for every script of positions in source order.
-/
import Derived.Test.YtlaihlpokpeahaaLetB
import Derived.Deep.DeepCutAuto
import Derived.Deep.LoopGhost
namespace Go.Proofs.Ytlaihlpokpeahaa.letc
open Go.RowKit
open Go.Proofs.Ytlaihlpokpeahaa

set_option maxRecDepth 100000 in
set_option maxHeartbeats 1000000 in
theorem longer0 (lo ll : Int) (a0 a1 a2 a3 : Option Addr) (n0 n1 n2 n3 c0 c1 c2 c3 : Nat) (w : World) (m0 : n0 ≤ 9223372036854775807) (m1 : n1 ≤ 9223372036854775807) (m2 : n2 ≤ 9223372036854775807) (m3 : n3 ≤ 9223372036854775807)  (hk : 4096 < n0) : Calls Try.prog 3 #[.int .u32 lo, .int .u32 ll, .slice a0 n0 c0, .slice a1 n1 c1, .slice a2 n2 c2, .slice a3 n3 c3] w fun e w' => e = .returned (.bool true) ∧ Below w.heap.size w w' := by
  have g0 : (4096 : Int) < (n0 : Int) := by omega
  go_enter Try.func3, Try.ntmps3
  go_wp2_with (go_at_call 4; go_in)
  all_goals
    go_ret
    exact ⟨rfl, Below.refl _ _⟩
set_option maxRecDepth 100000 in
set_option maxHeartbeats 1000000 in
theorem longer1 (lo ll : Int) (a0 a1 a2 a3 : Option Addr) (n0 n1 n2 n3 c0 c1 c2 c3 : Nat) (w : World) (m0 : n0 ≤ 9223372036854775807) (m1 : n1 ≤ 9223372036854775807) (m2 : n2 ≤ 9223372036854775807) (m3 : n3 ≤ 9223372036854775807) (h0 : n0 ≤ 4096) (hk : 4096 < n1) : Calls Try.prog 3 #[.int .u32 lo, .int .u32 ll, .slice a0 n0 c0, .slice a1 n1 c1, .slice a2 n2 c2, .slice a3 n3 c3] w fun e w' => e = .returned (.bool true) ∧ Below w.heap.size w w' := by
  have g0 : decide ((4096 : Int) < (n0 : Int)) = false := decide_eq_false (by omega)
  have g1 : (4096 : Int) < (n1 : Int) := by omega
  go_enter Try.func3, Try.ntmps3
  go_wp2_with (go_at_call 4; go_in)
  all_goals
    go_ret
    exact ⟨rfl, Below.refl _ _⟩
set_option maxRecDepth 100000 in
set_option maxHeartbeats 1000000 in
theorem longer2 (lo ll : Int) (a0 a1 a2 a3 : Option Addr) (n0 n1 n2 n3 c0 c1 c2 c3 : Nat) (w : World) (m0 : n0 ≤ 9223372036854775807) (m1 : n1 ≤ 9223372036854775807) (m2 : n2 ≤ 9223372036854775807) (m3 : n3 ≤ 9223372036854775807) (h0 : n0 ≤ 4096) (h1 : n1 ≤ 4096) (hk : 4096 < n2) : Calls Try.prog 3 #[.int .u32 lo, .int .u32 ll, .slice a0 n0 c0, .slice a1 n1 c1, .slice a2 n2 c2, .slice a3 n3 c3] w fun e w' => e = .returned (.bool true) ∧ Below w.heap.size w w' := by
  have g0 : decide ((4096 : Int) < (n0 : Int)) = false := decide_eq_false (by omega)
  have g1 : decide ((4096 : Int) < (n1 : Int)) = false := decide_eq_false (by omega)
  have g2 : (4096 : Int) < (n2 : Int) := by omega
  go_enter Try.func3, Try.ntmps3
  go_wp2_with (go_at_call 4; go_in)
  all_goals
    go_ret
    exact ⟨rfl, Below.refl _ _⟩
set_option maxRecDepth 100000 in
set_option maxHeartbeats 1000000 in
theorem longer3 (lo ll : Int) (a0 a1 a2 a3 : Option Addr) (n0 n1 n2 n3 c0 c1 c2 c3 : Nat) (w : World) (m0 : n0 ≤ 9223372036854775807) (m1 : n1 ≤ 9223372036854775807) (m2 : n2 ≤ 9223372036854775807) (m3 : n3 ≤ 9223372036854775807) (h0 : n0 ≤ 4096) (h1 : n1 ≤ 4096) (h2 : n2 ≤ 4096) (hk : 4096 < n3) : Calls Try.prog 3 #[.int .u32 lo, .int .u32 ll, .slice a0 n0 c0, .slice a1 n1 c1, .slice a2 n2 c2, .slice a3 n3 c3] w fun e w' => e = .returned (.bool true) ∧ Below w.heap.size w w' := by
  have g0 : decide ((4096 : Int) < (n0 : Int)) = false := decide_eq_false (by omega)
  have g1 : decide ((4096 : Int) < (n1 : Int)) = false := decide_eq_false (by omega)
  have g2 : decide ((4096 : Int) < (n2 : Int)) = false := decide_eq_false (by omega)
  have g3 : (4096 : Int) < (n3 : Int) := by omega
  go_enter Try.func3, Try.ntmps3
  go_wp2_with (go_at_call 4; go_in)
  all_goals
    go_ret
    exact ⟨rfl, Below.refl _ _⟩
set_option maxRecDepth 100000 in
set_option maxHeartbeats 1000000 in
theorem uneven0 (lo ll : Int) (a0 a1 a2 a3 : Option Addr) (n0 n1 n2 n3 c0 c1 c2 c3 : Nat) (w : World) (h0 : n0 ≤ 4096) (h1 : n1 ≤ 4096) (h2 : n2 ≤ 4096) (h3 : n3 ≤ 4096) (hk : n0 = 0) : Calls Try.prog 3 #[.int .u32 lo, .int .u32 ll, .slice a0 n0 c0, .slice a1 n1 c1, .slice a2 n2 c2, .slice a3 n3 c3] w fun e w' => e = .returned (.bool true) ∧ Below w.heap.size w w' := by
  subst hk
  have g1 : decide ((4096 : Int) < (n1 : Int)) = false := decide_eq_false (by omega)
  have g2 : decide ((4096 : Int) < (n2 : Int)) = false := decide_eq_false (by omega)
  have g3 : decide ((4096 : Int) < (n3 : Int)) = false := decide_eq_false (by omega)
  go_enter Try.func3, Try.ntmps3
  go_wp2_with (go_at_call 4; refine (bytes6 _ _ _ _ _ _ _ _ _ _ _ _ _ _ _ h0 h1 h2 h3).mono ?_; rintro e w' ⟨rfl, rfl⟩)
  all_goals
    go_ret
    exact ⟨rfl, Below.refl _ _⟩
set_option maxRecDepth 100000 in
set_option maxHeartbeats 1000000 in
theorem uneven1 (lo ll : Int) (a0 a1 a2 a3 : Option Addr) (n0 n1 n2 n3 c0 c1 c2 c3 : Nat) (w : World) (h0 : n0 ≤ 4096) (h1 : n1 ≤ 4096) (h2 : n2 ≤ 4096) (h3 : n3 ≤ 4096) (hz : 0 < n0) (hk : n1 ≠ n0) : Calls Try.prog 3 #[.int .u32 lo, .int .u32 ll, .slice a0 n0 c0, .slice a1 n1 c1, .slice a2 n2 c2, .slice a3 n3 c3] w fun e w' => e = .returned (.bool true) ∧ Below w.heap.size w w' := by
  have e0 : ((n0 : Int) == 0) = false := by simp; omega
  have e1 : ((n0 : Int) != (n0 : Int)) = false := by simp
  have e2 : ((n1 : Int) != (n0 : Int)) = true := by simp; omega
  clear hk
  have g0 : decide ((4096 : Int) < (n0 : Int)) = false := decide_eq_false (by omega)
  have g1 : decide ((4096 : Int) < (n1 : Int)) = false := decide_eq_false (by omega)
  have g2 : decide ((4096 : Int) < (n2 : Int)) = false := decide_eq_false (by omega)
  have g3 : decide ((4096 : Int) < (n3 : Int)) = false := decide_eq_false (by omega)
  go_enter Try.func3, Try.ntmps3
  go_wp2_with (go_at_call 4; refine (bytes6 _ _ _ _ _ _ _ _ _ _ _ _ _ _ _ h0 h1 h2 h3).mono ?_; rintro e w' ⟨rfl, rfl⟩)
  all_goals
    go_ret
    exact ⟨rfl, Below.refl _ _⟩
set_option maxRecDepth 100000 in
set_option maxHeartbeats 1000000 in
theorem uneven2 (lo ll : Int) (a0 a1 a2 a3 : Option Addr) (n0 n2 n3 c0 c1 c2 c3 : Nat) (w : World) (h0 : n0 ≤ 4096) (h2 : n2 ≤ 4096) (h3 : n3 ≤ 4096) (hz : 0 < n0) (hk : n2 ≠ n0) : Calls Try.prog 3 #[.int .u32 lo, .int .u32 ll, .slice a0 n0 c0, .slice a1 n0 c1, .slice a2 n2 c2, .slice a3 n3 c3] w fun e w' => e = .returned (.bool true) ∧ Below w.heap.size w w' := by
  have e0 : ((n0 : Int) == 0) = false := by simp; omega
  have e1 : ((n0 : Int) != (n0 : Int)) = false := by simp
  have e2 : ((n2 : Int) != (n0 : Int)) = true := by simp; omega
  clear hk
  have g0 : decide ((4096 : Int) < (n0 : Int)) = false := decide_eq_false (by omega)
  have g2 : decide ((4096 : Int) < (n2 : Int)) = false := decide_eq_false (by omega)
  have g3 : decide ((4096 : Int) < (n3 : Int)) = false := decide_eq_false (by omega)
  go_enter Try.func3, Try.ntmps3
  go_wp2_with (go_at_call 4; refine (bytes6 _ _ _ _ _ _ _ _ _ _ _ _ _ _ _ h0 h0 h2 h3).mono ?_; rintro e w' ⟨rfl, rfl⟩)
  all_goals
    go_ret
    exact ⟨rfl, Below.refl _ _⟩
set_option maxRecDepth 100000 in
set_option maxHeartbeats 1000000 in
theorem uneven3 (lo ll : Int) (a0 a1 a2 a3 : Option Addr) (n0 n3 c0 c1 c2 c3 : Nat) (w : World) (h0 : n0 ≤ 4096) (h3 : n3 ≤ 4096) (hz : 0 < n0) (hk : n3 ≠ n0) : Calls Try.prog 3 #[.int .u32 lo, .int .u32 ll, .slice a0 n0 c0, .slice a1 n0 c1, .slice a2 n0 c2, .slice a3 n3 c3] w fun e w' => e = .returned (.bool true) ∧ Below w.heap.size w w' := by
  have e0 : ((n0 : Int) == 0) = false := by simp; omega
  have e1 : ((n0 : Int) != (n0 : Int)) = false := by simp
  have e2 : ((n3 : Int) != (n0 : Int)) = true := by simp; omega
  clear hk
  have g0 : decide ((4096 : Int) < (n0 : Int)) = false := decide_eq_false (by omega)
  have g3 : decide ((4096 : Int) < (n3 : Int)) = false := decide_eq_false (by omega)
  go_enter Try.func3, Try.ntmps3
  go_wp2_with (go_at_call 4; refine (bytes6 _ _ _ _ _ _ _ _ _ _ _ _ _ _ _ h0 h0 h0 h3).mono ?_; rintro e w' ⟨rfl, rfl⟩)
  all_goals
    go_ret
    exact ⟨rfl, Below.refl _ _⟩
set_option maxRecDepth 100000 in
set_option maxHeartbeats 1000000 in
theorem unreach (lo ll : Int) (b0 f0 b1 f1 b2 f2 b3 f3 n c0 c1 c2 c3 : Nat) (w : World) (hz : 0 < n) (hn : n ≤ 4096) (hr : rB lo ll = false) : Calls Try.prog 3 #[.int .u32 lo, .int .u32 ll, .slice (some ⟨b0, f0, none⟩) n c0, .slice (some ⟨b1, f1, none⟩) n c1, .slice (some ⟨b2, f2, none⟩) n c2, .slice (some ⟨b3, f3, none⟩) n c3] w fun e w' => e = .returned (.bool true) ∧ Below w.heap.size w w' := by
  have HR := Lib.hid hr
  clear hr
  have e0 : ((n : Int) == 0) = false := by simp; omega
  have e1 : ((n : Int) != (n : Int)) = false := by simp
  have g0 : ¬ (4096 : Int) < (n : Int) := by omega
  have g1 : decide ((4096 : Int) < (n : Int)) = false := decide_eq_false g0
  go_enter Try.func3, Try.ntmps3
  go_wp2_with (first | (go_at_call 4; refine (bytes6 _ _ _ _ _ _ _ _ _ _ _ _ _ _ _ hn hn hn hn).mono ?_; rintro e w' ⟨rfl, rfl⟩) | (go_at_call 5; refine (reachT lo ll _ HR.out _).mono ?_; rintro e w' ⟨rfl, rfl⟩))
  all_goals
    go_ret
    exact ⟨rfl, Below.refl _ _⟩
set_option maxRecDepth 100000 in
set_option maxHeartbeats 1000000 in
theorem ahead (lo ll z0 : Int) (b0 f0 b1 f1 b2 f2 b3 f3 n c0 c1 c2 c3 : Nat) (w : World) (hz : 0 < n) (hn : n ≤ 4096) (hr : rB lo ll = true) (x0 : w.cell? ⟨b0, f0, none⟩ = some (.int .u32 z0)) (hlt : z0 < lo) : Calls Try.prog 3 #[.int .u32 lo, .int .u32 ll, .slice (some ⟨b0, f0, none⟩) n c0, .slice (some ⟨b1, f1, none⟩) n c1, .slice (some ⟨b2, f2, none⟩) n c2, .slice (some ⟨b3, f3, none⟩) n c3] w fun e w' => e = .returned (.bool true) ∧ Below w.heap.size w w' := by
  have HR := Lib.hid hr
  clear hr
  have k2 : (0 : Int) < (n : Int) := by omega
  have e0 : ((n : Int) == 0) = false := by simp; omega
  have e1 : ((n : Int) != (n : Int)) = false := by simp
  have g0 : ¬ (4096 : Int) < (n : Int) := by omega
  have g1 : decide ((4096 : Int) < (n : Int)) = false := decide_eq_false g0
  go_enter Try.func3, Try.ntmps3
  go_wp2_with (first | (go_at_call 4; refine (bytes6 _ _ _ _ _ _ _ _ _ _ _ _ _ _ _ hn hn hn hn).mono ?_; rintro e w' ⟨rfl, rfl⟩) | (go_at_call 5; refine (reachT lo ll _ HR.out _).mono ?_; rintro e w' ⟨rfl, rfl⟩))
  all_goals
    go_ret
    exact ⟨rfl, Below.refl _ _⟩
theorem reachQ (o l : Int) (b : Bool) (h : rB o l = b) (w : World) : Calls Try.prog 5 #[.int .u32 o, .int .u32 l] w fun e w' => e = .returned (.bool b) ∧ w' = w := (reachT o l b h w).mono fun _ _ ⟨h1, h2⟩ => ⟨h1, h2.symm⟩
end Go.Proofs.Ytlaihlpokpeahaa.letc
