/-
  newLit at every valid rune or sentinel; endLit behind it.
-/
import Derived.Test.YtccnpgmceoojmacLitB
namespace Go.Proofs.Ytccnpgmceoojmac.lit
open Go.RowKit
open Go.Proofs.Ytccnpgmceoojmac
open Go.Proofs.Ytccnpgmceoojmac.red

theorem newLit (P g m c n K : Nat) (xs : List Int) (q r : Int) (w : World) (h : Par w P g m c q r (K : Int)) (hv : valB r = true) (hK : rlen r = K) (hx : xs.length = K) (hx1 : r < 128 → xs = [r]) (hq : q = ((n + K : Nat) : Int)) (hm : n + K ≤ m) (hmc : m ≤ c) (hc : c ≤ 1048576) (hgP : g ≠ P) (hcl : ∀ i, i < K → w.cell? ⟨g, n + i, none⟩ = some (.int .u8 (xs.getD i 0))) :
    Calls Try.prog 44 #[.pointer (some ⟨P, 0, none⟩), .int .i32 r] w fun e w' => e = .returned (.tuple #[]) ∧ Newl P K xs r K w w' := by
  have hvv : 0 ≤ r ∧ r ≤ 1114111 := by simp [valB] at hv; omega
  by_cases h1 : r < 128
  · have e : K = 1 := by rw [← hK]; unfold rlen; rw [if_pos h1]
    subst e
    rw [hx1 h1]
    exact new1 P g m c q r _ w h hvv.1 h1
  by_cases h2 : r < 2048
  · have e : K = 2 := by rw [← hK]; unfold rlen; rw [if_neg h1, if_pos h2]
    subst e
    match xs, hx, hcl with
    | [a0, a1], _, hcl => exact newk2 P g m c n q r a0 a1 w h (by omega) h2 hv hq hm hmc hc hgP (hcl 0 (by omega)) (hcl 1 (by omega))
  by_cases h3 : r < 65536
  · have e : K = 3 := by rw [← hK]; unfold rlen; rw [if_neg h1, if_neg h2, if_pos h3]
    subst e
    match xs, hx, hcl with
    | [a0, a1, a2], _, hcl => exact newk3 P g m c n q r a0 a1 a2 w h (by omega) h3 hv hq hm hmc hc hgP (hcl 0 (by omega)) (hcl 1 (by omega)) (hcl 2 (by omega))
  · have e : K = 4 := by rw [← hK]; unfold rlen; rw [if_neg h1, if_neg h2, if_neg h3]
    subst e
    match xs, hx, hcl with
    | [a0, a1, a2, a3], _, hcl => exact newk4 P g m c n q r a0 a1 a2 a3 w h (by omega) hvv.2 hv hq hm hmc hc hgP (hcl 0 (by omega)) (hcl 1 (by omega)) (hcl 2 (by omega)) (hcl 3 (by omega))
theorem zNew (P K : Nat) (xs : List Int) (r wd : Int) (w : World) (H : Calls Try.prog 44 #[.pointer (some ⟨P, 0, none⟩), .int .i32 r] w fun e w' => e = .returned (.tuple #[]) ∧ Newl P K xs r wd w w') :
    Calls Try.prog 20 #[.pointer (some ⟨P, 0, none⟩), .int .i32 r] w fun e w' => e = .returned (.tuple #[]) ∧ Newl P K xs r wd w w' := by
  go_enter Try.func20, Try.ntmps20
  go_wp2_with fail
  refine H.mono ?_
  rintro e w1 ⟨rfl, q⟩
  have Q := Lib.hid q
  clear q
  go_wp2
  go_end0
  exact ⟨rfl, Q.out⟩
theorem zLit (P : Nat) (a : Option Addr) (n c : Nat) (w : World) (h : w.cell? ⟨P, 2087, none⟩ = some (.slice a n c)) : Calls Try.prog 22 #[.pointer (some ⟨P, 0, none⟩)] w fun e w' => e = .returned (.slice a n c) ∧ w = w' := by
  go_enter Try.func22, Try.ntmps22
  go_wp2
  go_ret
  exact ⟨rfl, rfl⟩
/-- What endLit leaves. -/
structure Ended (P : Nat) (w w' : World) : Prop where
  lit : w'.cell? ⟨P, 2087, none⟩ = some (.slice none 0 0)
  bel : Below P w w'
theorem conv0 (P : Nat) (w : World) : (convert 25 9 (.slice (some ⟨P, 1063, none⟩) 0 1024)).run Try.prog w = .ok (.string ⟨#[]⟩) w :=
  run_convert_bytes_arg (P := Try.prog) w 25 5 Try.underlying25 Try.underlying5 P 1063 0 1024 [] rfl (fun i hi => absurd hi (by omega)) 9 Try.underlying9
set_option maxRecDepth 100000 in
theorem endK (P K : Nat) (xs : List Int) (r : Int) (w0 w : World) (h : Newl P K xs r K w0 w) (h1 : ¬ r = 1114112) (h2 : ¬ r = 1114113) (hK : K ≤ 4) :
    Calls Try.prog 45 #[.pointer (some ⟨P, 0, none⟩)] w fun e w' => e = .returned (.string ⟨#[]⟩) ∧ Ended P w w' := by
  have c0 := h.lit
  have c3 := h.c3
  have c4 := h.c4
  have f0 := h.fz 2087
  have hlt := lt_of_cell c0
  have g1 : (r == 1114112) = false := by simp [h1]
  have g2 : (r == 1114113) = false := by simp [h2]
  have y1 : IntKind.i64.wrap ((K : Int) - (K : Int)) = 0 := by rw [show (K : Int) - (K : Int) = 0 by omega]; decide
  have y2 : IntKind.i64.wrap 0 = 0 := by decide
  have cv := fun w' => conv0 P w'
  clear h h1 h2
  go_enter Try.func45, Try.ntmps45
  go_wp2
  go_quiet (fail)
  go_wp2
  go_ret
  refine ⟨rfl, ?_, ?_⟩
  · simp [go_sem, *]
  · refine Below.setCell (below_drewN (Below.refl P w) _) ?_ _
    exact Nat.le_refl P
set_option maxRecDepth 100000 in
theorem end0 (P : Nat) (xs : List Int) (r wd : Int) (w0 w : World) (h : Newl P 0 xs r wd w0 w) (h1 : r = 1114112 ∨ r = 1114113) :
    Calls Try.prog 45 #[.pointer (some ⟨P, 0, none⟩)] w fun e w' => e = .returned (.string ⟨#[]⟩) ∧ Ended P w w' := by
  have c0 := h.lit
  have c3 := h.c3
  have c4 := h.c4
  have f0 := h.fz 2087
  have hlt := lt_of_cell c0
  have cv := fun w' => conv0 P w'
  clear h
  rcases h1 with rfl | rfl
  all_goals
    go_enter Try.func45, Try.ntmps45
    go_wp2
    go_ret
    refine ⟨rfl, ?_, ?_⟩
    · simp [go_sem, *]
    · refine Below.setCell (Below.refl P w) ?_ _
      exact Nat.le_refl P
theorem zEnd (P : Nat) (w : World) (H : Calls Try.prog 45 #[.pointer (some ⟨P, 0, none⟩)] w fun e w' => e = .returned (.string ⟨#[]⟩) ∧ Ended P w w') :
    Calls Try.prog 21 #[.pointer (some ⟨P, 0, none⟩)] w fun e w' => e = .returned (.string ⟨#[]⟩) ∧ Ended P w w' := by
  go_enter Try.func21, Try.ntmps21
  go_wp2_with fail
  refine H.mono ?_
  rintro e w1 ⟨rfl, q⟩
  have Q := Lib.hid q
  clear q
  go_wp2
  go_ret
  exact ⟨rfl, Q.out⟩
end Go.Proofs.Ytccnpgmceoojmac.lit
