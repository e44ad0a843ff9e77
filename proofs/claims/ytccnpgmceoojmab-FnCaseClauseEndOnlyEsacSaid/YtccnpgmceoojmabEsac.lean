/-
  CaseClause.End and the positions that the law makes: what they compute.
-/
import Derived.Test.YtccnpgmceoojmabCaseS
import Derived.Test.YtccnpgmceoojmabBase2
import Derived.Deep.RegionHeld3
namespace Go.Proofs.Ytccnpgmceoojmab.esac
open Go.RowKit

theorem endN1 (b : Nat) (o l : Int) (w : World) (hv : vB o l = false) (cb : w.cell? ⟨b, 6, none⟩ = some (.bool true)) (c0 : w.cell? ⟨b, 4, none⟩ = some (.int .u32 o)) (c1 : w.cell? ⟨b, 5, none⟩ = some (.int .u32 l)) :
    Calls Try.prog 16 #[.pointer (some ⟨b, 0, none⟩)] w fun e w' => e = .returned (.agg #[.int .u32 o, .int .u32 l]) ∧ (((w.alloc (.cells #[.int .u32 o, .int .u32 l] 25)).alloc (.cells #[.int .u32 o, .int .u32 l] 25)).alloc (.cells #[.int .u32 o, .int .u32 l] 25)).alloc (.cells #[.int .u32 o, .int .u32 l] 25) = w' := by
  have hlt := lt_of_cell c0
  go_enter Try.func16, Try.ntmps16
  go_wp2_with (go_at_call 42; refine (posAdd_no _ _ _ _ hv).mono ?_; rintro e w' ⟨rfl, rfl⟩)
  go_returns
  exact ⟨rfl, rfl⟩
theorem endN4 (b : Nat) (o l : Int) (w : World) (hv : vB o l = false) (cb : w.cell? ⟨b, 6, none⟩ = some (.bool false)) (c0 : w.cell? ⟨b, 4, none⟩ = some (.int .u32 o)) (c1 : w.cell? ⟨b, 5, none⟩ = some (.int .u32 l)) :
    Calls Try.prog 16 #[.pointer (some ⟨b, 0, none⟩)] w fun e w' => e = .returned (.agg #[.int .u32 o, .int .u32 l]) ∧ (((w.alloc (.cells #[.int .u32 o, .int .u32 l] 25)).alloc (.cells #[.int .u32 o, .int .u32 l] 25)).alloc (.cells #[.int .u32 o, .int .u32 l] 25)).alloc (.cells #[.int .u32 o, .int .u32 l] 25) = w' := by
  have hlt := lt_of_cell c0
  go_enter Try.func16, Try.ntmps16
  go_wp2_with (go_at_call 42; refine (posAdd_no _ _ _ _ hv).mono ?_; rintro e w' ⟨rfl, rfl⟩)
  go_returns
  exact ⟨rfl, rfl⟩
theorem reachT (o l : Int) (w : World) (h : o ≤ 4294967284 ∨ (o = 4294967285 ∧ l = 0)) : Calls Try.prog 9 #[.int .u32 o, .int .u32 l] w fun e w' => e = .returned (.bool true) ∧ w = w' := by
  rcases h with h | ⟨rfl, rfl⟩
  all_goals
    go_enter Try.func9, Try.ntmps9
    go_wp2
    go_ret
    exact ⟨rfl, rfl⟩
theorem reachF (o l : Int) (w : World) (h : ¬ (o ≤ 4294967284 ∨ (o = 4294967285 ∧ l = 0))) : Calls Try.prog 9 #[.int .u32 o, .int .u32 l] w fun e w' => e = .returned (.bool false) ∧ w = w' := by
  have h1 : ¬ o ≤ 4294967284 := fun x => h (Or.inl x)
  by_cases h2 : o = 4294967285
  · have h3 : (l == 0) = false := by simp; intro x; exact h (Or.inr ⟨h2, x⟩)
    have h4 : (o == 4294967285) = true := by simp [h2]
    clear h h2
    go_enter Try.func9, Try.ntmps9
    go_wp2
    go_ret
    exact ⟨rfl, rfl⟩
  · have h4 : (o == 4294967285) = false := by simp [h2]
    clear h h2
    go_enter Try.func9, Try.ntmps9
    go_wp2
    go_ret
    exact ⟨rfl, rfl⟩
theorem zPos (o l : Int) (w : World) : Calls Try.prog 12 #[.int .u32 o, .int .u32 l] w fun e w' => (∃ a b : Int, e = .returned (.agg #[.int .u32 a, .int .u32 b])) ∧ Below w.heap.size w w' := by
  by_cases h : o ≤ 4294967284 ∨ (o = 4294967285 ∧ l = 0)
  · go_enter Try.func12, Try.ntmps12
    go_wp2_with (first | (go_at_call 9; refine (reachT _ _ _ h).mono ?_; rintro e w' ⟨rfl, rfl⟩) | (go_at_call 10; refine (mkPos _ _ _).mono ?_; rintro e w' ⟨rfl, rfl⟩))
    go_returns
    exact ⟨⟨_, _, rfl⟩, by go_grown⟩
  · go_enter Try.func12, Try.ntmps12
    go_wp2_with (first | (go_at_call 9; refine (reachF _ _ _ h).mono ?_; rintro e w' ⟨rfl, rfl⟩) | (go_at_call 10; refine (mkPos _ _ _).mono ?_; rintro e w' ⟨rfl, rfl⟩))
    go_returns
    exact ⟨⟨_, _, rfl⟩, by go_grown⟩
theorem litW (a b c d : Int) (w : World) : Calls Try.prog 19 #[.agg #[.int .u32 a, .int .u32 b], .agg #[.int .u32 c, .int .u32 d]] w fun e w' => (∃ p, e = .returned (.pointer p)) ∧ Below w.heap.size w w' := by
  go_enter Try.func19, Try.ntmps19
  go_wp2
  go_ret
  exact ⟨⟨_, rfl⟩, by go_grown⟩
theorem hmk (k : Nat) (hk : k ≤ 4096) (w' : World) : (Instr.makeSlice 36 (.int .i64 (k : Int)) (.int .i64 (k : Int))).run Try.prog w' = .ok (.slice (some ⟨w'.heap.size, 0, none⟩) k k) (w'.alloc (.cells (madeCells #[Value.pointer none] k) 42)) :=
  run_make_row' (P := Try.prog) 36 42 (.pointer none) 8 Try.underlying36 (by kernel_rfl) rfl .i64 .i64 k (by omega) (by omega) w'
theorem made_get (k i : Nat) (h : i < k) : (madeCells #[Value.pointer none] k)[i]? = some (.pointer none) := by
  simp [madeCells, h, Nat.mod_one]
/-- What the loop keeps. -/
structure Kept (w0 : World) (g e c : Nat) (k : Nat) (o l a b : Int) (W : World) : Prop where
  row : ∀ i, i < k → ∃ q, W.cell? ⟨g, i, none⟩ = some (.pointer q)
  thaw : ∀ i, W.frozen? ⟨g, i, none⟩ = false
  e0 : W.cell? ⟨e, 0, none⟩ = some (.int .u32 o)
  e1 : W.cell? ⟨e, 1, none⟩ = some (.int .u32 l)
  c0 : W.cell? ⟨c, 0, none⟩ = some (.int .u32 a)
  c1 : W.cell? ⟨c, 1, none⟩ = some (.int .u32 b)
  bel : Below w0.heap.size w0 W
end Go.Proofs.Ytccnpgmceoojmab.esac
