/-
  preNested and postNested: the law, for every script of pushes and quote states.
-/
import Derived.Test.YtccnpgmceoojmacPreC
namespace Go.Proofs.Ytccnpgmceoojmac.nest
open Go.RowKit
open Go.Proofs.Ytccnpgmceoojmac

theorem row_len {K : IntKind} {w : World} {a : Option Addr} {n c : Nat} {zs : List Int} (h : IsRowB K w a n c zs) : n ≤ 9223372036854775807 := by
  rcases h with ⟨_, rfl, _, _⟩ | ⟨x, _, hl, hm, _⟩
  · omega
  · unfold maxLen at hm; omega
theorem law18 (a0 a1 : Option Addr) (n0 n1 c0 c1 : Nat) (za zb : List Int) (w : World) (ra : IsRowB .u8 w a0 n0 c0 za) (rb : IsRowB .u8 w a1 n1 c1 zb) :
    Calls Try.prog 7 #[.slice a0 n0 c0, .slice a1 n1 c1] w fun e w' => e = .returned (.bool true) ∧ Below w.heap.size w w' := by
  have m0 := row_len ra
  have m1 := row_len rb
  by_cases h0 : 4096 < n0
  · exact longer0 a0 a1 n0 n1 c0 c1 w m0 m1 h0
  by_cases h1 : 4096 < n1
  · exact longer1 a0 a1 n0 n1 c0 c1 w (by omega) m1 h1
  by_cases h : n1 < n0
  · exact main18 a0 a1 n0 n1 c0 c1 n1 za zb w (by omega) (by omega) ra rb (by omega) (Nat.le_refl _) (Or.inl ⟨h, rfl⟩)
  · exact main18 a0 a1 n0 n1 c0 c1 n0 za zb w (by omega) (by omega) ra rb (Nat.le_refl _) (by omega) (Or.inr ⟨h, rfl⟩)
end Go.Proofs.Ytccnpgmceoojmac.nest
