/-
  A let clause built by appends: the law, for every script of positions.
-/
import Derived.Test.YtlaihlpokpeahaaLetD
namespace Go.Proofs.Ytlaihlpokpeahaa.letc
open Go.RowKit
open Go.Proofs.Ytlaihlpokpeahaa

theorem row_len {K : IntKind} {w : World} {a : Option Addr} {n c : Nat} {zs : List Int} (h : IsRowB K w a n c zs) : n ≤ 9223372036854775807 := by
  rcases h with ⟨_, rfl, _, _⟩ | ⟨x, _, hl, hm, _⟩
  · omega
  · unfold maxLen at hm; omega
theorem row_pos {K : IntKind} {w : World} {a : Option Addr} {n c : Nat} {zs : List Int} (h : IsRowB K w a n c zs) (hn : 0 < n) : ∃ b f, a = some ⟨b, f, none⟩ ∧ ∀ i, i < n → w.cell? ⟨b, f + i, none⟩ = some (.int K (zs.getD i 0)) := by
  rcases h with ⟨_, rfl, _, _⟩ | ⟨x, rfl, hl, hm, hz, hcell, _⟩
  · omega
  · obtain ⟨b, f, rfl, hc⟩ := row_at hcell (by omega)
    exact ⟨b, f, rfl, fun i hi => hc i (by omega)⟩
theorem law6 (lo ll : Int) (a0 a1 a2 a3 : Option Addr) (n0 n1 n2 n3 c0 c1 c2 c3 : Nat) (z0 z1 z2 z3 : List Int) (w : World) (r0 : IsRowB .u32 w a0 n0 c0 z0) (r1 : IsRowB .u32 w a1 n1 c1 z1) (r2 : IsRowB .u32 w a2 n2 c2 z2) (r3 : IsRowB .u32 w a3 n3 c3 z3) :
    Calls Try.prog 3 #[.int .u32 lo, .int .u32 ll, .slice a0 n0 c0, .slice a1 n1 c1, .slice a2 n2 c2, .slice a3 n3 c3] w fun e w' => e = .returned (.bool true) ∧ Below w.heap.size w w' := by
  have m0 := row_len r0
  have m1 := row_len r1
  have m2 := row_len r2
  have m3 := row_len r3
  by_cases h0 : 4096 < n0
  · exact longer0 lo ll a0 a1 a2 a3 n0 n1 n2 n3 c0 c1 c2 c3 w m0 m1 m2 m3 h0
  by_cases h1 : 4096 < n1
  · exact longer1 lo ll a0 a1 a2 a3 n0 n1 n2 n3 c0 c1 c2 c3 w m0 m1 m2 m3 (by omega) h1
  by_cases h2 : 4096 < n2
  · exact longer2 lo ll a0 a1 a2 a3 n0 n1 n2 n3 c0 c1 c2 c3 w m0 m1 m2 m3 (by omega) (by omega) h2
  by_cases h3 : 4096 < n3
  · exact longer3 lo ll a0 a1 a2 a3 n0 n1 n2 n3 c0 c1 c2 c3 w m0 m1 m2 m3 (by omega) (by omega) (by omega) h3
  by_cases k0 : n0 = 0
  · exact uneven0 lo ll a0 a1 a2 a3 n0 n1 n2 n3 c0 c1 c2 c3 w (by omega) (by omega) (by omega) (by omega) k0
  have hz : 0 < n0 := by omega
  by_cases k1 : n1 = n0
  · subst k1
    by_cases k2 : n2 = n1
    · subst k2
      by_cases k3 : n3 = n2
      · subst k3
        obtain ⟨b0, f0, rfl, hc0⟩ := row_pos r0 hz
        obtain ⟨b1, f1, rfl, hc1⟩ := row_pos r1 hz
        obtain ⟨b2, f2, rfl, hc2⟩ := row_pos r2 hz
        obtain ⟨b3, f3, rfl, hc3⟩ := row_pos r3 hz
        cases hr : rB lo ll with
        | false => exact unreach lo ll b0 f0 b1 f1 b2 f2 b3 f3 n3 c0 c1 c2 c3 w hz (by omega) hr
        | true =>
          by_cases hl : z0.getD 0 0 < lo
          · exact ahead lo ll (z0.getD 0 0) b0 f0 b1 f1 b2 f2 b3 f3 n3 c0 c1 c2 c3 w hz (by omega) hr (hc0 0 hz) hl
          · exact main6 lo ll (z0.getD 0 0) b0 f0 b1 f1 b2 f2 b3 f3 n3 c0 c1 c2 c3 z0 z1 z2 z3 w hz (by omega) hc0 hc1 hc2 hc3 hr rfl (by omega)
      · exact uneven3 lo ll a0 a1 a2 a3 n2 n3 c0 c1 c2 c3 w (by omega) (by omega) hz k3
    · exact uneven2 lo ll a0 a1 a2 a3 n1 n2 n3 c0 c1 c2 c3 w (by omega) (by omega) (by omega) hz k2
  · exact uneven1 lo ll a0 a1 a2 a3 n0 n1 n2 n3 c0 c1 c2 c3 w (by omega) (by omega) (by omega) (by omega) hz k1
end Go.Proofs.Ytlaihlpokpeahaa.letc
