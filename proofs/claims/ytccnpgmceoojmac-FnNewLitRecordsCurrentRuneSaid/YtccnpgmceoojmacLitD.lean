/-
  newLit records the current rune; a literal started and ended at once is empty: for every buffer and every valid rune or sentinel.
-/
import Derived.Test.YtccnpgmceoojmacLitC
namespace Go.Proofs.Ytccnpgmceoojmac.lit
open Go.RowKit
open Go.Proofs.Ytccnpgmceoojmac
open Go.Proofs.Ytccnpgmceoojmac.red

theorem cellsMid {w : World} {g : Nat} (z1 xs z2 : List Int) (h : Cells w g (z1 ++ xs ++ z2)) (n : Nat) (hn : z1.length = n) : ∀ i, i < xs.length → w.cell? ⟨g, n + i, none⟩ = some (.int .u8 (xs.getD i 0)) := fun i hi => by
  have := h (n + i) (by simp; omega)
  rw [this]
  congr 1
  congr 1
  rw [List.getD_eq_getElem?_getD, List.getD_eq_getElem?_getD, List.getElem?_append_left (by simp; omega), List.getElem?_append_right (by omega), hn, Nat.add_sub_cancel_left]
theorem Newl.sl {P K : Nat} {xs : List Int} {r wd : Int} {w w' : World} (h : Newl P K xs r wd w w') (hx : xs.length = K) : Sl w' (some ⟨P, 1063, none⟩) K xs := ⟨hx, fun i hi => ⟨P, 1063, rfl, h.row i hi⟩⟩
theorem Newl.keep {P K : Nat} {xs : List Int} {r wd : Int} {w w' : World} (h : Newl P K xs r wd w w') {a : Option Addr} {n : Nat} {zs : List Int} (s : Sl w a n zs) (hne : ∀ b off, a = some ⟨b, off, none⟩ → b ≠ P) : Sl w' a n zs :=
  ⟨s.len, fun i hi => by obtain ⟨b, off, e, c⟩ := s.row i hi; exact ⟨b, off, e, (h.oth b _ (hne b off e)).trans c⟩⟩
theorem Sl.ne {w wx : World} {a : Option Addr} {n P : Nat} {zs : List Int} (s : Sl w a n zs) (hP : w.heap.size ≤ P) (h0 : 0 < n) : ∀ b off, a = some ⟨b, off, none⟩ → b ≠ P := by
  intro b off e
  obtain ⟨b', off', e', c⟩ := s.row 0 h0
  have := lt_of_cell c
  rw [e] at e'
  have : b = b' := by simpa using congrArg (fun x => (Option.getD x ⟨0, 0, none⟩).block) e'
  omega
theorem Newl.keep' {P K : Nat} {xs : List Int} {r wd : Int} {w w' : World} (h : Newl P K xs r wd w w') {a : Option Addr} {n : Nat} {zs : List Int} {wx : World} (s : Sl w a n zs) (sx : Sl wx a n zs) (hP : wx.heap.size ≤ P) : Sl w' a n zs :=
  ⟨s.len, fun i hi => by
    obtain ⟨b, off, e, c⟩ := s.row i hi
    exact ⟨b, off, e, (h.oth b _ (Sl.ne (wx := wx) sx hP (by omega) b off e)).trans c⟩⟩
theorem below_mix {P : Nat} {w0 w w' : World} (h : Below w0.heap.size w0 w) (h2 : Below P w w') (hP : w0.heap.size ≤ P) : Below w0.heap.size w0 w' := Below.trans h (Below.mono h2 hP)
end Go.Proofs.Ytccnpgmceoojmac.lit
