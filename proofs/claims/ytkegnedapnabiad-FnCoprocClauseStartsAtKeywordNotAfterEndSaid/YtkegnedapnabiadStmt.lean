/-
  What Stmt.End answers on a statement without a command and without redirects, and that a coproc clause laid out in source order does not start after it ends: for every value of the raw fields.
-/
import Derived.Test.YtkegnedapnabiadPos
namespace Go.Proofs.Ytkegnedapnabiad
open Go.RowKit

def stO (p pl s sl : Int) (neg two : Bool) : Int := if vB s sl then (if two then pO (pO s sl 1) (pL s sl 1) 1 else pO s sl 1) else if neg then pO p pl 1 else p
def stL (p pl s sl : Int) (neg two : Bool) : Int := if vB s sl then (if two then pL (pO s sl 1) (pL s sl 1) 1 else pL s sl 1) else if neg then pL p pl 1 else pl

set_option maxHeartbeats 1000000 in
theorem stA (b : Nat) (p pl s sl : Int) (neg : Bool) (w : World) (hp : 0 ≤ p ∧ p ≤ 4294967295) (hpl : 0 ≤ pl ∧ pl ≤ 4294967295) (hs : 0 ≤ s ∧ s ≤ 4294967295) (hsl : 0 ≤ sl ∧ sl ≤ 4294967295) (c1 : w.cell? ⟨b, 1, none⟩ = some .nilIface) (c2 : w.cell? ⟨b, 2, none⟩ = some (.int .u32 p)) (c3 : w.cell? ⟨b, 3, none⟩ = some (.int .u32 pl)) (c4 : w.cell? ⟨b, 4, none⟩ = some (.int .u32 s)) (c5 : w.cell? ⟨b, 5, none⟩ = some (.int .u32 sl)) (c6 : w.cell? ⟨b, 6, none⟩ = some (.bool neg)) (c8 : w.cell? ⟨b, 8, none⟩ = some (.bool false)) (c9 : w.cell? ⟨b, 9, none⟩ = some (.bool false)) (c10 : w.cell? ⟨b, 10, none⟩ = some (.slice none 0 0)) (hv : vB s sl = true) :
    Calls Try.prog 14 #[.pointer (some ⟨b, 0, none⟩)] w fun e w' => e = .returned (.agg #[.int .u32 (pO s sl 1), .int .u32 (pL s sl 1)]) ∧ Below w.heap.size w w' := by
  have hlt := lt_of_cell c1
  have hlt1 : b < w.heap.size + 1 := by omega
  have hlt2 : b < w.heap.size + 1 + 1 := by omega
  have hlt3 : b < w.heap.size + 1 + 1 + 1 := by omega
  have hlt4 : b < w.heap.size + 1 + 1 + 1 + 1 := by omega
  have hlt5 : b < w.heap.size + 1 + 1 + 1 + 1 + 1 := by omega
  have hlt6 : b < w.heap.size + 1 + 1 + 1 + 1 + 1 + 1 := by omega
  have hlt7 : b < w.heap.size + 1 + 1 + 1 + 1 + 1 + 1 + 1 := by omega
  have hlt8 : b < w.heap.size + 1 + 1 + 1 + 1 + 1 + 1 + 1 + 1 := by omega
  have hlt9 : b < w.heap.size + 1 + 1 + 1 + 1 + 1 + 1 + 1 + 1 + 1 := by omega
  have hlt10 : b < w.heap.size + 1 + 1 + 1 + 1 + 1 + 1 + 1 + 1 + 1 + 1 := by omega
  have hlt11 : b < w.heap.size + 1 + 1 + 1 + 1 + 1 + 1 + 1 + 1 + 1 + 1 + 1 := by omega
  have hlt12 : b < w.heap.size + 1 + 1 + 1 + 1 + 1 + 1 + 1 + 1 + 1 + 1 + 1 + 1 := by omega
  have hlt13 : b < w.heap.size + 1 + 1 + 1 + 1 + 1 + 1 + 1 + 1 + 1 + 1 + 1 + 1 + 1 := by omega
  go_enter Try.func14, Try.ntmps14
  go_wp2_with (first | (go_at_call 13; refine (isValid _ _ _).mono ?_; rintro e w' ⟨rfl, rfl⟩) | (go_at_call 16; refine (posAddX _ _ _ _ (by omega) (by omega) (by omega) (by omega) (by omega) (by assumption)).mono ?_; rintro e w' ⟨rfl, rfl⟩) | (go_at_call 16; refine (posAdd_no _ _ _ _ (by assumption)).mono ?_; rintro e w' ⟨rfl, rfl⟩))
  go_returns
  exact ⟨rfl, by go_grown⟩
set_option maxHeartbeats 1000000 in
theorem stB1 (b : Nat) (p pl s sl : Int) (neg : Bool) (dis : Bool) (w : World) (hp : 0 ≤ p ∧ p ≤ 4294967295) (hpl : 0 ≤ pl ∧ pl ≤ 4294967295) (hs : 0 ≤ s ∧ s ≤ 4294967295) (hsl : 0 ≤ sl ∧ sl ≤ 4294967295) (c1 : w.cell? ⟨b, 1, none⟩ = some .nilIface) (c2 : w.cell? ⟨b, 2, none⟩ = some (.int .u32 p)) (c3 : w.cell? ⟨b, 3, none⟩ = some (.int .u32 pl)) (c4 : w.cell? ⟨b, 4, none⟩ = some (.int .u32 s)) (c5 : w.cell? ⟨b, 5, none⟩ = some (.int .u32 sl)) (c6 : w.cell? ⟨b, 6, none⟩ = some (.bool neg)) (c8 : w.cell? ⟨b, 8, none⟩ = some (.bool true)) (c9 : w.cell? ⟨b, 9, none⟩ = some (.bool dis)) (c10 : w.cell? ⟨b, 10, none⟩ = some (.slice none 0 0)) (hv : vB s sl = true) (hv2 : vB (pO s sl 1) (pL s sl 1) = true) :
    Calls Try.prog 14 #[.pointer (some ⟨b, 0, none⟩)] w fun e w' => e = .returned (.agg #[.int .u32 (pO (pO s sl 1) (pL s sl 1) 1), .int .u32 (pL (pO s sl 1) (pL s sl 1) 1)]) ∧ Below w.heap.size w w' := by
  have hlt := lt_of_cell c1
  have hlt1 : b < w.heap.size + 1 := by omega
  have hlt2 : b < w.heap.size + 1 + 1 := by omega
  have hlt3 : b < w.heap.size + 1 + 1 + 1 := by omega
  have hlt4 : b < w.heap.size + 1 + 1 + 1 + 1 := by omega
  have hlt5 : b < w.heap.size + 1 + 1 + 1 + 1 + 1 := by omega
  have hlt6 : b < w.heap.size + 1 + 1 + 1 + 1 + 1 + 1 := by omega
  have hlt7 : b < w.heap.size + 1 + 1 + 1 + 1 + 1 + 1 + 1 := by omega
  have hlt8 : b < w.heap.size + 1 + 1 + 1 + 1 + 1 + 1 + 1 + 1 := by omega
  have hlt9 : b < w.heap.size + 1 + 1 + 1 + 1 + 1 + 1 + 1 + 1 + 1 := by omega
  have hlt10 : b < w.heap.size + 1 + 1 + 1 + 1 + 1 + 1 + 1 + 1 + 1 + 1 := by omega
  have hlt11 : b < w.heap.size + 1 + 1 + 1 + 1 + 1 + 1 + 1 + 1 + 1 + 1 + 1 := by omega
  have hlt12 : b < w.heap.size + 1 + 1 + 1 + 1 + 1 + 1 + 1 + 1 + 1 + 1 + 1 + 1 := by omega
  have hlt13 : b < w.heap.size + 1 + 1 + 1 + 1 + 1 + 1 + 1 + 1 + 1 + 1 + 1 + 1 + 1 := by omega
  have b1 := pO_bounds s sl 1 hs.1 hs.2 (by omega)
  have b2 := pL_bounds s sl 1 hsl.1 hsl.2 (by omega)
  go_enter Try.func14, Try.ntmps14
  go_wp2_with (first | (go_at_call 13; refine (isValid _ _ _).mono ?_; rintro e w' ⟨rfl, rfl⟩) | (go_at_call 16; refine (posAddX _ _ _ _ (by omega) (by omega) (by omega) (by omega) (by omega) (by assumption)).mono ?_; rintro e w' ⟨rfl, rfl⟩) | (go_at_call 16; refine (posAdd_no _ _ _ _ (by assumption)).mono ?_; rintro e w' ⟨rfl, rfl⟩))
  go_returns
  exact ⟨rfl, by go_grown⟩
set_option maxHeartbeats 1000000 in
theorem stB2 (b : Nat) (p pl s sl : Int) (neg : Bool) (dis : Bool) (w : World) (hp : 0 ≤ p ∧ p ≤ 4294967295) (hpl : 0 ≤ pl ∧ pl ≤ 4294967295) (hs : 0 ≤ s ∧ s ≤ 4294967295) (hsl : 0 ≤ sl ∧ sl ≤ 4294967295) (c1 : w.cell? ⟨b, 1, none⟩ = some .nilIface) (c2 : w.cell? ⟨b, 2, none⟩ = some (.int .u32 p)) (c3 : w.cell? ⟨b, 3, none⟩ = some (.int .u32 pl)) (c4 : w.cell? ⟨b, 4, none⟩ = some (.int .u32 s)) (c5 : w.cell? ⟨b, 5, none⟩ = some (.int .u32 sl)) (c6 : w.cell? ⟨b, 6, none⟩ = some (.bool neg)) (c8 : w.cell? ⟨b, 8, none⟩ = some (.bool true)) (c9 : w.cell? ⟨b, 9, none⟩ = some (.bool dis)) (c10 : w.cell? ⟨b, 10, none⟩ = some (.slice none 0 0)) (hv : vB s sl = true) (hv2 : vB (pO s sl 1) (pL s sl 1) = false) :
    Calls Try.prog 14 #[.pointer (some ⟨b, 0, none⟩)] w fun e w' => e = .returned (.agg #[.int .u32 (pO s sl 1), .int .u32 (pL s sl 1)]) ∧ Below w.heap.size w w' := by
  have hlt := lt_of_cell c1
  have hlt1 : b < w.heap.size + 1 := by omega
  have hlt2 : b < w.heap.size + 1 + 1 := by omega
  have hlt3 : b < w.heap.size + 1 + 1 + 1 := by omega
  have hlt4 : b < w.heap.size + 1 + 1 + 1 + 1 := by omega
  have hlt5 : b < w.heap.size + 1 + 1 + 1 + 1 + 1 := by omega
  have hlt6 : b < w.heap.size + 1 + 1 + 1 + 1 + 1 + 1 := by omega
  have hlt7 : b < w.heap.size + 1 + 1 + 1 + 1 + 1 + 1 + 1 := by omega
  have hlt8 : b < w.heap.size + 1 + 1 + 1 + 1 + 1 + 1 + 1 + 1 := by omega
  have hlt9 : b < w.heap.size + 1 + 1 + 1 + 1 + 1 + 1 + 1 + 1 + 1 := by omega
  have hlt10 : b < w.heap.size + 1 + 1 + 1 + 1 + 1 + 1 + 1 + 1 + 1 + 1 := by omega
  have hlt11 : b < w.heap.size + 1 + 1 + 1 + 1 + 1 + 1 + 1 + 1 + 1 + 1 + 1 := by omega
  have hlt12 : b < w.heap.size + 1 + 1 + 1 + 1 + 1 + 1 + 1 + 1 + 1 + 1 + 1 + 1 := by omega
  have hlt13 : b < w.heap.size + 1 + 1 + 1 + 1 + 1 + 1 + 1 + 1 + 1 + 1 + 1 + 1 + 1 := by omega
  have b1 := pO_bounds s sl 1 hs.1 hs.2 (by omega)
  have b2 := pL_bounds s sl 1 hsl.1 hsl.2 (by omega)
  go_enter Try.func14, Try.ntmps14
  go_wp2_with (first | (go_at_call 13; refine (isValid _ _ _).mono ?_; rintro e w' ⟨rfl, rfl⟩) | (go_at_call 16; refine (posAddX _ _ _ _ (by omega) (by omega) (by omega) (by omega) (by omega) (by assumption)).mono ?_; rintro e w' ⟨rfl, rfl⟩) | (go_at_call 16; refine (posAdd_no _ _ _ _ (by assumption)).mono ?_; rintro e w' ⟨rfl, rfl⟩))
  go_returns
  exact ⟨rfl, by go_grown⟩
set_option maxHeartbeats 1000000 in
theorem stC1 (b : Nat) (p pl s sl : Int) (neg : Bool) (w : World) (hp : 0 ≤ p ∧ p ≤ 4294967295) (hpl : 0 ≤ pl ∧ pl ≤ 4294967295) (hs : 0 ≤ s ∧ s ≤ 4294967295) (hsl : 0 ≤ sl ∧ sl ≤ 4294967295) (c1 : w.cell? ⟨b, 1, none⟩ = some .nilIface) (c2 : w.cell? ⟨b, 2, none⟩ = some (.int .u32 p)) (c3 : w.cell? ⟨b, 3, none⟩ = some (.int .u32 pl)) (c4 : w.cell? ⟨b, 4, none⟩ = some (.int .u32 s)) (c5 : w.cell? ⟨b, 5, none⟩ = some (.int .u32 sl)) (c6 : w.cell? ⟨b, 6, none⟩ = some (.bool neg)) (c8 : w.cell? ⟨b, 8, none⟩ = some (.bool false)) (c9 : w.cell? ⟨b, 9, none⟩ = some (.bool true)) (c10 : w.cell? ⟨b, 10, none⟩ = some (.slice none 0 0)) (hv : vB s sl = true) (hv2 : vB (pO s sl 1) (pL s sl 1) = true) :
    Calls Try.prog 14 #[.pointer (some ⟨b, 0, none⟩)] w fun e w' => e = .returned (.agg #[.int .u32 (pO (pO s sl 1) (pL s sl 1) 1), .int .u32 (pL (pO s sl 1) (pL s sl 1) 1)]) ∧ Below w.heap.size w w' := by
  have hlt := lt_of_cell c1
  have hlt1 : b < w.heap.size + 1 := by omega
  have hlt2 : b < w.heap.size + 1 + 1 := by omega
  have hlt3 : b < w.heap.size + 1 + 1 + 1 := by omega
  have hlt4 : b < w.heap.size + 1 + 1 + 1 + 1 := by omega
  have hlt5 : b < w.heap.size + 1 + 1 + 1 + 1 + 1 := by omega
  have hlt6 : b < w.heap.size + 1 + 1 + 1 + 1 + 1 + 1 := by omega
  have hlt7 : b < w.heap.size + 1 + 1 + 1 + 1 + 1 + 1 + 1 := by omega
  have hlt8 : b < w.heap.size + 1 + 1 + 1 + 1 + 1 + 1 + 1 + 1 := by omega
  have hlt9 : b < w.heap.size + 1 + 1 + 1 + 1 + 1 + 1 + 1 + 1 + 1 := by omega
  have hlt10 : b < w.heap.size + 1 + 1 + 1 + 1 + 1 + 1 + 1 + 1 + 1 + 1 := by omega
  have hlt11 : b < w.heap.size + 1 + 1 + 1 + 1 + 1 + 1 + 1 + 1 + 1 + 1 + 1 := by omega
  have hlt12 : b < w.heap.size + 1 + 1 + 1 + 1 + 1 + 1 + 1 + 1 + 1 + 1 + 1 + 1 := by omega
  have hlt13 : b < w.heap.size + 1 + 1 + 1 + 1 + 1 + 1 + 1 + 1 + 1 + 1 + 1 + 1 + 1 := by omega
  have b1 := pO_bounds s sl 1 hs.1 hs.2 (by omega)
  have b2 := pL_bounds s sl 1 hsl.1 hsl.2 (by omega)
  go_enter Try.func14, Try.ntmps14
  go_wp2_with (first | (go_at_call 13; refine (isValid _ _ _).mono ?_; rintro e w' ⟨rfl, rfl⟩) | (go_at_call 16; refine (posAddX _ _ _ _ (by omega) (by omega) (by omega) (by omega) (by omega) (by assumption)).mono ?_; rintro e w' ⟨rfl, rfl⟩) | (go_at_call 16; refine (posAdd_no _ _ _ _ (by assumption)).mono ?_; rintro e w' ⟨rfl, rfl⟩))
  go_returns
  exact ⟨rfl, by go_grown⟩
set_option maxHeartbeats 1000000 in
theorem stC2 (b : Nat) (p pl s sl : Int) (neg : Bool) (w : World) (hp : 0 ≤ p ∧ p ≤ 4294967295) (hpl : 0 ≤ pl ∧ pl ≤ 4294967295) (hs : 0 ≤ s ∧ s ≤ 4294967295) (hsl : 0 ≤ sl ∧ sl ≤ 4294967295) (c1 : w.cell? ⟨b, 1, none⟩ = some .nilIface) (c2 : w.cell? ⟨b, 2, none⟩ = some (.int .u32 p)) (c3 : w.cell? ⟨b, 3, none⟩ = some (.int .u32 pl)) (c4 : w.cell? ⟨b, 4, none⟩ = some (.int .u32 s)) (c5 : w.cell? ⟨b, 5, none⟩ = some (.int .u32 sl)) (c6 : w.cell? ⟨b, 6, none⟩ = some (.bool neg)) (c8 : w.cell? ⟨b, 8, none⟩ = some (.bool false)) (c9 : w.cell? ⟨b, 9, none⟩ = some (.bool true)) (c10 : w.cell? ⟨b, 10, none⟩ = some (.slice none 0 0)) (hv : vB s sl = true) (hv2 : vB (pO s sl 1) (pL s sl 1) = false) :
    Calls Try.prog 14 #[.pointer (some ⟨b, 0, none⟩)] w fun e w' => e = .returned (.agg #[.int .u32 (pO s sl 1), .int .u32 (pL s sl 1)]) ∧ Below w.heap.size w w' := by
  have hlt := lt_of_cell c1
  have hlt1 : b < w.heap.size + 1 := by omega
  have hlt2 : b < w.heap.size + 1 + 1 := by omega
  have hlt3 : b < w.heap.size + 1 + 1 + 1 := by omega
  have hlt4 : b < w.heap.size + 1 + 1 + 1 + 1 := by omega
  have hlt5 : b < w.heap.size + 1 + 1 + 1 + 1 + 1 := by omega
  have hlt6 : b < w.heap.size + 1 + 1 + 1 + 1 + 1 + 1 := by omega
  have hlt7 : b < w.heap.size + 1 + 1 + 1 + 1 + 1 + 1 + 1 := by omega
  have hlt8 : b < w.heap.size + 1 + 1 + 1 + 1 + 1 + 1 + 1 + 1 := by omega
  have hlt9 : b < w.heap.size + 1 + 1 + 1 + 1 + 1 + 1 + 1 + 1 + 1 := by omega
  have hlt10 : b < w.heap.size + 1 + 1 + 1 + 1 + 1 + 1 + 1 + 1 + 1 + 1 := by omega
  have hlt11 : b < w.heap.size + 1 + 1 + 1 + 1 + 1 + 1 + 1 + 1 + 1 + 1 + 1 := by omega
  have hlt12 : b < w.heap.size + 1 + 1 + 1 + 1 + 1 + 1 + 1 + 1 + 1 + 1 + 1 + 1 := by omega
  have hlt13 : b < w.heap.size + 1 + 1 + 1 + 1 + 1 + 1 + 1 + 1 + 1 + 1 + 1 + 1 + 1 := by omega
  have b1 := pO_bounds s sl 1 hs.1 hs.2 (by omega)
  have b2 := pL_bounds s sl 1 hsl.1 hsl.2 (by omega)
  go_enter Try.func14, Try.ntmps14
  go_wp2_with (first | (go_at_call 13; refine (isValid _ _ _).mono ?_; rintro e w' ⟨rfl, rfl⟩) | (go_at_call 16; refine (posAddX _ _ _ _ (by omega) (by omega) (by omega) (by omega) (by omega) (by assumption)).mono ?_; rintro e w' ⟨rfl, rfl⟩) | (go_at_call 16; refine (posAdd_no _ _ _ _ (by assumption)).mono ?_; rintro e w' ⟨rfl, rfl⟩))
  go_returns
  exact ⟨rfl, by go_grown⟩
set_option maxHeartbeats 1000000 in
theorem stD (b : Nat) (p pl s sl : Int) (cop : Bool) (dis : Bool) (w : World) (hp : 0 ≤ p ∧ p ≤ 4294967295) (hpl : 0 ≤ pl ∧ pl ≤ 4294967295) (hs : 0 ≤ s ∧ s ≤ 4294967295) (hsl : 0 ≤ sl ∧ sl ≤ 4294967295) (c1 : w.cell? ⟨b, 1, none⟩ = some .nilIface) (c2 : w.cell? ⟨b, 2, none⟩ = some (.int .u32 p)) (c3 : w.cell? ⟨b, 3, none⟩ = some (.int .u32 pl)) (c4 : w.cell? ⟨b, 4, none⟩ = some (.int .u32 s)) (c5 : w.cell? ⟨b, 5, none⟩ = some (.int .u32 sl)) (c6 : w.cell? ⟨b, 6, none⟩ = some (.bool false)) (c8 : w.cell? ⟨b, 8, none⟩ = some (.bool cop)) (c9 : w.cell? ⟨b, 9, none⟩ = some (.bool dis)) (c10 : w.cell? ⟨b, 10, none⟩ = some (.slice none 0 0)) (hv : vB s sl = false) :
    Calls Try.prog 14 #[.pointer (some ⟨b, 0, none⟩)] w fun e w' => e = .returned (.agg #[.int .u32 (p), .int .u32 (pl)]) ∧ Below w.heap.size w w' := by
  have hlt := lt_of_cell c1
  have hlt1 : b < w.heap.size + 1 := by omega
  have hlt2 : b < w.heap.size + 1 + 1 := by omega
  have hlt3 : b < w.heap.size + 1 + 1 + 1 := by omega
  have hlt4 : b < w.heap.size + 1 + 1 + 1 + 1 := by omega
  have hlt5 : b < w.heap.size + 1 + 1 + 1 + 1 + 1 := by omega
  have hlt6 : b < w.heap.size + 1 + 1 + 1 + 1 + 1 + 1 := by omega
  have hlt7 : b < w.heap.size + 1 + 1 + 1 + 1 + 1 + 1 + 1 := by omega
  have hlt8 : b < w.heap.size + 1 + 1 + 1 + 1 + 1 + 1 + 1 + 1 := by omega
  have hlt9 : b < w.heap.size + 1 + 1 + 1 + 1 + 1 + 1 + 1 + 1 + 1 := by omega
  have hlt10 : b < w.heap.size + 1 + 1 + 1 + 1 + 1 + 1 + 1 + 1 + 1 + 1 := by omega
  have hlt11 : b < w.heap.size + 1 + 1 + 1 + 1 + 1 + 1 + 1 + 1 + 1 + 1 + 1 := by omega
  have hlt12 : b < w.heap.size + 1 + 1 + 1 + 1 + 1 + 1 + 1 + 1 + 1 + 1 + 1 + 1 := by omega
  have hlt13 : b < w.heap.size + 1 + 1 + 1 + 1 + 1 + 1 + 1 + 1 + 1 + 1 + 1 + 1 + 1 := by omega
  go_enter Try.func14, Try.ntmps14
  go_wp2_with (first | (go_at_call 13; refine (isValid _ _ _).mono ?_; rintro e w' ⟨rfl, rfl⟩) | (go_at_call 16; refine (posAddX _ _ _ _ (by omega) (by omega) (by omega) (by omega) (by omega) (by assumption)).mono ?_; rintro e w' ⟨rfl, rfl⟩) | (go_at_call 16; refine (posAdd_no _ _ _ _ (by assumption)).mono ?_; rintro e w' ⟨rfl, rfl⟩))
  go_returns
  exact ⟨rfl, by go_grown⟩
set_option maxHeartbeats 1000000 in
theorem stE1 (b : Nat) (p pl s sl : Int) (cop : Bool) (dis : Bool) (w : World) (hp : 0 ≤ p ∧ p ≤ 4294967295) (hpl : 0 ≤ pl ∧ pl ≤ 4294967295) (hs : 0 ≤ s ∧ s ≤ 4294967295) (hsl : 0 ≤ sl ∧ sl ≤ 4294967295) (c1 : w.cell? ⟨b, 1, none⟩ = some .nilIface) (c2 : w.cell? ⟨b, 2, none⟩ = some (.int .u32 p)) (c3 : w.cell? ⟨b, 3, none⟩ = some (.int .u32 pl)) (c4 : w.cell? ⟨b, 4, none⟩ = some (.int .u32 s)) (c5 : w.cell? ⟨b, 5, none⟩ = some (.int .u32 sl)) (c6 : w.cell? ⟨b, 6, none⟩ = some (.bool true)) (c8 : w.cell? ⟨b, 8, none⟩ = some (.bool cop)) (c9 : w.cell? ⟨b, 9, none⟩ = some (.bool dis)) (c10 : w.cell? ⟨b, 10, none⟩ = some (.slice none 0 0)) (hv : vB s sl = false) (hv2 : vB p pl = true) :
    Calls Try.prog 14 #[.pointer (some ⟨b, 0, none⟩)] w fun e w' => e = .returned (.agg #[.int .u32 (pO p pl 1), .int .u32 (pL p pl 1)]) ∧ Below w.heap.size w w' := by
  have hlt := lt_of_cell c1
  have hlt1 : b < w.heap.size + 1 := by omega
  have hlt2 : b < w.heap.size + 1 + 1 := by omega
  have hlt3 : b < w.heap.size + 1 + 1 + 1 := by omega
  have hlt4 : b < w.heap.size + 1 + 1 + 1 + 1 := by omega
  have hlt5 : b < w.heap.size + 1 + 1 + 1 + 1 + 1 := by omega
  have hlt6 : b < w.heap.size + 1 + 1 + 1 + 1 + 1 + 1 := by omega
  have hlt7 : b < w.heap.size + 1 + 1 + 1 + 1 + 1 + 1 + 1 := by omega
  have hlt8 : b < w.heap.size + 1 + 1 + 1 + 1 + 1 + 1 + 1 + 1 := by omega
  have hlt9 : b < w.heap.size + 1 + 1 + 1 + 1 + 1 + 1 + 1 + 1 + 1 := by omega
  have hlt10 : b < w.heap.size + 1 + 1 + 1 + 1 + 1 + 1 + 1 + 1 + 1 + 1 := by omega
  have hlt11 : b < w.heap.size + 1 + 1 + 1 + 1 + 1 + 1 + 1 + 1 + 1 + 1 + 1 := by omega
  have hlt12 : b < w.heap.size + 1 + 1 + 1 + 1 + 1 + 1 + 1 + 1 + 1 + 1 + 1 + 1 := by omega
  have hlt13 : b < w.heap.size + 1 + 1 + 1 + 1 + 1 + 1 + 1 + 1 + 1 + 1 + 1 + 1 + 1 := by omega
  go_enter Try.func14, Try.ntmps14
  go_wp2_with (first | (go_at_call 13; refine (isValid _ _ _).mono ?_; rintro e w' ⟨rfl, rfl⟩) | (go_at_call 16; refine (posAddX _ _ _ _ (by omega) (by omega) (by omega) (by omega) (by omega) (by assumption)).mono ?_; rintro e w' ⟨rfl, rfl⟩) | (go_at_call 16; refine (posAdd_no _ _ _ _ (by assumption)).mono ?_; rintro e w' ⟨rfl, rfl⟩))
  go_returns
  exact ⟨rfl, by go_grown⟩
set_option maxHeartbeats 1000000 in
theorem stE2 (b : Nat) (p pl s sl : Int) (cop : Bool) (dis : Bool) (w : World) (hp : 0 ≤ p ∧ p ≤ 4294967295) (hpl : 0 ≤ pl ∧ pl ≤ 4294967295) (hs : 0 ≤ s ∧ s ≤ 4294967295) (hsl : 0 ≤ sl ∧ sl ≤ 4294967295) (c1 : w.cell? ⟨b, 1, none⟩ = some .nilIface) (c2 : w.cell? ⟨b, 2, none⟩ = some (.int .u32 p)) (c3 : w.cell? ⟨b, 3, none⟩ = some (.int .u32 pl)) (c4 : w.cell? ⟨b, 4, none⟩ = some (.int .u32 s)) (c5 : w.cell? ⟨b, 5, none⟩ = some (.int .u32 sl)) (c6 : w.cell? ⟨b, 6, none⟩ = some (.bool true)) (c8 : w.cell? ⟨b, 8, none⟩ = some (.bool cop)) (c9 : w.cell? ⟨b, 9, none⟩ = some (.bool dis)) (c10 : w.cell? ⟨b, 10, none⟩ = some (.slice none 0 0)) (hv : vB s sl = false) (hv2 : vB p pl = false) :
    Calls Try.prog 14 #[.pointer (some ⟨b, 0, none⟩)] w fun e w' => e = .returned (.agg #[.int .u32 (p), .int .u32 (pl)]) ∧ Below w.heap.size w w' := by
  have hlt := lt_of_cell c1
  have hlt1 : b < w.heap.size + 1 := by omega
  have hlt2 : b < w.heap.size + 1 + 1 := by omega
  have hlt3 : b < w.heap.size + 1 + 1 + 1 := by omega
  have hlt4 : b < w.heap.size + 1 + 1 + 1 + 1 := by omega
  have hlt5 : b < w.heap.size + 1 + 1 + 1 + 1 + 1 := by omega
  have hlt6 : b < w.heap.size + 1 + 1 + 1 + 1 + 1 + 1 := by omega
  have hlt7 : b < w.heap.size + 1 + 1 + 1 + 1 + 1 + 1 + 1 := by omega
  have hlt8 : b < w.heap.size + 1 + 1 + 1 + 1 + 1 + 1 + 1 + 1 := by omega
  have hlt9 : b < w.heap.size + 1 + 1 + 1 + 1 + 1 + 1 + 1 + 1 + 1 := by omega
  have hlt10 : b < w.heap.size + 1 + 1 + 1 + 1 + 1 + 1 + 1 + 1 + 1 + 1 := by omega
  have hlt11 : b < w.heap.size + 1 + 1 + 1 + 1 + 1 + 1 + 1 + 1 + 1 + 1 + 1 := by omega
  have hlt12 : b < w.heap.size + 1 + 1 + 1 + 1 + 1 + 1 + 1 + 1 + 1 + 1 + 1 + 1 := by omega
  have hlt13 : b < w.heap.size + 1 + 1 + 1 + 1 + 1 + 1 + 1 + 1 + 1 + 1 + 1 + 1 + 1 := by omega
  go_enter Try.func14, Try.ntmps14
  go_wp2_with (first | (go_at_call 13; refine (isValid _ _ _).mono ?_; rintro e w' ⟨rfl, rfl⟩) | (go_at_call 16; refine (posAddX _ _ _ _ (by omega) (by omega) (by omega) (by omega) (by omega) (by assumption)).mono ?_; rintro e w' ⟨rfl, rfl⟩) | (go_at_call 16; refine (posAdd_no _ _ _ _ (by assumption)).mono ?_; rintro e w' ⟨rfl, rfl⟩))
  go_returns
  exact ⟨rfl, by go_grown⟩

theorem stmtEnd (b : Nat) (p pl s sl : Int) (neg cop dis : Bool) (w : World) (hp : 0 ≤ p ∧ p ≤ 4294967295) (hpl : 0 ≤ pl ∧ pl ≤ 4294967295) (hs : 0 ≤ s ∧ s ≤ 4294967295) (hsl : 0 ≤ sl ∧ sl ≤ 4294967295) (c1 : w.cell? ⟨b, 1, none⟩ = some .nilIface) (c2 : w.cell? ⟨b, 2, none⟩ = some (.int .u32 p)) (c3 : w.cell? ⟨b, 3, none⟩ = some (.int .u32 pl)) (c4 : w.cell? ⟨b, 4, none⟩ = some (.int .u32 s)) (c5 : w.cell? ⟨b, 5, none⟩ = some (.int .u32 sl)) (c6 : w.cell? ⟨b, 6, none⟩ = some (.bool neg)) (c8 : w.cell? ⟨b, 8, none⟩ = some (.bool cop)) (c9 : w.cell? ⟨b, 9, none⟩ = some (.bool dis)) (c10 : w.cell? ⟨b, 10, none⟩ = some (.slice none 0 0)) :
    Calls Try.prog 14 #[.pointer (some ⟨b, 0, none⟩)] w fun e w' => e = .returned (.agg #[.int .u32 (stO p pl s sl neg (cop || dis)), .int .u32 (stL p pl s sl neg (cop || dis))]) ∧ Below w.heap.size w w' := by
  cases hv : vB s sl with
  | true =>
    cases cop with
    | true =>
      cases hv2 : vB (pO s sl 1) (pL s sl 1) with
      | true =>
        have e1 : stO p pl s sl neg (true || dis) = pO (pO s sl 1) (pL s sl 1) 1 := by simp [stO, hv]
        have e2 : stL p pl s sl neg (true || dis) = pL (pO s sl 1) (pL s sl 1) 1 := by simp [stL, hv]
        rw [e1, e2]
        exact stB1 b p pl s sl neg dis w hp hpl hs hsl c1 c2 c3 c4 c5 c6 c8 c9 c10 hv hv2
      | false =>
        have e1 : stO p pl s sl neg (true || dis) = pO s sl 1 := by simp [stO, hv]; rw [pO, if_neg (by simp [hv2])]
        have e2 : stL p pl s sl neg (true || dis) = pL s sl 1 := by simp [stL, hv]; rw [pL, if_neg (by simp [hv2])]
        rw [e1, e2]
        exact stB2 b p pl s sl neg dis w hp hpl hs hsl c1 c2 c3 c4 c5 c6 c8 c9 c10 hv hv2
    | false =>
      cases dis with
      | true =>
        cases hv2 : vB (pO s sl 1) (pL s sl 1) with
        | true =>
          have e1 : stO p pl s sl neg (false || true) = pO (pO s sl 1) (pL s sl 1) 1 := by simp [stO, hv]
          have e2 : stL p pl s sl neg (false || true) = pL (pO s sl 1) (pL s sl 1) 1 := by simp [stL, hv]
          rw [e1, e2]
          exact stC1 b p pl s sl neg w hp hpl hs hsl c1 c2 c3 c4 c5 c6 c8 c9 c10 hv hv2
        | false =>
          have e1 : stO p pl s sl neg (false || true) = pO s sl 1 := by simp [stO, hv]; rw [pO, if_neg (by simp [hv2])]
          have e2 : stL p pl s sl neg (false || true) = pL s sl 1 := by simp [stL, hv]; rw [pL, if_neg (by simp [hv2])]
          rw [e1, e2]
          exact stC2 b p pl s sl neg w hp hpl hs hsl c1 c2 c3 c4 c5 c6 c8 c9 c10 hv hv2
      | false =>
        have e1 : stO p pl s sl neg (false || false) = pO s sl 1 := by simp [stO, hv]
        have e2 : stL p pl s sl neg (false || false) = pL s sl 1 := by simp [stL, hv]
        rw [e1, e2]
        exact stA b p pl s sl neg w hp hpl hs hsl c1 c2 c3 c4 c5 c6 c8 c9 c10 hv
  | false =>
    cases neg with
    | false =>
      have e1 : stO p pl s sl false (cop || dis) = p := by simp [stO, hv]
      have e2 : stL p pl s sl false (cop || dis) = pl := by simp [stL, hv]
      rw [e1, e2]
      exact stD b p pl s sl cop dis w hp hpl hs hsl c1 c2 c3 c4 c5 c6 c8 c9 c10 hv
    | true =>
      cases hv2 : vB p pl with
      | true =>
        have e1 : stO p pl s sl true (cop || dis) = pO p pl 1 := by simp [stO, hv]
        have e2 : stL p pl s sl true (cop || dis) = pL p pl 1 := by simp [stL, hv]
        rw [e1, e2]
        exact stE1 b p pl s sl cop dis w hp hpl hs hsl c1 c2 c3 c4 c5 c6 c8 c9 c10 hv hv2
      | false =>
        have e1 : stO p pl s sl true (cop || dis) = p := by simp [stO, hv]; rw [pO, if_neg (by simp [hv2])]
        have e2 : stL p pl s sl true (cop || dis) = pl := by simp [stL, hv]; rw [pL, if_neg (by simp [hv2])]
        rw [e1, e2]
        exact stE2 b p pl s sl cop dis w hp hpl hs hsl c1 c2 c3 c4 c5 c6 c8 c9 c10 hv hv2

theorem pO_ge (o l n : Int) (h1 : 0 ≤ n) : o ≤ pO o l n := by
  unfold pO
  cases hv : vB o l
  · simp
  · simp [vB] at hv
    simp
    split <;> omega
/-- A statement's end is not ahead of its start, where its semicolon, if valid, is not. -/
theorem stO_ge (p pl s sl : Int) (neg two : Bool) (h : vB s sl = true → p ≤ s) : p ≤ stO p pl s sl neg two := by
  unfold stO
  cases hv : vB s sl
  · cases neg
    · simp
    · simp
      exact pO_ge _ _ _ (by omega)
  · have h1 := h hv
    have h2 := pO_ge s sl 1 (by omega)
    have h3 := pO_ge (pO s sl 1) (pL s sl 1) 1 (by omega)
    cases two <;> simp <;> omega

theorem mkPos (o l : Int) (w : World) : Calls Try.prog 6 #[.int .u32 o, .int .u32 l] w fun e w' => e = .returned (.agg #[.int .u32 o, .int .u32 l]) ∧ w.alloc (.cells #[.int .u32 o, .int .u32 l] 25) = w' := by
  go_enter Try.func6, Try.ntmps6
  go_wp2
  go_returns
  exact ⟨rfl, rfl⟩
def rB (o l : Int) : Bool := decide (o ≤ 4294967284) || (decide (o = 4294967285) && decide (l = 0))
theorem reach (o l : Int) (w : World) : Calls Try.prog 5 #[.int .u32 o, .int .u32 l] w fun e w' => e = .returned (.bool (rB o l)) ∧ w = w' := by
  go_enter Try.func5, Try.ntmps5
  go_wp2
  all_goals
    go_ret
    refine ⟨ret_bool ?_, rfl⟩
    rw [Bool.eq_iff_iff]
    simp [rB] at *
    try omega
theorem copPos (b : Nat) (o l : Int) (w : World) (c0 : w.cell? ⟨b, 0, none⟩ = some (.int .u32 o)) (c1 : w.cell? ⟨b, 1, none⟩ = some (.int .u32 l)) :
    Calls Try.prog 7 #[.pointer (some ⟨b, 0, none⟩)] w fun e w' => e = .returned (.agg #[.int .u32 o, .int .u32 l]) ∧ w.alloc (.cells #[.int .u32 o, .int .u32 l] 25) = w' := by
  have hlt := lt_of_cell c0
  go_enter Try.func7, Try.ntmps7
  go_wp2
  go_returns
  exact ⟨rfl, rfl⟩

end Go.Proofs.Ytkegnedapnabiad
