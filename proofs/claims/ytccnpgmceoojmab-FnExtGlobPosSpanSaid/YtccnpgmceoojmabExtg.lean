/-
  ExtGlob: Pos is the operator position, End lies one byte behind the pattern's end.
-/
import Derived.Test.YtccnpgmceoojmabPos
namespace Go.Proofs.Ytccnpgmceoojmab.extg
open Go.RowKit

theorem mkPos27 (o l : Int) (w : World) : Calls Try.prog 31 #[.int .u32 o, .int .u32 l] w fun e w' => e = .returned (.agg #[.int .u32 o, .int .u32 l]) ∧ w.alloc (.cells #[.int .u32 o, .int .u32 l] 25) = w' := by
  go_enter Try.func31, Try.ntmps31
  go_wp2
  go_returns
  exact ⟨rfl, rfl⟩
theorem litEnd (b : Nat) (o l : Int) (w : World) (c0 : w.cell? ⟨b, 2, none⟩ = some (.int .u32 o)) (c1 : w.cell? ⟨b, 3, none⟩ = some (.int .u32 l)) :
    Calls Try.prog 43 #[.pointer (some ⟨b, 0, none⟩)] w fun e w' => e = .returned (.agg #[.int .u32 o, .int .u32 l]) ∧ w.alloc (.cells #[.int .u32 o, .int .u32 l] 25) = w' := by
  have hlt := lt_of_cell c0
  go_enter Try.func43, Try.ntmps43
  go_wp2
  go_returns
  exact ⟨rfl, rfl⟩
theorem egPos (b : Nat) (o l : Int) (w : World) (c0 : w.cell? ⟨b, 0, none⟩ = some (.int .u32 o)) (c1 : w.cell? ⟨b, 1, none⟩ = some (.int .u32 l)) :
    Calls Try.prog 33 #[.pointer (some ⟨b, 0, none⟩)] w fun e w' => e = .returned (.agg #[.int .u32 o, .int .u32 l]) ∧ w.alloc (.cells #[.int .u32 o, .int .u32 l] 25) = w' := by
  have hlt := lt_of_cell c0
  go_enter Try.func33, Try.ntmps33
  go_wp2
  go_returns
  exact ⟨rfl, rfl⟩
theorem egEnd (b lb : Nat) (o l : Int) (w : World) (h0 : 0 ≤ o) (h2 : 0 ≤ l) (h3 : l ≤ 4294967295) (hv : vB o l = true) (c0 : w.cell? ⟨b, 3, none⟩ = some (.pointer (some ⟨lb, 0, none⟩))) (c2 : w.cell? ⟨lb, 2, none⟩ = some (.int .u32 o)) (c3 : w.cell? ⟨lb, 3, none⟩ = some (.int .u32 l)) :
    Calls Try.prog 34 #[.pointer (some ⟨b, 0, none⟩)] w fun e w' => e = .returned (.agg #[.int .u32 (pO o l 1), .int .u32 (pL o l 1)]) ∧ (((((w.alloc (.cells #[.int .u32 (pO o l 1), .int .u32 (pL o l 1)] 25)).alloc (.cells #[.int .u32 o, .int .u32 l] 25)).alloc (.cells #[.int .u32 (pO o l 1), .int .u32 (pL o l 1)] 25)).alloc (.cells #[.int .u32 (pO o l 1), .int .u32 (pL o l 1)] 25)).alloc (.cells #[.int .u32 o, .int .u32 l] 25)).alloc (.cells #[.int .u32 o, .int .u32 l] 25) = w' := by
  have hb := lt_of_cell c0
  have hl := lt_of_cell c2
  go_enter Try.func34, Try.ntmps34
  go_wp2_with (first | (go_at_call 43; refine (litEnd _ o l _ (cell_later (by go_grown) c2) (cell_later (by go_grown) c3)).mono ?_; rintro e w' ⟨rfl, rfl⟩) | (go_at_call 42; refine (posAddX _ _ _ _ h0 h2 h3 (by omega) (by omega) hv).mono ?_; rintro e w' ⟨rfl, rfl⟩))
  go_returns
  exact ⟨rfl, rfl⟩
theorem newEG (o l op a b c d : Int) (s : ByteArray) (w : World) : Calls Try.prog 32 #[.agg #[.int .u32 o, .int .u32 l], .int .u32 op, .agg #[.int .u32 a, .int .u32 b], .agg #[.int .u32 c, .int .u32 d], .string s] w fun e w' => e = .returned (.pointer (some ⟨w.heap.size + 1 + 1 + 1 + 1, 0, none⟩)) ∧ ((((w.alloc (.cells #[.int .u32 o, .int .u32 l] 25)).alloc (.cells #[.int .u32 a, .int .u32 b] 25)).alloc (.cells #[.int .u32 c, .int .u32 d] 25)).alloc (.cells #[.int .u32 a, .int .u32 b, .int .u32 c, .int .u32 d, .string s] 74)).alloc (.cells #[.int .u32 o, .int .u32 l, .int .u32 op, .pointer (some ⟨w.heap.size + 1 + 1 + 1, 0, none⟩)] 88) = w' := by
  go_enter Try.func32, Try.ntmps32
  go_wp2
  go_ret
  exact ⟨rfl, rfl⟩
theorem or_line (ln c : Int) (h0 : 0 ≤ ln) (h1 : ln ≤ 262143) (c0 : 0 ≤ c) (c1 : c < 16384) : bits .or .u32 (ln * 16384) c = ln * 16384 + c := by
  have h := or_col (ln * 16384) c (by omega) (by omega) c0 c1
  have e : ln * 16384 - ln * 16384 % 16384 = ln * 16384 := by omega
  rw [e] at h
  exact h

end Go.Proofs.Ytccnpgmceoojmab.extg
