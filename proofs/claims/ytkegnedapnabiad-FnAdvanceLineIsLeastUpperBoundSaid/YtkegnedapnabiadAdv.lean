/-
  zzCopyUints makes a fresh copy; advanceLine raises the printer's line to the greater of the two: for every value.
-/
import Derived.Test.YtkegnedapnabiadBase
namespace Go.Proofs.Ytkegnedapnabiad.adv
open Go.RowKit

theorem cp_nil (w : World) : Calls Try.prog 11 #[.slice none 0 0] w fun e w' => e = .returned (.slice none 0 0) ∧ w = w' := by
  have hn := fun (w' : World) => Lib.run_eql_slice_nil (P := Try.prog) w' 42 41 none 0 0 0 0 Try.underlying42
  go_enter Try.func11, Try.ntmps11
  go_wp2
  go_ret
  exact ⟨rfl, rfl⟩
theorem cp_zero (x : Addr) (cap : Nat) (zs : List Int) (w : World) : Calls Try.prog 11 #[.slice (some x) 0 cap] w fun e w' => e = .returned (.slice (some ⟨w.heap.size, 0, none⟩) 0 0) ∧ w.alloc (.cells (cpL .u64 zs 0 0) 41) = w' := by
  have hn := fun (w' : World) => Lib.run_eql_slice_nil (P := Try.prog) w' 42 41 (some x) 0 cap 0 0 Try.underlying42
  have hmk : ∀ w' : World, (Instr.makeSlice 42 (.int .i64 0) (.int .i64 0)).run Try.prog w' = .ok (.slice (some ⟨w'.heap.size, 0, none⟩) 0 0) (w'.alloc (.cells (cpL .u64 zs 0 0) 41)) := fun w' => by
    have h := run_make_row' (P := Try.prog) 42 41 (.int .u64 0) 8 Try.underlying42 (by kernel_rfl) rfl .i64 .i64 0 (by omega) (by omega) w'
    rw [cpL_zero .u64 zs] at h
    exact h
  go_enter Try.func11, Try.ntmps11
  go_wp2
  refine wp_loop_rounds 1 ?_
  rw [rounds_succ]
  go_wp2
  go_ret
  exact ⟨rfl, rfl⟩
theorem cp_pos (b off len cap : Nat) (zs : List Int) (w : World) (hl : 0 < len) (hm : len ≤ 1048576) (hc : ∀ i, i < len → w.cell? ⟨b, off + i, none⟩ = some (.int .u64 (zs.getD i 0))) :
    Calls Try.prog 11 #[.slice (some ⟨b, off, none⟩) len cap] w fun e w' => e = .returned (.slice (some ⟨w.heap.size, 0, none⟩) len len) ∧ w.alloc (.cells (cpL .u64 zs len len) 41) = w' := by
  have hn := fun (w' : World) => Lib.run_eql_slice_nil (P := Try.prog) w' 42 41 (some ⟨b, off, none⟩) len cap 0 0 Try.underlying42
  have hmk : ∀ w' : World, (Instr.makeSlice 42 (.int .i64 (len : Int)) (.int .i64 (len : Int))).run Try.prog w' = .ok (.slice (some ⟨w'.heap.size, 0, none⟩) len len) (w'.alloc (.cells (cpL .u64 zs len 0) 41)) := fun w' => by
    have h := run_make_row' (P := Try.prog) 42 41 (.int .u64 0) 8 Try.underlying42 (by kernel_rfl) rfl .i64 .i64 len (by omega) (by omega) w'
    rw [cpL_zero .u64 zs] at h
    exact h
  have hlt := lt_of_cell (hc 0 hl)
  have HC := Lib.hid hc
  clear hc
  go_enter Try.func11, Try.ntmps11
  go_wp2
  clear hmk hn
  go_loopw [4] (fun i wr => ∃ j : Nat, j ≤ len ∧ i = .int .i64 j ∧ wr = w.alloc (.cells (cpL .u64 zs len j) 41)) (fun i _ => len - (intOf i).toNat)
  case atStart => exact ⟨0, by omega, rfl, rfl⟩
  case round =>
    obtain ⟨j, hj, rfl, rfl⟩ := hrel
    by_cases hjl : j < len
    · have c1 := HC.out j hjl
      have c2 : (cpL .u64 zs len j)[j]? = some (.int .u64 0) := by rw [cpL_get .u64 zs len j j hjl]; simp
      have HS := Lib.hid (cpL_set .u64 zs len j hjl)
      generalize zs.getD j 0 = zj at *
      go_wp2
      go_roundw
      case rel => exact ⟨j + 1, by omega, by go_num, by rw [← HS.out]⟩
      case measure => simp [intOf]; omega
    · obtain rfl : j = len := by omega
      go_wp2
      go_ret
      exact ⟨rfl, rfl⟩

theorem adv15_lt (b : Nat) (s l : Int) (w : World) (h : s < l) (c : w.cell? ⟨b, 19, none⟩ = some (.int .u64 s)) (hf : w.frozen? ⟨b, 19, none⟩ = false) :
    Calls Try.prog 15 #[.pointer (some ⟨b, 0, none⟩), .int .u64 l] w fun e w' => e = .returned (.tuple #[]) ∧ w.setCell ⟨b, 19, none⟩ (.int .u64 l) = w' := by
  go_enter Try.func15, Try.ntmps15
  go_wp2
  go_end0
  exact ⟨rfl, rfl⟩
theorem adv15_ge (b : Nat) (s l : Int) (w : World) (h : l ≤ s) (c : w.cell? ⟨b, 19, none⟩ = some (.int .u64 s)) (hf : w.frozen? ⟨b, 19, none⟩ = false) :
    Calls Try.prog 15 #[.pointer (some ⟨b, 0, none⟩), .int .u64 l] w fun e w' => e = .returned (.tuple #[]) ∧ w.setCell ⟨b, 19, none⟩ (.int .u64 s) = w' := by
  go_enter Try.func15, Try.ntmps15
  go_wp2
  go_end0
  exact ⟨rfl, rfl⟩
/-- The greater of two. -/
def mx (s l : Int) : Int := if s < l then l else s
theorem adv12_lt (s l : Int) (w : World) (h : s < l) : Calls Try.prog 12 #[.int .u64 s, .int .u64 l] w fun e w' => e = .returned (.int .u64 l) ∧ Below w.heap.size w w' := by
  have c0 : (w.alloc (.cells (bigS Try.prog 57 [(17, .int .u64 s)]) 57)).cell? ⟨w.heap.size, 19, none⟩ = some (.int .u64 s) := by rw [cell_new]; kernel_rfl
  have f0 := frozen_new w (bigS Try.prog 57 [(17, .int .u64 s)]) 57 19
  go_enter Try.func12, Try.ntmps12
  go_wp2_with (first | (refine wpList_value (o := ⟨some 7, _, _, _, _, _⟩) rfl (.agg (bigS Try.prog 57 [(17, .int .u64 s)])) w (by kernel_rfl) ?_) | (refine wpList_value (o := ⟨some 8, _, _, _, _, _⟩) rfl (.pointer (some ⟨w.heap.size, 0, none⟩)) (w.alloc (.cells (bigS Try.prog 57 [(17, .int .u64 s)]) 57)) (by kernel_rfl) ?_))
  refine (adv15_lt w.heap.size s l _ h c0 f0).mono ?_
  rintro e w1 ⟨rfl, rfl⟩
  have B : Below w.heap.size w (w.alloc (.cells (bigS Try.prog 57 [(17, .int .u64 s)]) 57)) := by go_grown
  generalize w.alloc (.cells (bigS Try.prog 57 [(17, .int .u64 s)]) 57) = W at *
  go_wp2
  go_ret
  exact ⟨rfl, by go_grown⟩
theorem adv12_ge (s l : Int) (w : World) (h : l ≤ s) : Calls Try.prog 12 #[.int .u64 s, .int .u64 l] w fun e w' => e = .returned (.int .u64 s) ∧ Below w.heap.size w w' := by
  have c0 : (w.alloc (.cells (bigS Try.prog 57 [(17, .int .u64 s)]) 57)).cell? ⟨w.heap.size, 19, none⟩ = some (.int .u64 s) := by rw [cell_new]; kernel_rfl
  have f0 := frozen_new w (bigS Try.prog 57 [(17, .int .u64 s)]) 57 19
  go_enter Try.func12, Try.ntmps12
  go_wp2_with (first | (refine wpList_value (o := ⟨some 7, _, _, _, _, _⟩) rfl (.agg (bigS Try.prog 57 [(17, .int .u64 s)])) w (by kernel_rfl) ?_) | (refine wpList_value (o := ⟨some 8, _, _, _, _, _⟩) rfl (.pointer (some ⟨w.heap.size, 0, none⟩)) (w.alloc (.cells (bigS Try.prog 57 [(17, .int .u64 s)]) 57)) (by kernel_rfl) ?_))
  refine (adv15_ge w.heap.size s l _ h c0 f0).mono ?_
  rintro e w1 ⟨rfl, rfl⟩
  have B : Below w.heap.size w (w.alloc (.cells (bigS Try.prog 57 [(17, .int .u64 s)]) 57)) := by go_grown
  generalize w.alloc (.cells (bigS Try.prog 57 [(17, .int .u64 s)]) 57) = W at *
  go_wp2
  go_ret
  exact ⟨rfl, by go_grown⟩
theorem adv12 (s l : Int) (w : World) : Calls Try.prog 12 #[.int .u64 s, .int .u64 l] w fun e w' => e = .returned (.int .u64 (mx s l)) ∧ Below w.heap.size w w' := by
  by_cases h : s < l
  · rw [mx, if_pos h]
    exact adv12_lt s l w h
  · rw [mx, if_neg h]
    exact adv12_ge s l w (by omega)
end Go.Proofs.Ytkegnedapnabiad.adv
