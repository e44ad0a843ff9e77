/-
  A parser built with KeepComments keeps comments exactly as told and has the default language; one built with no option does not keep comments.
-/
import Derived.Test.YtkegnedapnabiacBase
import Derived.Laws.EntriesVeiled
namespace Go.Proofs.Ytkegnedapnabiac.keep
open Go.RowKit

theorem keepC (b : Bool) (w : World) : Calls Try.prog 7 #[.bool b] w fun e w' => e = .returned (.func (.func 22) #[] #[.pointer (some ⟨w.heap.size, 0, none⟩)]) ∧ w.alloc (.cells #[.bool b] 4) = w' := by
  go_enter Try.func7, Try.ntmps7
  go_wp2
  go_ret
  exact ⟨rfl, rfl⟩
theorem clo (b x : Bool) (p q : Nat) (w : World) (c : w.cell? ⟨q, 0, none⟩ = some (.bool b)) (cp : w.cell? ⟨p, 19, none⟩ = some (.bool x)) (cf : w.frozen? ⟨p, 19, none⟩ = false) : Calls Try.prog 22 #[.pointer (some ⟨p, 0, none⟩), .pointer (some ⟨q, 0, none⟩)] w fun e w' => e = .returned (.tuple #[]) ∧ w.setCell ⟨p, 19, none⟩ (.bool b) = w' := by
  go_enter Try.func22, Try.ntmps22
  go_wp2
  go_end0
  exact ⟨rfl, rfl⟩
theorem new0 (w : World) : Calls Try.prog 6 #[.slice none 0 0] w fun e w' => e = .returned (.pointer (some ⟨w.heap.size, 0, none⟩)) ∧ w'.cell? ⟨w.heap.size, 19, none⟩ = some (.bool false) ∧ w'.cell? ⟨w.heap.size, 20, none⟩ = some (.int .i64 1) ∧ Below w.heap.size w w' := by
  have c0 : (w.alloc (.cells (bigS Try.prog 68 [(19, .int .i64 1)]) 68)).cell? ⟨w.heap.size, 19, none⟩ = some (.bool false) := by rw [cell_new]; kernel_rfl
  have c1 : (w.alloc (.cells (bigS Try.prog 68 [(19, .int .i64 1)]) 68)).cell? ⟨w.heap.size, 20, none⟩ = some (.int .i64 1) := by rw [cell_new]; kernel_rfl
  have BB : Below w.heap.size w (w.alloc (.cells (bigS Try.prog 68 [(19, .int .i64 1)]) 68)) := by go_grown
  go_enter Try.func6, Try.ntmps6
  go_wp2_with (first | (refine wpList_value (o := ⟨some 6, _, _, _, _, _⟩) rfl (.agg (bigS Try.prog 68 [(19, .int .i64 1)])) w (by kernel_rfl) ?_) | (refine wpList_value (o := ⟨some 7, _, _, _, _, _⟩) rfl (.pointer (some ⟨w.heap.size, 0, none⟩)) (w.alloc (.cells (bigS Try.prog 68 [(19, .int .i64 1)]) 68)) (by kernel_rfl) ?_))
  generalize w.alloc (.cells (bigS Try.prog 68 [(19, .int .i64 1)]) 68) = W at *
  refine wp_loop_rounds 1 ?_
  rw [rounds_succ]
  go_wp2
  go_ret
  exact ⟨rfl, c0, c1, BB⟩
theorem new1 (b : Bool) (sb q : Nat) (w : World) (d0 : w.cell? ⟨sb, 0, none⟩ = some (.func (.func 22) #[] #[.pointer (some ⟨q, 0, none⟩)])) (d1 : w.cell? ⟨q, 0, none⟩ = some (.bool b)) :
    Calls Try.prog 6 #[.slice (some ⟨sb, 0, none⟩) 1 1] w fun e w' => e = .returned (.pointer (some ⟨w.heap.size, 0, none⟩)) ∧ w'.cell? ⟨w.heap.size, 19, none⟩ = some (.bool b) ∧ w'.cell? ⟨w.heap.size, 20, none⟩ = some (.int .i64 1) ∧ Below w.heap.size w w' := by
  have c0 : (w.alloc (.cells (bigS Try.prog 68 [(19, .int .i64 1)]) 68)).cell? ⟨w.heap.size, 19, none⟩ = some (.bool false) := by rw [cell_new]; kernel_rfl
  have c1 : (w.alloc (.cells (bigS Try.prog 68 [(19, .int .i64 1)]) 68)).cell? ⟨w.heap.size, 20, none⟩ = some (.int .i64 1) := by rw [cell_new]; kernel_rfl
  have f0 := frozen_new w (bigS Try.prog 68 [(19, .int .i64 1)]) 68 19
  have BB : Below w.heap.size w (w.alloc (.cells (bigS Try.prog 68 [(19, .int .i64 1)]) 68)) := by go_grown
  have e0 := cell_later BB d0
  have e1 := cell_later BB d1
  go_enter Try.func6, Try.ntmps6
  go_wp2_with (first | (refine wpList_value (o := ⟨some 6, _, _, _, _, _⟩) rfl (.agg (bigS Try.prog 68 [(19, .int .i64 1)])) w (by kernel_rfl) ?_) | (refine wpList_value (o := ⟨some 7, _, _, _, _, _⟩) rfl (.pointer (some ⟨w.heap.size, 0, none⟩)) (w.alloc (.cells (bigS Try.prog 68 [(19, .int .i64 1)]) 68)) (by kernel_rfl) ?_))
  generalize w.alloc (.cells (bigS Try.prog 68 [(19, .int .i64 1)]) 68) = W at *
  refine wp_loop_rounds 2 ?_
  rw [rounds_succ]
  go_wp2_with fail
  refine (clo b false w.heap.size q W e1 c0 f0).mono ?_
  rintro e w1 ⟨rfl, rfl⟩
  go_wp2
  rw [rounds_succ]
  go_wp2
  go_ret
  refine ⟨rfl, ?_, ?_, by go_grown⟩
  · simp [go_sem, c0]
  · simp [go_sem, c1]
theorem zKeep (p : Nat) (b : Bool) (w : World) (c : w.cell? ⟨p, 19, none⟩ = some (.bool b)) : Calls Try.prog 8 #[.pointer (some ⟨p, 0, none⟩)] w fun e w' => e = .returned (.bool b) ∧ w = w' := by
  go_enter Try.func8, Try.ntmps8
  go_wp2
  go_ret
  exact ⟨rfl, rfl⟩
theorem zLang (p : Nat) (l : Int) (w : World) (c : w.cell? ⟨p, 20, none⟩ = some (.int .i64 l)) : Calls Try.prog 9 #[.pointer (some ⟨p, 0, none⟩)] w fun e w' => e = .returned (.int .i64 l) ∧ w = w' := by
  go_enter Try.func9, Try.ntmps9
  go_wp2
  go_ret
  exact ⟨rfl, rfl⟩
theorem law3 (b : Bool) (w : World) : Calls Try.prog 3 #[.bool b] w fun e w' => e = .returned (.bool true) ∧ Below w.heap.size w w' := by
  go_enter Try.func3, Try.ntmps3
  go_wp2_with (go_at_call 7; refine (keepC _ _).mono ?_; rintro e w' ⟨rfl, rfl⟩)
  refine (new1 b (w.heap.size + 1) w.heap.size _ (by simp [go_sem]) (by simp [go_sem])).mono ?_
  rintro e w1 ⟨rfl, c0, c1, hb⟩
  simp only [World.size_alloc] at c0 c1
  have B1 : Below w.heap.size w w1 := Below.trans (by go_grown) (hb.mono (by simp; omega))
  clear hb
  go_wp2_with (first | (go_at_call 8; refine (zKeep _ b _ c0).mono ?_; rintro e w' ⟨rfl, rfl⟩) | (go_at_call 9; refine (zLang _ 1 _ c1).mono ?_; rintro e w' ⟨rfl, rfl⟩))
  refine (new0 _).mono ?_
  rintro e w2 ⟨rfl, d0, d1, hb2⟩
  have B2 : Below w.heap.size w w2 := Below.trans B1 (hb2.mono B1.size)
  clear hb2 B1
  go_wp2_with (go_at_call 8; refine (zKeep _ false _ d0).mono ?_; rintro e w' ⟨rfl, rfl⟩)
  go_ret
  exact ⟨rfl, B2⟩
end Go.Proofs.Ytkegnedapnabiac.keep
