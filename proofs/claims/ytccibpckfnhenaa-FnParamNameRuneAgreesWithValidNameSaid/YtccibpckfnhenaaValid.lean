/-
  What ValidName answers on a string that is the letter a and one more character: for a string of two bytes below 128 it is the test on the second byte; for a string whose second byte is 128 or more it is false.
-/
import Derived.Test.YtccibpckfnhenaaWalks
import Derived.Laws.RangeAny
import Derived.Laws.Runes
import Derived.Lib.Hide
import Derived.Lib.Strings
namespace Go.Proofs.Ytccibpckfnhenaa
open Go.RowKit

theorem l97 : letB 97 = true := by decide
theorem nonempty (s : ByteArray) (hs : 2 ≤ s.size) : s.toList.isEmpty = false := by
  cases h : s.toList with
  | nil => exfalso; rw [Lib.toList_data] at h; have e : s.data.toList.length = 0 := by rw [h]; rfl
           have : s.size = s.data.toList.length := rfl
           omega
  | cons a b => rfl

theorem valid_step (s : ByteArray) (w : World) (r : Int) (p : Nat) (hs : 2 ≤ s.size)
    (n0 : ∀ ty, (Instr.next (.pointer (some ⟨w.heap.size, 0, none⟩)) true ty).run Try.prog (w.iter s 0) = .ok (.tuple #[.bool true, .int .i64 0, .int .i32 97]) (w.iter s 1))
    (n1 : ∀ ty, (Instr.next (.pointer (some ⟨w.heap.size, 0, none⟩)) true ty).run Try.prog (w.iter s 1) = .ok (.tuple #[.bool true, .int .i64 1, .int .i32 r]) (w.iter s p))
    (n2 : namB r = true → ∀ ty, (Instr.next (.pointer (some ⟨w.heap.size, 0, none⟩)) true ty).run Try.prog (w.iter s p) = .ok (.tuple #[.bool false]) (w.iter s p)) :
    Calls Try.prog 6 #[.string s] w fun e w' => e = .returned (.bool (namB r)) ∧ w.iter s p = w' := by
  have he := nonempty s hs
  have h97 := l97
  cases hl : letB r with
  | true =>
    have hn : namB r = true := by simp [letB, digB, namB] at *; omega
    have n3 := n2 hn
    have HN := Lib.hid hn
    clear n2 hn
    go_enter Try.func6, Try.ntmps6
    go_wp2
    refine wp_loop_rounds 3 ?_
    rw [rounds_succ]
    go_wp2_with (first | (go_at_call 12; refine (letR _ _).mono ?_; rintro e w' ⟨rfl, rfl⟩) | (go_at_call 13; refine (digR _ _).mono ?_; rintro e w' ⟨rfl, rfl⟩))
    rw [rounds_succ]
    go_wp2_with (first | (go_at_call 12; refine (letR _ _).mono ?_; rintro e w' ⟨rfl, rfl⟩) | (go_at_call 13; refine (digR _ _).mono ?_; rintro e w' ⟨rfl, rfl⟩))
    rw [rounds_succ]
    go_wp2_with (first | (go_at_call 12; refine (letR _ _).mono ?_; rintro e w' ⟨rfl, rfl⟩) | (go_at_call 13; refine (digR _ _).mono ?_; rintro e w' ⟨rfl, rfl⟩))
    go_ret
    exact ⟨by rw [HN.out]; rfl, rfl⟩
  | false =>
    cases hu : (r == 95) with
    | true =>
      have hn : namB r = true := by simp [letB, digB, namB] at *; omega
      have n3 := n2 hn
      have HN := Lib.hid hn
      clear n2 hn
      go_enter Try.func6, Try.ntmps6
      go_wp2
      refine wp_loop_rounds 3 ?_
      rw [rounds_succ]
      go_wp2_with (first | (go_at_call 12; refine (letR _ _).mono ?_; rintro e w' ⟨rfl, rfl⟩) | (go_at_call 13; refine (digR _ _).mono ?_; rintro e w' ⟨rfl, rfl⟩))
      rw [rounds_succ]
      go_wp2_with (first | (go_at_call 12; refine (letR _ _).mono ?_; rintro e w' ⟨rfl, rfl⟩) | (go_at_call 13; refine (digR _ _).mono ?_; rintro e w' ⟨rfl, rfl⟩))
      rw [rounds_succ]
      go_wp2_with (first | (go_at_call 12; refine (letR _ _).mono ?_; rintro e w' ⟨rfl, rfl⟩) | (go_at_call 13; refine (digR _ _).mono ?_; rintro e w' ⟨rfl, rfl⟩))
      go_ret
      exact ⟨by rw [HN.out]; rfl, rfl⟩
    | false =>
      cases hd : digB r with
      | true =>
        have hn : namB r = true := by simp [letB, digB, namB] at *; omega
        have n3 := n2 hn
        have HN := Lib.hid hn
        clear n2 hn
        go_enter Try.func6, Try.ntmps6
        go_wp2
        refine wp_loop_rounds 3 ?_
        rw [rounds_succ]
        go_wp2_with (first | (go_at_call 12; refine (letR _ _).mono ?_; rintro e w' ⟨rfl, rfl⟩) | (go_at_call 13; refine (digR _ _).mono ?_; rintro e w' ⟨rfl, rfl⟩))
        rw [rounds_succ]
        go_wp2_with (first | (go_at_call 12; refine (letR _ _).mono ?_; rintro e w' ⟨rfl, rfl⟩) | (go_at_call 13; refine (digR _ _).mono ?_; rintro e w' ⟨rfl, rfl⟩))
        rw [rounds_succ]
        go_wp2_with (first | (go_at_call 12; refine (letR _ _).mono ?_; rintro e w' ⟨rfl, rfl⟩) | (go_at_call 13; refine (digR _ _).mono ?_; rintro e w' ⟨rfl, rfl⟩))
        go_ret
        exact ⟨by rw [HN.out]; rfl, rfl⟩
      | false =>
        have hn : namB r = false := by simp [letB, digB, namB] at *; omega
        have HN := Lib.hid hn
        clear n2 hn
        go_enter Try.func6, Try.ntmps6
        go_wp2
        refine wp_loop_rounds 3 ?_
        rw [rounds_succ]
        go_wp2_with (first | (go_at_call 12; refine (letR _ _).mono ?_; rintro e w' ⟨rfl, rfl⟩) | (go_at_call 13; refine (digR _ _).mono ?_; rintro e w' ⟨rfl, rfl⟩))
        rw [rounds_succ]
        go_wp2_with (first | (go_at_call 12; refine (letR _ _).mono ?_; rintro e w' ⟨rfl, rfl⟩) | (go_at_call 13; refine (digR _ _).mono ?_; rintro e w' ⟨rfl, rfl⟩))
        go_ret
        exact ⟨by rw [HN.out]; rfl, rfl⟩

end Go.Proofs.Ytccibpckfnhenaa
