/-
  wordOne makes a word of one part, call wraps a word: what they leave in memory.
-/
import Derived.Test.YtccnpgmceoojmacBaseF
import Derived.Laws.BitsAllLaws
import Derived.Laws.EntriesVeiled
namespace Go.Proofs.Ytccnpgmceoojmac.wone
open Go.RowKit

def PB : List (Nat × Value) := [(19, .int .i64 1)]
theorem new0 (w : World) : Calls Try.prog 26 #[.slice none 0 0] w fun e w' => e = .returned (.pointer (some ⟨w.heap.size, 0, none⟩)) ∧ w'.cell? ⟨w.heap.size, 38, none⟩ = some (.slice none 0 0) ∧ w'.frozen? ⟨w.heap.size, 38, none⟩ = false ∧ Below w.heap.size w w' := by
  have c0 : (w.alloc (.cells (bigS Try.prog 92 [(19, .int .i64 1)]) 92)).cell? ⟨w.heap.size, 38, none⟩ = some (.slice none 0 0) := by rw [cell_new]; kernel_rfl
  have f0 := frozen_new w (bigS Try.prog 92 [(19, .int .i64 1)]) 92 38
  have BB : Below w.heap.size w (w.alloc (.cells (bigS Try.prog 92 [(19, .int .i64 1)]) 92)) := by go_grown
  go_enter Try.func26, Try.ntmps26
  go_wp2_with (first | (refine wpList_value (o := ⟨some 6, _, _, _, _, _⟩) rfl (.agg (bigS Try.prog 92 [(19, .int .i64 1)])) w (by kernel_rfl) ?_) | (refine wpList_value (o := ⟨some 7, _, _, _, _, _⟩) rfl (.pointer (some ⟨w.heap.size, 0, none⟩)) (w.alloc (.cells (bigS Try.prog 92 [(19, .int .i64 1)]) 92)) (by kernel_rfl) ?_))
  generalize w.alloc (.cells (bigS Try.prog 92 [(19, .int .i64 1)]) 92) = W at *
  refine wp_loop_rounds 1 ?_
  rw [rounds_succ]
  go_wp2
  go_ret
  exact ⟨rfl, c0, f0, BB⟩

def WB : Array Value := madeCells #[Value.slice none 0 0, Value.nilIface] 64
theorem hmk0 (w' : World) : (Instr.makeSlice 89 (.int .i64 32) (.int .i64 32)).run Try.prog w' = .ok (.slice (some ⟨w'.heap.size, 0, none⟩) 32 32) (w'.alloc (.cells WB 110)) := by kernel_rfl
theorem exWB : ∃ C : Array Value, (∀ w' : World, (Instr.makeSlice 89 (.int .i64 32) (.int .i64 32)).run Try.prog w' = .ok (.slice (some ⟨w'.heap.size, 0, none⟩) 32 32) (w'.alloc (.cells C 110))) ∧ C[0]? = some (Value.slice none 0 0) ∧ C[1]? = some Value.nilIface ∧ C.size = 64 := ⟨WB, hmk0, by kernel_rfl, by kernel_rfl, by kernel_rfl⟩
set_option maxRecDepth 100000 in
set_option maxHeartbeats 2000000 in
theorem wordOne (p lb : Nat) (w : World) (h1 : w.cell? ⟨p, 38, none⟩ = some (.slice none 0 0)) (h2 : w.frozen? ⟨p, 38, none⟩ = false) :
    Calls Try.prog 48 #[.pointer (some ⟨p, 0, none⟩), .iface 50 (.pointer (some ⟨lb, 0, none⟩))] w fun e w' => e = .returned (.pointer (some ⟨w.heap.size, 0, none⟩)) ∧ w'.cell? ⟨w.heap.size, 0, none⟩ = some (.slice (some ⟨w.heap.size, 1, none⟩) 1 1) ∧ w'.cell? ⟨w.heap.size, 1, none⟩ = some (.iface 50 (.pointer (some ⟨lb, 0, none⟩))) ∧ (∀ b o, b < w.heap.size → b ≠ p → w'.cell? ⟨b, o, none⟩ = w.cell? ⟨b, o, none⟩) ∧ w.heap.size < w'.heap.size ∧ Below p w w' := by
  have hlt := lt_of_cell h1
  obtain ⟨C, hmk, e0, e1, e2⟩ := exWB
  go_enter Try.func48, Try.ntmps48
  go_wp2
  go_ret
  refine ⟨rfl, ?_, ?_, ?_, ?_, ?_⟩
  · simp [go_sem, *]
  · simp [go_sem, *]
  · intro b o hb hne
    have hn : ¬ b = w.heap.size := by omega
    have hn2 : ¬ p = b := fun h => hne h.symm
    simp [go_sem, *]
  · simp
  · go_grown
theorem zwordOne (p lb : Nat) (w : World) (h1 : w.cell? ⟨p, 38, none⟩ = some (.slice none 0 0)) (h2 : w.frozen? ⟨p, 38, none⟩ = false) :
    Calls Try.prog 35 #[.pointer (some ⟨p, 0, none⟩), .pointer (some ⟨lb, 0, none⟩)] w fun e w' => e = .returned (.pointer (some ⟨w.heap.size, 0, none⟩)) ∧ w'.cell? ⟨w.heap.size, 0, none⟩ = some (.slice (some ⟨w.heap.size, 1, none⟩) 1 1) ∧ w'.cell? ⟨w.heap.size, 1, none⟩ = some (.iface 50 (.pointer (some ⟨lb, 0, none⟩))) ∧ (∀ b o, b < w.heap.size → b ≠ p → w'.cell? ⟨b, o, none⟩ = w.cell? ⟨b, o, none⟩) ∧ w.heap.size < w'.heap.size ∧ Below p w w' := by
  go_enter Try.func35, Try.ntmps35
  go_wp2_with fail
  refine (wordOne p lb w h1 h2).mono ?_
  rintro e w1 ⟨rfl, q⟩
  have Q := Lib.hid q
  clear q
  go_wp2
  go_ret
  exact ⟨rfl, Q.out⟩
set_option maxRecDepth 100000 in
theorem call49 (p wb : Nat) (w : World) :
    Calls Try.prog 49 #[.pointer (some ⟨p, 0, none⟩), .pointer (some ⟨wb, 0, none⟩)] w fun e w' => e = .returned (.pointer (some ⟨w.heap.size, 0, none⟩)) ∧ w.alloc (.cells #[.slice none 0 0, .slice (some ⟨w.heap.size, 2, none⟩) 1 4, .pointer (some ⟨wb, 0, none⟩), .pointer none, .pointer none, .pointer none] 112) = w' := by
  go_enter Try.func49, Try.ntmps49
  go_wp2
  go_ret
  exact ⟨rfl, rfl⟩
theorem call36 (p wb : Nat) (w : World) :
    Calls Try.prog 36 #[.pointer (some ⟨p, 0, none⟩), .pointer (some ⟨wb, 0, none⟩)] w fun e w' => e = .returned (.pointer (some ⟨w.heap.size, 0, none⟩)) ∧ w.alloc (.cells #[.slice none 0 0, .slice (some ⟨w.heap.size, 2, none⟩) 1 4, .pointer (some ⟨wb, 0, none⟩), .pointer none, .pointer none, .pointer none] 112) = w' := by
  go_enter Try.func36, Try.ntmps36
  go_wp2_with (go_at_call 49; refine (call49 _ _ _).mono ?_; rintro e w' ⟨rfl, rfl⟩)
  go_ret
  exact ⟨rfl, rfl⟩
theorem litPos (b : Nat) (o l : Int) (w : World) (c0 : w.cell? ⟨b, 0, none⟩ = some (.int .u32 o)) (c1 : w.cell? ⟨b, 1, none⟩ = some (.int .u32 l)) :
    Calls Try.prog 53 #[.pointer (some ⟨b, 0, none⟩)] w fun e w' => e = .returned (.agg #[.int .u32 o, .int .u32 l]) ∧ w.alloc (.cells #[.int .u32 o, .int .u32 l] 48) = w' := by
  have hlt := lt_of_cell c0
  go_enter Try.func53, Try.ntmps53
  go_wp2
  go_returns
  exact ⟨rfl, rfl⟩
theorem wordPos (wb pb po lb : Nat) (o l : Int) (w : World) (c0 : w.cell? ⟨wb, 0, none⟩ = some (.slice (some ⟨pb, po, none⟩) 1 1)) (c1 : w.cell? ⟨pb, po, none⟩ = some (.iface 50 (.pointer (some ⟨lb, 0, none⟩)))) (d0 : w.cell? ⟨lb, 0, none⟩ = some (.int .u32 o)) (d1 : w.cell? ⟨lb, 1, none⟩ = some (.int .u32 l)) :
    Calls Try.prog 37 #[.pointer (some ⟨wb, 0, none⟩)] w fun e w' => e = .returned (.agg #[.int .u32 o, .int .u32 l]) ∧ (w.alloc (.cells #[.int .u32 o, .int .u32 l] 48)).alloc (.cells #[.int .u32 o, .int .u32 l] 48) = w' := by
  have h0 := lt_of_cell c0
  have h1 := lt_of_cell c1
  go_enter Try.func37, Try.ntmps37
  go_wp2_with (go_at_call 53; refine (litPos lb o l _ (cell_later (by go_grown) d0) (cell_later (by go_grown) d1)).mono ?_; rintro e w' ⟨rfl, rfl⟩)
  go_returns
  exact ⟨rfl, rfl⟩
theorem cePos (cb wb pb po lb : Nat) (o l : Int) (w : World) (a0 : w.cell? ⟨cb, 0, none⟩ = some (.slice none 0 0)) (a1 : w.cell? ⟨cb, 1, none⟩ = some (.slice (some ⟨cb, 2, none⟩) 1 4)) (a2 : w.cell? ⟨cb, 2, none⟩ = some (.pointer (some ⟨wb, 0, none⟩))) (c0 : w.cell? ⟨wb, 0, none⟩ = some (.slice (some ⟨pb, po, none⟩) 1 1)) (c1 : w.cell? ⟨pb, po, none⟩ = some (.iface 50 (.pointer (some ⟨lb, 0, none⟩)))) (d0 : w.cell? ⟨lb, 0, none⟩ = some (.int .u32 o)) (d1 : w.cell? ⟨lb, 1, none⟩ = some (.int .u32 l)) :
    Calls Try.prog 38 #[.pointer (some ⟨cb, 0, none⟩)] w fun e w' => e = .returned (.agg #[.int .u32 o, .int .u32 l]) ∧ ((w.alloc (.cells #[.int .u32 o, .int .u32 l] 48)).alloc (.cells #[.int .u32 o, .int .u32 l] 48)).alloc (.cells #[.int .u32 o, .int .u32 l] 48) = w' := by
  have h0 := lt_of_cell a0
  go_enter Try.func38, Try.ntmps38
  go_wp2_with (go_at_call 37; refine (wordPos wb pb po lb o l _ (cell_later (by go_grown) c0) (cell_later (by go_grown) c1) (cell_later (by go_grown) d0) (cell_later (by go_grown) d1)).mono ?_; rintro e w' ⟨rfl, rfl⟩)
  go_returns
  exact ⟨rfl, rfl⟩
set_option maxHeartbeats 4000000 in
theorem newPos (o ln c : Int) (w : World) (h0 : 0 ≤ o) (h1 : o ≤ 4294967295) (h2 : 0 ≤ ln) (h3 : ln ≤ 4294967295) (h4 : 0 ≤ c) (h5 : c ≤ 4294967295) :
    Calls Try.prog 34 #[.int .u64 o, .int .u64 ln, .int .u64 c] w fun e w' => (∃ a b : Int, e = .returned (.agg #[.int .u32 a, .int .u32 b])) ∧ Below w.heap.size w w' := by
  by_cases t1 : 262143 < ln
  all_goals
    by_cases t2 : 16383 < c
    all_goals
      by_cases t3 : o ≤ 4294967284
      all_goals
        go_enter Try.func34, Try.ntmps34
        go_wp2
        go_returns
        exact ⟨⟨_, _, rfl⟩, by go_grown⟩
theorem zzBig (o ln c : Int) (s : ByteArray) (w : World) (h : 1048576 < (s.size : Int)) : Calls Try.prog 33 #[.int .u32 o, .int .u32 ln, .int .u32 c, .string s] w fun e w' => e = .returned (.bool false) ∧ w = w' := by
  go_enter Try.func33, Try.ntmps33
  go_wp2
  go_ret
  exact ⟨rfl, rfl⟩
theorem zzSmall (o ln c : Int) (s : ByteArray) (w : World) (h : ¬ 1048576 < (s.size : Int)) : Calls Try.prog 33 #[.int .u32 o, .int .u32 ln, .int .u32 c, .string s] w fun e w' => e = .returned (.bool true) ∧ w = w' := by
  have x : IntKind.i64.wrap (0 + (s.size : Int)) = s.size := by rw [IntWalk.i64_in _ (by omega)]; omega
  have x2 : IntKind.i64.wrap (s.size : Int) = s.size := by rw [IntWalk.i64_in _ (by omega)]
  go_enter Try.func33, Try.ntmps33
  go_wp2
  go_ret
  exact ⟨rfl, rfl⟩
end Go.Proofs.Ytccnpgmceoojmac.wone
