/-
  The two laws on statement trees: endsWithRparen answers as the model of the right spine says; startsWithLparen does not see the modifiers.
-/
import Derived.Test.YtccnpgmceoojmadBldD
import Derived.Lib.SliceRun
namespace Go.Proofs.Ytccnpgmceoojmad.bld
open Go.RowKit
open Go.Proofs.Ytccnpgmceoojmad

theorem row_bd {w : World} {a : Option Addr} {n c : Nat} {zs : List Int} (h : IsRowB .u8 w a n c zs) (j : Nat) : 0 ≤ zs.getD j 0 ∧ zs.getD j 0 ≤ 255 := by
  rcases h with ⟨_, _, _, rfl⟩ | ⟨x, _, _, _, _, _, hw⟩
  · simp
  · have h := range_u8 hw j
    rw [List.getD_eq_getElem?_getD]
    exact h
theorem row_len {K : IntKind} {w : World} {a : Option Addr} {n c : Nat} {zs : List Int} (h : IsRowB K w a n c zs) : n ≤ 9223372036854775807 := by
  rcases h with ⟨_, rfl, _, _⟩ | ⟨x, _, hl, hm, _⟩
  · omega
  · unfold maxLen at hm; omega
theorem copy_nil (w : World) : Calls Try.prog 18 #[.slice none 0 0] w fun e w' => e = .returned (.slice none 0 0) ∧ w = w' := by
  have hn := fun (w' : World) => Lib.run_eql_slice_nil (P := Try.prog) w' 50 5 none 0 0 0 0 Try.underlying50
  go_enter Try.func18, Try.ntmps18
  go_wp2
  go_ret
  exact ⟨rfl, rfl⟩
theorem copy_zero (x : Addr) (cap : Nat) (zs : List Int) (w : World) : Calls Try.prog 18 #[.slice (some x) 0 cap] w fun e w' => e = .returned (.slice (some ⟨w.heap.size, 0, none⟩) 0 0) ∧ w.alloc (.cells (cpL .u8 zs 0 0) 5) = w' := by
  have hn := fun (w' : World) => Lib.run_eql_slice_nil (P := Try.prog) w' 50 5 (some x) 0 cap 0 0 Try.underlying50
  have hmk : ∀ w' : World, (Instr.makeSlice 50 (.int .i64 0) (.int .i64 0)).run Try.prog w' = .ok (.slice (some ⟨w'.heap.size, 0, none⟩) 0 0) (w'.alloc (.cells (cpL .u8 zs 0 0) 5)) := fun w' => by
    have h := run_make_row' (P := Try.prog) 50 5 (.int .u8 0) 1 Try.underlying50 (by kernel_rfl) rfl .i64 .i64 0 (by omega) (by omega) w'
    rw [cpL_zero .u8 zs] at h
    exact h
  go_enter Try.func18, Try.ntmps18
  go_wp2
  refine wp_loop_rounds 1 ?_
  rw [rounds_succ]
  go_wp2
  go_ret
  exact ⟨rfl, rfl⟩
theorem copy_pos (b off len cap : Nat) (zs : List Int) (w : World) (hl : 0 < len) (hm : len ≤ 1048576) (hc : ∀ i, i < len → w.cell? ⟨b, off + i, none⟩ = some (.int .u8 (zs.getD i 0))) :
    Calls Try.prog 18 #[.slice (some ⟨b, off, none⟩) len cap] w fun e w' => e = .returned (.slice (some ⟨w.heap.size, 0, none⟩) len len) ∧ w.alloc (.cells (cpL .u8 zs len len) 5) = w' := by
  have hn := fun (w' : World) => Lib.run_eql_slice_nil (P := Try.prog) w' 50 5 (some ⟨b, off, none⟩) len cap 0 0 Try.underlying50
  have hmk : ∀ w' : World, (Instr.makeSlice 50 (.int .i64 (len : Int)) (.int .i64 (len : Int))).run Try.prog w' = .ok (.slice (some ⟨w'.heap.size, 0, none⟩) len len) (w'.alloc (.cells (cpL .u8 zs len 0) 5)) := fun w' => by
    have h := run_make_row' (P := Try.prog) 50 5 (.int .u8 0) 1 Try.underlying50 (by kernel_rfl) rfl .i64 .i64 len (by omega) (by omega) w'
    rw [cpL_zero .u8 zs] at h
    exact h
  have hlt := lt_of_cell (hc 0 hl)
  have HC := Lib.hid hc
  clear hc
  go_enter Try.func18, Try.ntmps18
  go_wp2
  clear hmk hn
  go_loopw [4] (fun i wr => ∃ j : Nat, j ≤ len ∧ i = .int .i64 j ∧ wr = w.alloc (.cells (cpL .u8 zs len j) 5)) (fun i _ => len - (intOf i).toNat)
  case atStart => exact ⟨0, by omega, rfl, rfl⟩
  case round =>
    obtain ⟨j, hj, rfl, rfl⟩ := hrel
    by_cases hjl : j < len
    · have c1 := HC.out j hjl
      have c2 : (cpL .u8 zs len j)[j]? = some (.int .u8 0) := by rw [cpL_get .u8 zs len j j hjl]; simp
      have HS := Lib.hid (cpL_set .u8 zs len j hjl)
      generalize zs.getD j 0 = zj at *
      go_wp2
      go_roundw
      case rel => exact ⟨j + 1, by omega, by go_num, by rw [← HS.out]⟩
      case measure => simp [intOf]; omega
    · obtain rfl : j = len := by omega
      go_wp2
      go_ret
      exact ⟨rfl, rfl⟩
/-- A row of ops that can be read. -/
def Ops (w : World) (a : Option Addr) (n : Nat) (zs : List Int) : Prop := ∀ i, i < n → ∃ b off, a = some ⟨b, off, none⟩ ∧ w.cell? ⟨b, off + i, none⟩ = some (.int .u8 (zs.getD i 0))
theorem Ops.later {w wx : World} {a : Option Addr} {n : Nat} {zs : List Int} (h : Ops w a n zs) (hb : Below w.heap.size w wx) : Ops wx a n zs := fun i hi => by
  obtain ⟨b, off, e, c⟩ := h i hi
  exact ⟨b, off, e, cell_later hb c⟩
def Copied (n : Nat) (zs : List Int) (w : World) (e : Ending) (w' : World) : Prop := ∃ a c, e = .returned (.slice a n c) ∧ Ops w' a n zs ∧ Below w.heap.size w w'
theorem copied (a : Option Addr) (n c : Nat) (zs : List Int) (w : World) (hn : n ≤ 4096) (ra : IsRowB .u8 w a n c zs) : Calls Try.prog 18 #[.slice a n c] w (Copied n zs w) := by
  rcases ra with ⟨rfl, rfl, rfl, _⟩ | ⟨x, rfl, hl, hm, hz, hcell, _⟩
  · exact (copy_nil w).mono fun e w' ⟨h1, h2⟩ => ⟨none, 0, h1, fun i hi => absurd hi (Nat.not_lt_zero i), h2 ▸ Below.refl _ _⟩
  · rcases Nat.eq_zero_or_pos n with rfl | hp
    · exact (copy_zero x c zs w).mono fun e w' ⟨h1, h2⟩ => ⟨_, 0, h1, fun i hi => absurd hi (Nat.not_lt_zero i), h2 ▸ (Below.refl _ _).alloc (Nat.le_refl _) _⟩
    · obtain ⟨b, off, rfl, hcl⟩ := row_at hcell (by omega)
      exact (copy_pos b off n c zs w hp (by omega) (fun i hi => hcl i (by omega))).mono fun e w' ⟨h1, h2⟩ =>
        ⟨_, n, h1, h2 ▸ fun i hi => ⟨w.heap.size, 0, rfl, by rw [Nat.zero_add]; exact RowAt.copy .u8 w 5 n zs i hi⟩, h2 ▸ (Below.refl _ _).alloc (Nat.le_refl _) _⟩
theorem bytes5 (a : Option Addr) (n c : Nat) (w : World) (h : n ≤ 4096) : Calls Try.prog 17 #[.slice a n c] w fun e w' => e = .returned (.bool true) ∧ w = w' := by
  have g1 : ¬ (1048576 : Int) < (n : Int) := by omega
  go_enter Try.func17, Try.ntmps17
  go_wp2
  go_ret
  exact ⟨rfl, rfl⟩
theorem bytes6 (a : Option Addr) (n c : Nat) (w : World) (h : n ≤ 4096) : Calls Try.prog 21 #[.slice a n c] w fun e w' => e = .returned (.bool true) ∧ w = w' := by
  have g1 : ¬ (1048576 : Int) < (n : Int) := by omega
  go_enter Try.func21, Try.ntmps21
  go_wp2
  go_ret
  exact ⟨rfl, rfl⟩
set_option maxRecDepth 100000 in
theorem longer5 (a : Option Addr) (n c : Nat) (w : World) (m : n ≤ 9223372036854775807) (h : 4096 < n) : Calls Try.prog 5 #[.slice a n c] w fun e w' => e = .returned (.bool true) ∧ Below w.heap.size w w' := by
  have g0 : (4096 : Int) < (n : Int) := by omega
  go_enter Try.func5, Try.ntmps5
  go_wp2_with (go_at_call 17; go_in)
  all_goals
    go_ret
    exact ⟨rfl, Below.refl _ _⟩
set_option maxRecDepth 100000 in
theorem longer6 (a : Option Addr) (n c : Nat) (w : World) (m : n ≤ 9223372036854775807) (h : 4096 < n) : Calls Try.prog 6 #[.slice a n c] w fun e w' => e = .returned (.bool true) ∧ Below w.heap.size w w' := by
  have g0 : (4096 : Int) < (n : Int) := by omega
  go_enter Try.func6, Try.ntmps6
  go_wp2_with (go_at_call 21; go_in)
  all_goals
    go_ret
    exact ⟨rfl, Below.refl _ _⟩
theorem zends (b : Nat) (s : Bool) (w : World) (h : EW w (.iface 53 (.pointer (some ⟨b, 0, none⟩))) s) : Calls Try.prog 20 #[.pointer (some ⟨b, 0, none⟩)] w fun e w' => e = .returned (.bool s) ∧ w = w' := by
  have HC := Lib.hid h
  clear h
  go_enter Try.func20, Try.ntmps20
  go_wp2_with fail
  refine Calls.mono (show Calls Try.prog 35 #[.iface 53 (.pointer (some ⟨b, 0, none⟩))] w fun e w' => e = .returned (.bool s) ∧ w = w' from HC.out) ?_
  rintro e w' ⟨rfl, rfl⟩
  go_wp2
  go_ret
  exact ⟨rfl, rfl⟩
theorem zstarts (b : Nat) (s : Bool) (w : World) (h : SW w (.iface 53 (.pointer (some ⟨b, 0, none⟩))) s) : Calls Try.prog 22 #[.pointer (some ⟨b, 0, none⟩)] w fun e w' => e = .returned (.bool s) ∧ w = w' := by
  have HC := Lib.hid h
  clear h
  go_enter Try.func22, Try.ntmps22
  go_wp2_with fail
  refine Calls.mono (show Calls Try.prog 36 #[.iface 53 (.pointer (some ⟨b, 0, none⟩))] w fun e w' => e = .returned (.bool s) ∧ w = w' from HC.out) ?_
  rintro e w' ⟨rfl, rfl⟩
  go_wp2
  go_ret
  exact ⟨rfl, rfl⟩
set_option maxRecDepth 100000 in
theorem main5 (a : Option Addr) (n c : Nat) (zs : List Int) (w : World) (hn : n ≤ 4096) (ra : IsRowB .u8 w a n c zs) : Calls Try.prog 5 #[.slice a n c] w fun e w' => e = .returned (.bool true) ∧ Below w.heap.size w w' := by
  have HR := Lib.hid ra
  have HZ := Lib.hid (row_bd ra)
  clear ra
  have g0 : ¬ (4096 : Int) < (n : Int) := by omega
  go_enter Try.func5, Try.ntmps5
  go_wp2_with (first | (go_at_call 17; refine (bytes5 _ _ _ _ hn).mono ?_; rintro e w' ⟨rfl, rfl⟩) | (go_at_call 18; refine (copied _ _ _ zs _ hn HR.out).mono ?_; rintro e W ⟨a1, c1, rfl, hO, BW⟩; have HO := Lib.hid hO; clear hO) | fail)
  refine (build a1 n c1 zs false W hn HO.out HZ.out).mono ?_
  rintro e V ⟨hV, BV⟩
  rcases hV with ⟨_, rfl⟩ | ⟨b, en, fl, _, rfl, hR⟩
  · go_wp2
    go_ret
    exact ⟨rfl, below_next BW BV⟩
  · have HE := Lib.hid hR.both.2
    clear hR
    generalize (runS zs n).getD ((runS zs n).length - 1) false = sB
    go_wp2_with (go_at_call 20; refine (zends b en _ HE.out).mono ?_; rintro e w' ⟨rfl, rfl⟩)
    go_ret
    exact ⟨ret_bool (by simp), below_next BW BV⟩
set_option maxRecDepth 100000 in
theorem main6 (a : Option Addr) (n c : Nat) (zs : List Int) (w : World) (hn : n ≤ 4096) (ra : IsRowB .u8 w a n c zs) : Calls Try.prog 6 #[.slice a n c] w fun e w' => e = .returned (.bool true) ∧ Below w.heap.size w w' := by
  have HR := Lib.hid ra
  have HZ := Lib.hid (row_bd ra)
  clear ra
  have g0 : ¬ (4096 : Int) < (n : Int) := by omega
  go_enter Try.func6, Try.ntmps6
  go_wp2_with (first | (go_at_call 21; refine (bytes6 _ _ _ _ hn).mono ?_; rintro e w' ⟨rfl, rfl⟩) | (go_at_call 18; refine (copied _ _ _ zs _ hn HR.out).mono ?_; rintro e W ⟨a1, c1, rfl, hO, BW⟩; have HO := Lib.hid hO; clear hO) | fail)
  refine (build a1 n c1 zs false W hn HO.out HZ.out).mono ?_
  rintro e V ⟨hV, BV⟩
  rcases hV with ⟨_, rfl⟩ | ⟨b, en, fl, hne, rfl, hR⟩
  · go_wp2
    go_ret
    exact ⟨rfl, below_next BW BV⟩
  · have HN := Lib.hid hne
    clear hne
    obtain ⟨sB, hs⟩ : ∃ y, y = (runS zs n).getD ((runS zs n).length - 1) false := ⟨_, rfl⟩
    rw [← hs] at hR ⊢
    have HS := Lib.hid hs
    have H1 := Lib.hid hR
    clear hR hs
    go_wp2_with fail
    refine (build a1 n c1 zs true V hn (HO.out.later BV) HZ.out).mono ?_
    rintro e U ⟨hU, BU⟩
    rcases hU with ⟨h0, _⟩ | ⟨b2, en2, fl2, _, rfl, hR2⟩
    · exact absurd h0 HN.out
    · rw [← HS.out] at hR2 ⊢
      have HA := Lib.hid (H1.out.keep (Kp.ofBelow BU)).both.1
      have HB := Lib.hid hR2.both.1
      clear hR2 H1
      go_wp2_with (first | (go_at_call_of 22 (Value.pointer (some ⟨b, 0, none⟩)); refine (zstarts b sB _ HA.out).mono ?_; rintro e w' ⟨rfl, rfl⟩) | (go_at_call_of 22 (Value.pointer (some ⟨b2, 0, none⟩)); refine (zstarts b2 sB _ HB.out).mono ?_; rintro e w' ⟨rfl, rfl⟩))
      go_ret
      exact ⟨ret_bool (by simp), below_next (below_next BW BV) BU⟩
theorem law5 (a : Option Addr) (n c : Nat) (zs : List Int) (w : World) (ra : IsRowB .u8 w a n c zs) : Calls Try.prog 5 #[.slice a n c] w fun e w' => e = .returned (.bool true) ∧ Below w.heap.size w w' := by
  by_cases h : 4096 < n
  · exact longer5 a n c w (row_len ra) h
  · exact main5 a n c zs w (by omega) ra
theorem law6 (a : Option Addr) (n c : Nat) (zs : List Int) (w : World) (ra : IsRowB .u8 w a n c zs) : Calls Try.prog 6 #[.slice a n c] w fun e w' => e = .returned (.bool true) ∧ Below w.heap.size w w' := by
  by_cases h : 4096 < n
  · exact longer6 a n c w (row_len ra) h
  · exact main6 a n c zs w (by omega) ra
end Go.Proofs.Ytccnpgmceoojmad.bld
