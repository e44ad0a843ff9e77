/-
  The column counter: addByte over a text with a line feed forgets where it began: for every text and start.
-/
import Derived.Test.YtccnpgmceoojmabBase2
namespace Go.Proofs.Ytccnpgmceoojmab.colf
open Go.RowKit

def stC (b c : Int) : Int := if b = 10 then 1 else c + 1
def stL (b : Int) (l : Bool) : Bool := if b = 10 then true else if b = 9 ∨ b = 32 ∨ b = 255 then l else false
def cC (c : Int) (zs : List Int) : Nat → Int
  | 0 => c
  | k + 1 => stC (zs.getD k 0) (cC c zs k)
def cL (l : Bool) (zs : List Int) : Nat → Bool
  | 0 => l
  | k + 1 => stL (zs.getD k 0) (cL l zs k)
theorem cC_bd (c : Int) (zs : List Int) (h0 : -1073741824 ≤ c) (h1 : c ≤ 1073741824) (k : Nat) : -1073741824 ≤ cC c zs k ∧ cC c zs k ≤ 1073741824 + k := by
  induction k with
  | zero => simp [cC]; omega
  | succ k ih => simp only [cC, stC]; split <;> omega
theorem forget (c d : Int) (l m : Bool) (zs : List Int) (i : Nat) (hi : zs.getD i 0 = 10) (n : Nat) (hn : i < n) : cC c zs n = cC d zs n ∧ cL l zs n = cL m zs n ∧ 1 ≤ cC c zs n ∧ cC c zs n ≤ n := by
  induction n with
  | zero => omega
  | succ n ih =>
    by_cases e : i = n
    · subst e
      simp only [cC, cL, stC, stL, hi]
      simp
      omega
    · obtain ⟨h1, h2, h3, h4⟩ := ih (by omega)
      simp only [cC, cL, h1, h2]
      refine ⟨trivial, trivial, ?_, ?_⟩
      all_goals
        rw [h1] at h3 h4
        unfold stC
        split <;> omega

/-- What addByte leaves: the two cells of the counter, all other blocks as they were. -/
structure Upd (p : Nat) (c : Int) (l : Bool) (w w' : World) : Prop where
  c1 : w'.cell? ⟨p, 1, none⟩ = some (.int .i64 c)
  c2 : w'.cell? ⟨p, 2, none⟩ = some (.bool l)
  f1 : w'.frozen? ⟨p, 1, none⟩ = false
  f2 : w'.frozen? ⟨p, 2, none⟩ = false
  oth : ∀ b o, b ≠ p → w'.cell? ⟨b, o, none⟩ = w.cell? ⟨b, o, none⟩
  ofz : ∀ b o, b ≠ p → w'.frozen? ⟨b, o, none⟩ = w.frozen? ⟨b, o, none⟩
  below : Below p w w'
theorem add10 (p : Nat) (b c : Int) (l : Bool) (w : World) (hb : b = 10) (h1 : w.cell? ⟨p, 1, none⟩ = some (.int .i64 c)) (h2 : w.cell? ⟨p, 2, none⟩ = some (.bool l)) (h3 : w.frozen? ⟨p, 1, none⟩ = false) (h4 : w.frozen? ⟨p, 2, none⟩ = false) (b0 : -1073741824 ≤ c) (b1 : c ≤ 1099511627776) :
    Calls Try.prog 49 #[.pointer (some ⟨p, 0, none⟩), .int .u8 b] w fun e w' => e = .returned (.tuple #[]) ∧ Upd p (stC b c) (stL b l) w w' := by
  subst hb
  have E1 := Lib.hid (show stC 10 c = 1 by simp [stC])
  have E2 := Lib.hid (show stL 10 l = true by simp [stL])
  have hlt := lt_of_cell h1
  go_enter Try.func49, Try.ntmps49
  go_wp2
  go_end0
  refine ⟨rfl, ?_⟩
  rw [E1.out, E2.out]
  constructor
  · simp [go_sem, *]
  · simp [go_sem, *]
  · simp [go_sem, *]
  · simp [go_sem, *]
  · intro x o hx
    simp [go_sem, hx, Ne.symm hx]
  · intro x o hx
    simp [go_sem, hx, Ne.symm hx]
  · go_grown
theorem add9 (p : Nat) (b c : Int) (l : Bool) (w : World) (hb : b = 9) (h1 : w.cell? ⟨p, 1, none⟩ = some (.int .i64 c)) (h2 : w.cell? ⟨p, 2, none⟩ = some (.bool l)) (h3 : w.frozen? ⟨p, 1, none⟩ = false) (h4 : w.frozen? ⟨p, 2, none⟩ = false) (b0 : -1073741824 ≤ c) (b1 : c ≤ 1099511627776) :
    Calls Try.prog 49 #[.pointer (some ⟨p, 0, none⟩), .int .u8 b] w fun e w' => e = .returned (.tuple #[]) ∧ Upd p (stC b c) (stL b l) w w' := by
  subst hb
  have E1 := Lib.hid (show stC 9 c = c + 1 by simp [stC])
  have E2 := Lib.hid (show stL 9 l = l by simp [stL])
  have hlt := lt_of_cell h1
  go_enter Try.func49, Try.ntmps49
  go_wp2
  go_end0
  refine ⟨rfl, ?_⟩
  rw [E1.out, E2.out]
  constructor
  · simp [go_sem, *]
  · simp [go_sem, *]
  · simp [go_sem, *]
  · simp [go_sem, *]
  · intro x o hx
    simp [go_sem, hx, Ne.symm hx]
  · intro x o hx
    simp [go_sem, hx, Ne.symm hx]
  · go_grown
theorem add32 (p : Nat) (b c : Int) (l : Bool) (w : World) (hb : b = 32) (h1 : w.cell? ⟨p, 1, none⟩ = some (.int .i64 c)) (h2 : w.cell? ⟨p, 2, none⟩ = some (.bool l)) (h3 : w.frozen? ⟨p, 1, none⟩ = false) (h4 : w.frozen? ⟨p, 2, none⟩ = false) (b0 : -1073741824 ≤ c) (b1 : c ≤ 1099511627776) :
    Calls Try.prog 49 #[.pointer (some ⟨p, 0, none⟩), .int .u8 b] w fun e w' => e = .returned (.tuple #[]) ∧ Upd p (stC b c) (stL b l) w w' := by
  subst hb
  have E1 := Lib.hid (show stC 32 c = c + 1 by simp [stC])
  have E2 := Lib.hid (show stL 32 l = l by simp [stL])
  have hlt := lt_of_cell h1
  go_enter Try.func49, Try.ntmps49
  go_wp2
  go_end0
  refine ⟨rfl, ?_⟩
  rw [E1.out, E2.out]
  constructor
  · simp [go_sem, *]
  · simp [go_sem, *]
  · simp [go_sem, *]
  · simp [go_sem, *]
  · intro x o hx
    simp [go_sem, hx, Ne.symm hx]
  · intro x o hx
    simp [go_sem, hx, Ne.symm hx]
  · go_grown
theorem add255 (p : Nat) (b c : Int) (l : Bool) (w : World) (hb : b = 255) (h1 : w.cell? ⟨p, 1, none⟩ = some (.int .i64 c)) (h2 : w.cell? ⟨p, 2, none⟩ = some (.bool l)) (h3 : w.frozen? ⟨p, 1, none⟩ = false) (h4 : w.frozen? ⟨p, 2, none⟩ = false) (b0 : -1073741824 ≤ c) (b1 : c ≤ 1099511627776) :
    Calls Try.prog 49 #[.pointer (some ⟨p, 0, none⟩), .int .u8 b] w fun e w' => e = .returned (.tuple #[]) ∧ Upd p (stC b c) (stL b l) w w' := by
  subst hb
  have E1 := Lib.hid (show stC 255 c = c + 1 by simp [stC])
  have E2 := Lib.hid (show stL 255 l = l by simp [stL])
  have hlt := lt_of_cell h1
  go_enter Try.func49, Try.ntmps49
  go_wp2
  go_end0
  refine ⟨rfl, ?_⟩
  rw [E1.out, E2.out]
  constructor
  · simp [go_sem, *]
  · simp [go_sem, *]
  · simp [go_sem, *]
  · simp [go_sem, *]
  · intro x o hx
    simp [go_sem, hx, Ne.symm hx]
  · intro x o hx
    simp [go_sem, hx, Ne.symm hx]
  · go_grown
theorem addx (p : Nat) (b c : Int) (l : Bool) (w : World) (g1 : (b == 10) = false) (g2 : (b == 9) = false) (g3 : (b == 32) = false) (g4 : (b == 255) = false) (h1 : w.cell? ⟨p, 1, none⟩ = some (.int .i64 c)) (h2 : w.cell? ⟨p, 2, none⟩ = some (.bool l)) (h3 : w.frozen? ⟨p, 1, none⟩ = false) (h4 : w.frozen? ⟨p, 2, none⟩ = false) (b0 : -1073741824 ≤ c) (b1 : c ≤ 1099511627776) :
    Calls Try.prog 49 #[.pointer (some ⟨p, 0, none⟩), .int .u8 b] w fun e w' => e = .returned (.tuple #[]) ∧ Upd p (stC b c) (stL b l) w w' := by
  have E1 := Lib.hid (show stC b c = c + 1 by simp at g1; simp [stC, g1])
  have E2 := Lib.hid (show stL b l = false by simp at g1 g2 g3 g4; simp [stL, g1, g2, g3, g4])
  have hlt := lt_of_cell h1
  go_enter Try.func49, Try.ntmps49
  go_wp2
  go_end0
  refine ⟨rfl, ?_⟩
  rw [E1.out, E2.out]
  constructor
  · simp [go_sem, *]
  · simp [go_sem, *]
  · simp [go_sem, *]
  · simp [go_sem, *]
  · intro x o hx
    simp [go_sem, hx, Ne.symm hx]
  · intro x o hx
    simp [go_sem, hx, Ne.symm hx]
  · go_grown
theorem addAny (p : Nat) (b c : Int) (l : Bool) (w : World) (h1 : w.cell? ⟨p, 1, none⟩ = some (.int .i64 c)) (h2 : w.cell? ⟨p, 2, none⟩ = some (.bool l)) (h3 : w.frozen? ⟨p, 1, none⟩ = false) (h4 : w.frozen? ⟨p, 2, none⟩ = false) (b0 : -1073741824 ≤ c) (b1 : c ≤ 1099511627776) :
    Calls Try.prog 49 #[.pointer (some ⟨p, 0, none⟩), .int .u8 b] w fun e w' => e = .returned (.tuple #[]) ∧ Upd p (stC b c) (stL b l) w w' := by
  by_cases g1 : b = 10
  · exact add10 p b c l w g1 h1 h2 h3 h4 b0 b1
  by_cases g2 : b = 9
  · exact add9 p b c l w g2 h1 h2 h3 h4 b0 b1
  by_cases g3 : b = 32
  · exact add32 p b c l w g3 h1 h2 h3 h4 b0 b1
  by_cases g4 : b = 255
  · exact add255 p b c l w g4 h1 h2 h3 h4 b0 b1
  exact addx p b c l w (by simpa using g1) (by simpa using g2) (by simpa using g3) (by simpa using g4) h1 h2 h3 h4 b0 b1
theorem zadd (p : Nat) (b c : Int) (l : Bool) (w : World) (h1 : w.cell? ⟨p, 1, none⟩ = some (.int .i64 c)) (h2 : w.cell? ⟨p, 2, none⟩ = some (.bool l)) (h3 : w.frozen? ⟨p, 1, none⟩ = false) (h4 : w.frozen? ⟨p, 2, none⟩ = false) (b0 : -1073741824 ≤ c) (b1 : c ≤ 1099511627776) :
    Calls Try.prog 39 #[.pointer (some ⟨p, 0, none⟩), .int .u8 b] w fun e w' => e = .returned (.tuple #[]) ∧ Upd p (stC b c) (stL b l) w w' := by
  go_enter Try.func39, Try.ntmps39
  go_wp2_with fail
  refine (addAny p b c l w h1 h2 h3 h4 b0 b1).mono ?_
  rintro e w1 ⟨rfl, hU⟩
  go_wp2
  go_end0
  exact ⟨rfl, hU⟩
theorem newC (c : Int) (l : Bool) (w : World) : Calls Try.prog 38 #[.int .i64 c, .bool l] w fun e w' => e = .returned (.pointer (some ⟨w.heap.size, 0, none⟩)) ∧ w.alloc (.cells #[.pointer none, .int .i64 c, .bool l] 91) = w' := by
  go_enter Try.func38, Try.ntmps38
  go_wp2
  go_ret
  exact ⟨rfl, rfl⟩
theorem getC (p : Nat) (c : Int) (w : World) (h1 : w.cell? ⟨p, 1, none⟩ = some (.int .i64 c)) : Calls Try.prog 40 #[.pointer (some ⟨p, 0, none⟩)] w fun e w' => e = .returned (.int .i64 c) ∧ w = w' := by
  go_enter Try.func40, Try.ntmps40
  go_wp2
  go_ret
  exact ⟨rfl, rfl⟩
theorem getL (p : Nat) (l : Bool) (w : World) (h1 : w.cell? ⟨p, 2, none⟩ = some (.bool l)) : Calls Try.prog 41 #[.pointer (some ⟨p, 0, none⟩)] w fun e w' => e = .returned (.bool l) ∧ w = w' := by
  go_enter Try.func41, Try.ntmps41
  go_wp2
  go_ret
  exact ⟨rfl, rfl⟩
theorem cp_nil (w : World) : Calls Try.prog 37 #[.slice none 0 0] w fun e w' => e = .returned (.slice none 0 0) ∧ w = w' := by
  have hn := fun (w' : World) => Lib.run_eql_slice_nil (P := Try.prog) w' 63 5 none 0 0 0 0 Try.underlying63
  go_enter Try.func37, Try.ntmps37
  go_wp2
  go_ret
  exact ⟨rfl, rfl⟩
theorem cp_zero (x : Addr) (cap : Nat) (zs : List Int) (w : World) : Calls Try.prog 37 #[.slice (some x) 0 cap] w fun e w' => e = .returned (.slice (some ⟨w.heap.size, 0, none⟩) 0 0) ∧ w.alloc (.cells (cpL .u8 zs 0 0) 5) = w' := by
  have hn := fun (w' : World) => Lib.run_eql_slice_nil (P := Try.prog) w' 63 5 (some x) 0 cap 0 0 Try.underlying63
  have hmk : ∀ w' : World, (Instr.makeSlice 63 (.int .i64 0) (.int .i64 0)).run Try.prog w' = .ok (.slice (some ⟨w'.heap.size, 0, none⟩) 0 0) (w'.alloc (.cells (cpL .u8 zs 0 0) 5)) := fun w' => by
    have h := run_make_row' (P := Try.prog) 63 5 (.int .u8 0) 1 Try.underlying63 (by kernel_rfl) rfl .i64 .i64 0 (by omega) (by omega) w'
    rw [cpL_zero .u8 zs] at h
    exact h
  go_enter Try.func37, Try.ntmps37
  go_wp2
  refine wp_loop_rounds 1 ?_
  rw [rounds_succ]
  go_wp2
  go_ret
  exact ⟨rfl, rfl⟩
theorem cp_pos (b off len cap : Nat) (zs : List Int) (w : World) (hl : 0 < len) (hm : len ≤ 1048576) (hc : ∀ i, i < len → w.cell? ⟨b, off + i, none⟩ = some (.int .u8 (zs.getD i 0))) :
    Calls Try.prog 37 #[.slice (some ⟨b, off, none⟩) len cap] w fun e w' => e = .returned (.slice (some ⟨w.heap.size, 0, none⟩) len len) ∧ w.alloc (.cells (cpL .u8 zs len len) 5) = w' := by
  have hn := fun (w' : World) => Lib.run_eql_slice_nil (P := Try.prog) w' 63 5 (some ⟨b, off, none⟩) len cap 0 0 Try.underlying63
  have hmk : ∀ w' : World, (Instr.makeSlice 63 (.int .i64 (len : Int)) (.int .i64 (len : Int))).run Try.prog w' = .ok (.slice (some ⟨w'.heap.size, 0, none⟩) len len) (w'.alloc (.cells (cpL .u8 zs len 0) 5)) := fun w' => by
    have h := run_make_row' (P := Try.prog) 63 5 (.int .u8 0) 1 Try.underlying63 (by kernel_rfl) rfl .i64 .i64 len (by omega) (by omega) w'
    rw [cpL_zero .u8 zs] at h
    exact h
  have hlt := lt_of_cell (hc 0 hl)
  have HC := Lib.hid hc
  clear hc
  go_enter Try.func37, Try.ntmps37
  go_wp2
  clear hmk hn
  go_loopw [4] (fun i wr => ∃ j : Nat, j ≤ len ∧ i = .int .i64 j ∧ wr = w.alloc (.cells (cpL .u8 zs len j) 5)) (fun i _ => len - (intOf i).toNat)
  case atStart => exact ⟨0, by omega, rfl, rfl⟩
  case round =>
    obtain ⟨j, hj, rfl, rfl⟩ := hrel
    by_cases hjl : j < len
    · have c1 := HC.out j hjl
      have c2 : (cpL .u8 zs len j)[j]? = some (.int .u8 0) := by rw [cpL_get .u8 zs len j j hjl]; simp
      have HS := Lib.hid (cpL_set .u8 zs len j hjl)
      generalize zs.getD j 0 = zj at *
      go_wp2
      go_roundw
      case rel => exact ⟨j + 1, by omega, by go_num, by rw [← HS.out]⟩
      case measure => simp [intOf]; omega
    · obtain rfl : j = len := by omega
      go_wp2
      go_ret
      exact ⟨rfl, rfl⟩
theorem hasNo (a : Option Addr) (cap : Nat) (w : World) : Calls Try.prog 36 #[.slice a 0 cap] w fun e w' => e = .returned (.bool false) ∧ w = w' := by
  go_enter Try.func36, Try.ntmps36
  go_wp2
  refine wp_loop_rounds 1 ?_
  rw [rounds_succ]
  go_wp2
  go_ret
  exact ⟨rfl, rfl⟩
def HasN (zs : List Int) (n : Nat) (t : Bool) : Prop := t = true → ∃ i, i < n ∧ zs.getD i 0 = 10
def SomeB (P : Bool → Prop) (w : World) (e : Ending) (w' : World) : Prop := ∃ t : Bool, P t ∧ e = .returned (.bool t) ∧ w = w'
theorem has (b off len cap : Nat) (zs : List Int) (w : World) (hm : len ≤ 1048576) (hc : ∀ i, i < len → w.cell? ⟨b, off + i, none⟩ = some (.int .u8 (zs.getD i 0))) :
    Calls Try.prog 36 #[.slice (some ⟨b, off, none⟩) len cap] w (SomeB (HasN zs len) w) := by
  have HC := Lib.hid hc
  clear hc
  go_enter Try.func36, Try.ntmps36
  go_wp2
  go_loop [3] (fun i => ∃ j : Nat, j ≤ len ∧ i = .int .i64 j) (fun i => len - (intOf i).toNat)
  case atStart => exact ⟨0, by omega, rfl⟩
  case round =>
    obtain ⟨j, hj, rfl⟩ := hrel
    by_cases hjl : j < len
    · have c1 := HC.out j hjl
      by_cases he : zs.getD j 0 = 10
      · have HH := Lib.hid (show HasN zs len true from fun _ => ⟨j, hjl, he⟩)
        rw [he] at c1
        clear he
        go_wp2
        go_ret
        exact ⟨true, HH.out, rfl, rfl⟩
      · have e1 : (zs.getD j 0 == 10) = false := by simpa using he
        clear he
        generalize zs.getD j 0 = z at *
        go_wp2
        go_round
        case rel => exact ⟨j + 1, by omega, by go_num⟩
        case measure => simp [intOf]; omega
    · have HH := Lib.hid (show HasN zs len false from fun h => by cases h)
      go_wp2
      go_ret
      exact ⟨false, HH.out, rfl, rfl⟩
end Go.Proofs.Ytccnpgmceoojmab.colf
