/-
  Two column counters fed the same text with a line feed end alike, with a column within the text's length: for every text and start.
-/
import Derived.Test.YtccnpgmceoojmabColf
namespace Go.Proofs.Ytccnpgmceoojmab.colf
open Go.RowKit

/-- A counter's state in memory. -/
structure Ctr (w : World) (p : Nat) (c : Int) (l : Bool) : Prop where
  c1 : w.cell? ⟨p, 1, none⟩ = some (.int .i64 c)
  c2 : w.cell? ⟨p, 2, none⟩ = some (.bool l)
  f1 : w.frozen? ⟨p, 1, none⟩ = false
  f2 : w.frozen? ⟨p, 2, none⟩ = false
theorem Ctr.other {w w' : World} {p q : Nat} {c d : Int} {l m : Bool} (h : Ctr w q d m) (u : Upd p c l w w') (hn : q ≠ p) : Ctr w' q d m :=
  ⟨(u.oth q 1 hn).trans h.c1, (u.oth q 2 hn).trans h.c2, (u.ofz q 1 hn).trans h.f1, (u.ofz q 2 hn).trans h.f2⟩
theorem Upd.ctr {w w' : World} {p : Nat} {c : Int} {l : Bool} (u : Upd p c l w w') : Ctr w' p c l := ⟨u.c1, u.c2, u.f1, u.f2⟩
theorem rowOther {K : IntKind} {w w' : World} {p g len : Nat} {zs : List Int} {c : Int} {l : Bool} (h : RowAt K w g len zs) (u : Upd p c l w w') (hn : g ≠ p) : RowAt K w' g len zs := fun i hi => (u.oth g i hn).trans (h i hi)

set_option maxRecDepth 100000 in
set_option maxHeartbeats 1000000 in
theorem law_pos (c d : Int) (l m : Bool) (b off len cap : Nat) (zs : List Int) (w : World) (hl : 0 < len) (hm : len ≤ 1048576) (hc : ∀ i, i < len → w.cell? ⟨b, off + i, none⟩ = some (.int .u8 (zs.getD i 0)))
    (k1 : -1073741824 ≤ c) (k2 : c ≤ 1073741824) (k3 : -1073741824 ≤ d) (k4 : d ≤ 1073741824) :
    Calls Try.prog 8 #[.int .i64 c, .bool l, .int .i64 d, .bool m, .slice (some ⟨b, off, none⟩) len cap] w fun e w' => e = .returned (.bool true) ∧ Below w.heap.size w w' := by
  have HC := Lib.hid hc
  clear hc
  have g2 : ¬ (1048576 : Int) < (len : Int) := by omega
  have g3 : ¬ c < -1073741824 := by omega
  have g4 : ¬ 1073741824 < c := by omega
  have g5 : ¬ d < -1073741824 := by omega
  have g6 : ¬ 1073741824 < d := by omega
  go_enter Try.func8, Try.ntmps8
  go_wp2_with (first | (go_at_call 36; fail) | (go_at_call 35; go_in))
  refine (has b off len cap zs w hm HC.out).mono ?_
  rintro e w1 ⟨t, hT, rfl, rfl⟩
  have HT := Lib.hid hT
  clear hT
  cases t with
  | false =>
    go_wp2
    go_ret
    exact ⟨rfl, Below.refl _ _⟩
  | true =>
    go_wp2_with (first | (go_at_call 37; refine (cp_pos b off len cap zs _ hl hm HC.out).mono ?_; rintro e w' ⟨rfl, rfl⟩) | (go_at_call 38; refine (newC _ _ _).mono ?_; rintro e w' ⟨rfl, rfl⟩))
    obtain ⟨i0, hi0, hz0⟩ := HT.out rfl
    have HF := Lib.hid (forget c d l m zs i0 hz0 len hi0)
    clear hz0 hi0 HT i0
    go_loopw [13] (fun i wr => ∃ k : Nat, k ≤ len ∧ i = .int .i64 k ∧ RowAt .u8 wr w.heap.size len zs ∧ Ctr wr (w.heap.size + 1) (cC c zs k) (cL l zs k) ∧ Ctr wr (w.heap.size + 1 + 1) (cC d zs k) (cL m zs k) ∧ Below w.heap.size w wr) (fun i _ => len - (intOf i).toNat)
    case atStart =>
      refine ⟨0, by omega, rfl, ?_, ?_, ?_, by go_grown⟩
      · intro i hi
        have h := RowAt.copy .u8 w 5 len zs i hi
        exact cell_later (w := w.alloc (.cells (cpL .u8 zs len len) 5)) (by go_grown) h
      · constructor <;> simp [go_sem, cC, cL]
      · constructor <;> simp [go_sem, cC, cL]
    case round =>
      obtain ⟨k, hk, rfl, hR, hA, hB, BW⟩ := hrel
      have HR := Lib.hid hR
      have HA := Lib.hid hA
      have HB := Lib.hid hB
      clear hR hA hB
      have bA := cC_bd c zs k1 k2 k
      have bB := cC_bd d zs k3 k4 k
      by_cases hkl : k < len
      · have e1 := HR.out k hkl
        go_wp2_with fail
        refine (zadd (w.heap.size + 1) (zs.getD k 0) (cC c zs k) (cL l zs k) wr HA.out.c1 HA.out.c2 HA.out.f1 HA.out.f2 (by omega) (by omega)).mono ?_
        rintro e w1 ⟨rfl, hU⟩
        have HU := Lib.hid hU
        clear hU e1
        have e1 := rowOther HR.out HU.out (by omega) k hkl
        have hB1 := HB.out.other HU.out (by omega)
        have HB1 := Lib.hid hB1
        clear hB1
        go_wp2_with fail
        refine (zadd (w.heap.size + 1 + 1) (zs.getD k 0) (cC d zs k) (cL m zs k) w1 HB1.out.c1 HB1.out.c2 HB1.out.f1 HB1.out.f2 (by omega) (by omega)).mono ?_
        rintro e w2 ⟨rfl, hV⟩
        have HV := Lib.hid hV
        clear hV e1
        go_wp2
        go_roundw
        case rel => exact ⟨k + 1, by omega, by go_num, rowOther (rowOther HR.out HU.out (by omega)) HV.out (by omega), HU.out.ctr.other HV.out (by omega), HV.out.ctr, Below.trans BW (Below.trans (Below.mono HU.out.below (by omega)) (Below.mono HV.out.below (by omega)))⟩
        case measure => simp [intOf]; omega
      · obtain rfl : k = len := by omega
        obtain ⟨F1, F2, F3, F4⟩ := HF.out
        have a1 := HA.out.c1
        have a2 := HA.out.c2
        have b1 := HB.out.c1
        have b2 := HB.out.c2
        rw [← F1] at b1
        rw [← F2] at b2
        clear HF F1 F2 HA HB HR bA bB
        generalize cC c zs k = x at *
        generalize cL l zs k = y at *
        go_wp2_with (first | (go_at_call 40; first | (refine (getC (w.heap.size + 1) x wr a1).mono ?_; rintro e w' ⟨rfl, rfl⟩) | (refine (getC (w.heap.size + 1 + 1) x wr b1).mono ?_; rintro e w' ⟨rfl, rfl⟩)) | (go_at_call 41; first | (refine (getL (w.heap.size + 1) y wr a2).mono ?_; rintro e w' ⟨rfl, rfl⟩) | (refine (getL (w.heap.size + 1 + 1) y wr b2).mono ?_; rintro e w' ⟨rfl, rfl⟩)))
        go_ret
        exact ⟨rfl, BW⟩

theorem early (c d : Int) (l m : Bool) (a : Option Addr) (len cap : Nat) (w : World) (hm : len ≤ maxLen)
    (h : 1048576 < len ∨ c < -1073741824 ∨ 1073741824 < c ∨ d < -1073741824 ∨ 1073741824 < d ∨ len = 0) :
    Calls Try.prog 8 #[.int .i64 c, .bool l, .int .i64 d, .bool m, .slice a len cap] w fun e w' => e = .returned (.bool true) ∧ Below w.heap.size w w' := by
  unfold maxLen at hm
  by_cases g1 : (1048576 : Int) < (len : Int)
  · clear h
    go_enter Try.func8, Try.ntmps8
    go_wp2
    go_ret
    exact ⟨rfl, Below.refl _ _⟩
  by_cases g3 : c < -1073741824
  · clear h
    go_enter Try.func8, Try.ntmps8
    go_wp2
    go_ret
    exact ⟨rfl, Below.refl _ _⟩
  by_cases g4 : 1073741824 < c
  · clear h
    go_enter Try.func8, Try.ntmps8
    go_wp2
    go_ret
    exact ⟨rfl, Below.refl _ _⟩
  by_cases g5 : d < -1073741824
  · clear h
    go_enter Try.func8, Try.ntmps8
    go_wp2
    go_ret
    exact ⟨rfl, Below.refl _ _⟩
  by_cases g6 : 1073741824 < d
  · clear h
    go_enter Try.func8, Try.ntmps8
    go_wp2
    go_ret
    exact ⟨rfl, Below.refl _ _⟩
  obtain rfl : len = 0 := by omega
  clear h
  go_enter Try.func8, Try.ntmps8
  go_wp2_with (first | (go_at_call 36; refine (hasNo _ _ _).mono ?_; rintro e w' ⟨rfl, rfl⟩) | (go_at_call 35; go_in))
  go_ret
  exact ⟨rfl, Below.refl _ _⟩

theorem law8 (c d : Int) (l m : Bool) (a : Option Addr) (len cap : Nat) (zs : List Int) (w : World) (h : IsRowB .u8 w a len cap zs) :
    Calls Try.prog 8 #[.int .i64 c, .bool l, .int .i64 d, .bool m, .slice a len cap] w fun e w' => e = .returned (.bool true) ∧ Below w.heap.size w w' := by
  by_cases hb : 1048576 < len ∨ c < -1073741824 ∨ 1073741824 < c ∨ d < -1073741824 ∨ 1073741824 < d ∨ len = 0
  · refine early c d l m a len cap w ?_ hb
    rcases h with ⟨rfl, rfl, rfl, rfl⟩ | ⟨x, rfl, hl, hm, hz, hcell, hwz⟩
    · unfold maxLen; omega
    · omega
  · rcases h with ⟨rfl, rfl, rfl, rfl⟩ | ⟨x, rfl, hl, hm, hz, hcell, hwz⟩
    · omega
    · obtain ⟨b, off, rfl, hc⟩ := row_at hcell (by omega)
      exact law_pos c d l m b off len cap zs w (by omega) (by omega) (fun i hi => hc i (by omega)) (by omega) (by omega) (by omega) (by omega)
end Go.Proofs.Ytccnpgmceoojmab.colf
