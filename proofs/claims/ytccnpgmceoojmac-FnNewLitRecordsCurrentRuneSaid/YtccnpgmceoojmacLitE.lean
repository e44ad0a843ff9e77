/-
  newLit records the current rune, for every buffer and every valid rune or sentinel.
-/
import Derived.Test.YtccnpgmceoojmacLitD
namespace Go.Proofs.Ytccnpgmceoojmac.lit
open Go.RowKit
open Go.Proofs.Ytccnpgmceoojmac
open Go.Proofs.Ytccnpgmceoojmac.red

set_option maxRecDepth 100000 in
theorem earlyR (a1 a2 : Option Addr) (n1 n2 k1 k2 : Nat) (r : Int) (w : World) (m1 : n1 ≤ 9223372036854775807) (m2 : n2 ≤ 9223372036854775807) (h : 65536 < n1 ∨ 65536 < n2) :
    Calls Try.prog 6 #[.slice a1 n1 k1, .slice a2 n2 k2, .int .i32 r] w fun e w' => e = .returned (.bool true) ∧ Below w.heap.size w w' := by
  by_cases g1 : 1048576 < (n1 : Int)
  · go_enter Try.func6, Try.ntmps6
    go_wp2
    go_ret
    exact ⟨rfl, Below.refl _ _⟩
  by_cases g2 : 1048576 < (n2 : Int)
  · go_enter Try.func6, Try.ntmps6
    go_wp2
    go_ret
    exact ⟨rfl, Below.refl _ _⟩
  by_cases g3 : 1048576 < (n1 : Int) + (n2 : Int)
  · go_enter Try.func6, Try.ntmps6
    go_wp2
    go_ret
    exact ⟨rfl, Below.refl _ _⟩
  by_cases g4 : 65536 < (n1 : Int)
  · clear h
    go_enter Try.func6, Try.ntmps6
    go_wp2
    go_ret
    exact ⟨rfl, Below.refl _ _⟩
  have g5 : 65536 < (n2 : Int) := by omega
  clear h
  go_enter Try.func6, Try.ntmps6
  go_wp2
  go_ret
  exact ⟨rfl, Below.refl _ _⟩
set_option maxRecDepth 100000 in
set_option maxHeartbeats 4000000 in
theorem mainRS (a1 a2 : Option Addr) (n1 n2 k1 k2 : Nat) (z1 z2 : List Int) (r : Int) (w : World) (m1 : n1 ≤ 65536) (m2 : n2 ≤ 65536) (R1 : IsRowB .u8 w a1 n1 k1 z1) (R2 : IsRowB .u8 w a2 n2 k2 z2) (hr : r = 1114112 ∨ r = 1114113) :
    Calls Try.prog 6 #[.slice a1 n1 k1, .slice a2 n2 k2, .int .i32 r] w fun e w' => e = .returned (.bool true) ∧ Below w.heap.size w w' := by
  have RR1 := Lib.hid R1
  have RR2 := Lib.hid R2
  clear R1 R2
  have g1 : ¬ (1048576 : Int) < (n1 : Int) := by omega
  have g2 : ¬ (1048576 : Int) < (n2 : Int) := by omega
  have g3 : ¬ (1048576 : Int) < (n1 : Int) + (n2 : Int) := by omega
  have g4 : ¬ (65536 : Int) < (n1 : Int) := by omega
  have g5 : ¬ (65536 : Int) < (n2 : Int) := by omega
  have hs : (decide (r = 1114112) || decide (r = 1114113)) = true := by rcases hr with rfl | rfl <;> rfl
  have HS := fun w' => sent r true w' hs
  have HR := Lib.hid hr
  clear hr hs
  go_enter Try.func6, Try.ntmps6
  go_wp2_with (first | (go_at_call 23; go_in) | (go_at_call 15; refine (HS _).mono ?_; rintro e w' ⟨rfl, rfl⟩) | (go_at_call 12; fail))
  refine (clone a1 n1 k1 z1 w m1 RR1.out).mono ?_
  rintro e w1 ⟨b1, c1, rfl, S1, B1⟩
  have RR3 := Lib.hid (isRowB_later RR2.out B1)
  have T1 := Lib.hid S1
  clear S1 RR1 RR2
  go_wp2_with (go_at_call 12; fail)
  refine (clone a2 n2 k2 z2 w1 m2 RR3.out).mono ?_
  rintro e w2 ⟨b2, c2, rfl, S2, hb⟩
  have T1' := Lib.hid (T1.out.later hb)
  have T2 := Lib.hid S2
  have B2 := below_next B1 hb
  clear S2 T1 B1 hb RR3
  have TX : Hid (Sl w2 none 0 []) := ⟨rfl, fun i hi => absurd hi (by omega)⟩
  obtain ⟨M, eM⟩ : ∃ M, n1 + 0 + n2 = M := ⟨_, rfl⟩
  have hM : n1 + 0 + n2 ≤ M ∧ M ≤ n1 + 0 + n2 ∧ M ≤ 131076 := by omega
  clear eM
  go_wp2_with (go_at_call 18; fail)
  refine (join b1 none b2 n1 0 n2 c1 0 c2 M (z1.take n1) ([] : List Int) (z2.take n2) w2 T1' TX T2 m1 (by omega) m2 ⟨hM.1, hM.2.1⟩).mono ?_
  rintro e w4 ⟨rfl, CJ, hb⟩
  have B4 := below_next B2 hb
  have U1 := Lib.hid (T1'.out.later hb)
  have UX := Lib.hid (TX.out.later hb)
  have U3 := Lib.hid (T2.out.later hb)
  have CJ' := Lib.hid CJ
  have hs4 := hb.size
  have hg4 : w2.heap.size < w4.heap.size ∨ True := Or.inr trivial
  clear hb B2 T1' TX T2 CJ hg4
  have y1 : IntKind.i64.wrap ((n1 : Int) + (0 : Int)) = (n1 : Int) + (0 : Int) := IntWalk.i64_in _ (by omega)
  have y2 : IntKind.u64.wrap ((n1 : Int) + (0 : Int)) = (n1 : Int) + (0 : Int) := IntWalk.u64_in _ (by omega)
  have y3 : IntKind.u64.wrap (n1 : Int) = (n1 : Int) := IntWalk.u64_in _ (by omega)
  go_wp2_with (go_at_call 19; fail)
  refine (par w2.heap.size (n1 + 0 + n2) M _ r 1 w4).mono ?_
  rintro e w5 ⟨rfl, PP, hb⟩
  have P6 : w.heap.size ≤ w4.heap.size := B4.size
  have B5 := below_next B4 hb
  have V1 := Lib.hid (U1.out.later hb)
  have VX := Lib.hid (UX.out.later hb)
  have V3 := Lib.hid (U3.out.later hb)
  have VJ := Lib.hid (CJ'.out.later hb)
  have s45 := hb.size
  clear hb B4
  clear y1 y2 y3
  have HN := zNew w4.heap.size 0 [] r 1 w5 (new0 w4.heap.size w2.heap.size (n1 + 0 + n2) M _ r 1 w5 PP HR.out)
  clear PP
  go_wp2_with (go_at_call 20; fail)
  refine HN.mono ?_
  rintro e w6 ⟨rfl, NL⟩
  clear HN
  have NN := Lib.hid NL
  have hn := fun (w' : World) => Lib.run_eql_slice_nil (P := Try.prog) w' 25 5 (some ⟨w4.heap.size, 1063, none⟩) 0 1024 0 0 Try.underlying25
  have X1 := Lib.hid (NL.sl rfl)
  have X2 := Lib.hid (NL.keep' VX.out UX.out (Nat.le_refl _))
  have X3 := Lib.hid (NL.keep' V1.out U1.out (Nat.le_refl _))
  have X4 := Lib.hid (NL.keep' V3.out U3.out (Nat.le_refl _))
  have lenJ : (z1.take n1 ++ ([] : List Int) ++ z2.take n2).length = n1 + 0 + n2 := by
    have h1 := V1.out.len
    have h2 := VX.out.len
    have h3 := V3.out.len
    simp only [List.length_append, h1, h2, h3]
  have X5 := Lib.hid (NL.keep' (Sl.ofCells lenJ VJ.out) (Sl.ofCells lenJ CJ'.out) (Nat.le_refl _))
  have LJ := Lib.hid lenJ
  have B6 := below_mix B5 NL.bel P6
  have HL := zLit w4.heap.size _ _ _ w6 NL.lit
  clear NL V1 VX V3 VJ U1 UX U3 CJ' lenJ B5
  go_wp2_with (first | (go_at_call 22; refine HL.mono ?_; rintro e w' ⟨rfl, rfl⟩) | (go_at_call 24; fail))
  clear hn HL
  refine (equal _ _ 0 _ _ ([] : List Int) w6 X1 X2 (by omega)).mono ?_
  rintro e w7 ⟨rfl, hb⟩
  have Y2 := Lib.hid (X2.out.later hb)
  have Y3 := Lib.hid (X3.out.later hb)
  have Y4 := Lib.hid (X4.out.later hb)
  have Y5 := Lib.hid (X5.out.later hb)
  have B7 := below_next B6 hb
  clear hb X1 X2 X3 X4 X5 B6
  go_wp2_with (go_at_call 18; fail)
  refine (join b1 none b2 n1 0 n2 c1 0 c2 M (z1.take n1) ([] : List Int) (z2.take n2) w7 Y3 Y2 Y4 m1 (by omega) m2 ⟨hM.1, hM.2.1⟩).mono ?_
  rintro e w8 ⟨rfl, CK, hb⟩
  have Z5 := Lib.hid (Y5.out.later hb)
  have B8 := below_next B7 hb
  have Z6 := Lib.hid (Sl.ofCells LJ.out CK)
  clear hb CK Y2 Y3 Y4 Y5 B7
  go_wp2_with (go_at_call 24; fail)
  refine (equal _ _ (n1 + 0 + n2) _ _ _ w8 Z5 Z6 (by omega)).mono ?_
  rintro e w9 ⟨rfl, hb⟩
  have B9 := below_next B8 hb
  clear hb B8 Z5 Z6
  go_wp2
  go_ret
  exact ⟨rfl, B9⟩
set_option maxRecDepth 100000 in
set_option maxHeartbeats 4000000 in
theorem mainRV (a1 a2 : Option Addr) (n1 n2 k1 k2 : Nat) (z1 z2 : List Int) (r : Int) (w : World) (m1 : n1 ≤ 65536) (m2 : n2 ≤ 65536) (R1 : IsRowB .u8 w a1 n1 k1 z1) (R2 : IsRowB .u8 w a2 n2 k2 z2) (hv : valB r = true) :
    Calls Try.prog 6 #[.slice a1 n1 k1, .slice a2 n2 k2, .int .i32 r] w fun e w' => e = .returned (.bool true) ∧ Below w.heap.size w w' := by
  have RR1 := Lib.hid R1
  have RR2 := Lib.hid R2
  clear R1 R2
  have g1 : ¬ (1048576 : Int) < (n1 : Int) := by omega
  have g2 : ¬ (1048576 : Int) < (n2 : Int) := by omega
  have g3 : ¬ (1048576 : Int) < (n1 : Int) + (n2 : Int) := by omega
  have g4 : ¬ (65536 : Int) < (n1 : Int) := by omega
  have g5 : ¬ (65536 : Int) < (n2 : Int) := by omega
  have hvv : 0 ≤ r ∧ r ≤ 1114111 := by simp [valB] at hv; omega
  have hs : ¬ (r = 1114112 ∨ r = 1114113) := by omega
  have hs' : (decide (r = 1114112) || decide (r = 1114113)) = false := by simp; omega
  have HS := fun w' => sent r false w' hs'
  have HV := fun w' => valid r w'
  rw [hv] at HV
  have HH := Lib.hid hv
  clear hs hs' hv
  clear hvv
  go_enter Try.func6, Try.ntmps6
  go_wp2_with (first | (go_at_call 23; go_in) | (go_at_call 15; refine (HS _).mono ?_; rintro e w' ⟨rfl, rfl⟩) | (go_at_call 16; refine (HV _).mono ?_; rintro e w' ⟨rfl, rfl⟩) | (go_at_call 12; fail))
  refine (clone a1 n1 k1 z1 w m1 RR1.out).mono ?_
  rintro e w1 ⟨b1, c1, rfl, S1, B1⟩
  have RR3 := Lib.hid (isRowB_later RR2.out B1)
  have T1 := Lib.hid S1
  clear S1 RR1 RR2
  go_wp2_with (go_at_call 12; fail)
  refine (clone a2 n2 k2 z2 w1 m2 RR3.out).mono ?_
  rintro e w2 ⟨b2, c2, rfl, S2, hb⟩
  have T1' := Lib.hid (T1.out.later hb)
  have T2 := Lib.hid S2
  have B2 := below_next B1 hb
  clear S2 T1 B1 hb RR3
  go_wp2_with (go_at_call 17; fail)
  refine (encode r w2 HH.out).mono ?_
  rintro e w3 ⟨xs, rfl, hx, CX, hx1, hb⟩
  have B3 := below_next B2 hb
  have T1 := Lib.hid (T1'.out.later hb)
  have T3 := Lib.hid (T2.out.later hb)
  have TX := Lib.hid (Sl.ofCells hx CX)
  have HX := Lib.hid hx
  have HX1 := Lib.hid hx1
  have HK4 : rlen r ≤ 4 := by unfold rlen; split <;> (try split) <;> (try split) <;> omega
  clear hb B2 T1' T2 hx hx1 CX
  obtain ⟨K, ek⟩ : ∃ K, rlen r = K := ⟨_, rfl⟩
  rw [ek] at HK4 TX HX ⊢
  have EK := Lib.hid ek
  clear ek
  obtain ⟨M, eM⟩ : ∃ M, n1 + K + n2 = M := ⟨_, rfl⟩
  have hM : n1 + K + n2 ≤ M ∧ M ≤ n1 + K + n2 ∧ M ≤ 131076 := by omega
  clear eM
  go_wp2_with (go_at_call 18; fail)
  refine (join b1 (some ⟨w2.heap.size, 0, none⟩) b2 n1 K n2 c1 K c2 M (z1.take n1) xs (z2.take n2) w3 T1 TX T3 m1 (by omega) m2 ⟨hM.1, hM.2.1⟩).mono ?_
  rintro e w4 ⟨rfl, CJ, hb⟩
  have B4 := below_next B3 hb
  have U1 := Lib.hid (T1.out.later hb)
  have UX := Lib.hid (TX.out.later hb)
  have U3 := Lib.hid (T3.out.later hb)
  have CJ' := Lib.hid CJ
  have hs4 := hb.size
  have hg4 : w3.heap.size < w4.heap.size ∨ True := Or.inr trivial
  clear hb B3 T1 TX T3 CJ hg4
  have y1 : IntKind.i64.wrap ((n1 : Int) + (K : Int)) = (n1 : Int) + (K : Int) := IntWalk.i64_in _ (by omega)
  have y2 : IntKind.u64.wrap ((n1 : Int) + (K : Int)) = (n1 : Int) + (K : Int) := IntWalk.u64_in _ (by omega)
  have y3 : IntKind.u64.wrap (n1 : Int) = (n1 : Int) := IntWalk.u64_in _ (by omega)
  go_wp2_with (go_at_call 19; fail)
  refine (par w3.heap.size (n1 + K + n2) M _ r (K : Int) w4).mono ?_
  rintro e w5 ⟨rfl, PP, hb⟩
  have P6 : w.heap.size ≤ w4.heap.size := B4.size
  have B5 := below_next B4 hb
  have V1 := Lib.hid (U1.out.later hb)
  have VX := Lib.hid (UX.out.later hb)
  have V3 := Lib.hid (U3.out.later hb)
  have VJ := Lib.hid (CJ'.out.later hb)
  have s45 := hb.size
  clear hb B4
  clear y1 y2 y3
  have lg : 0 < (z1.take n1 ++ xs ++ z2.take n2).length := by
    have := HX.out
    have : 0 < K := by rw [← EK.out]; unfold rlen; split <;> (try split) <;> (try split) <;> omega
    simp
    omega
  have hgP : w3.heap.size ≠ w4.heap.size := by have := lt_of_cell (CJ'.out 0 lg); omega
  have HN := zNew w4.heap.size K xs r K w5 (newLit w4.heap.size w3.heap.size (n1 + K + n2) M n1 K xs _ r w5 PP HH.out EK.out HX.out HX1.out (by omega) (by omega) (by omega) (by omega) hgP (fun i hi => cellsMid (z1.take n1) xs (z2.take n2) VJ.out n1 V1.out.len i (by rw [HX.out]; exact hi)))
  clear lg
  clear PP
  go_wp2_with (go_at_call 20; fail)
  refine HN.mono ?_
  rintro e w6 ⟨rfl, NL⟩
  clear HN
  have NN := Lib.hid NL
  have hn := fun (w' : World) => Lib.run_eql_slice_nil (P := Try.prog) w' 25 5 (some ⟨w4.heap.size, 1063, none⟩) K 1024 0 0 Try.underlying25
  have X1 := Lib.hid (NL.sl HX.out)
  have X2 := Lib.hid (NL.keep' VX.out UX.out (Nat.le_refl _))
  have X3 := Lib.hid (NL.keep' V1.out U1.out (Nat.le_refl _))
  have X4 := Lib.hid (NL.keep' V3.out U3.out (Nat.le_refl _))
  have lenJ : (z1.take n1 ++ xs ++ z2.take n2).length = n1 + K + n2 := by
    have h1 := V1.out.len
    have h2 := VX.out.len
    have h3 := V3.out.len
    simp only [List.length_append, h1, h2, h3]
  have X5 := Lib.hid (NL.keep' (Sl.ofCells lenJ VJ.out) (Sl.ofCells lenJ CJ'.out) (Nat.le_refl _))
  have LJ := Lib.hid lenJ
  have B6 := below_mix B5 NL.bel P6
  have HL := zLit w4.heap.size _ _ _ w6 NL.lit
  clear NL V1 VX V3 VJ U1 UX U3 CJ' lenJ B5
  go_wp2_with (first | (go_at_call 22; refine HL.mono ?_; rintro e w' ⟨rfl, rfl⟩) | (go_at_call 24; fail))
  clear hn HL
  refine (equal _ _ K _ _ xs w6 X1 X2 (by omega)).mono ?_
  rintro e w7 ⟨rfl, hb⟩
  have Y2 := Lib.hid (X2.out.later hb)
  have Y3 := Lib.hid (X3.out.later hb)
  have Y4 := Lib.hid (X4.out.later hb)
  have Y5 := Lib.hid (X5.out.later hb)
  have B7 := below_next B6 hb
  clear hb X1 X2 X3 X4 X5 B6
  go_wp2_with (go_at_call 18; fail)
  refine (join b1 (some ⟨w2.heap.size, 0, none⟩) b2 n1 K n2 c1 K c2 M (z1.take n1) xs (z2.take n2) w7 Y3 Y2 Y4 m1 (by omega) m2 ⟨hM.1, hM.2.1⟩).mono ?_
  rintro e w8 ⟨rfl, CK, hb⟩
  have Z5 := Lib.hid (Y5.out.later hb)
  have B8 := below_next B7 hb
  have Z6 := Lib.hid (Sl.ofCells LJ.out CK)
  clear hb CK Y2 Y3 Y4 Y5 B7
  go_wp2_with (go_at_call 24; fail)
  refine (equal _ _ (n1 + K + n2) _ _ _ w8 Z5 Z6 (by omega)).mono ?_
  rintro e w9 ⟨rfl, hb⟩
  have B9 := below_next B8 hb
  clear hb B8 Z5 Z6
  go_wp2
  go_ret
  exact ⟨rfl, B9⟩
set_option maxRecDepth 100000 in
set_option maxHeartbeats 4000000 in
theorem mainRN (a1 a2 : Option Addr) (n1 n2 k1 k2 : Nat) (z1 z2 : List Int) (r : Int) (w : World) (m1 : n1 ≤ 65536) (m2 : n2 ≤ 65536) (R1 : IsRowB .u8 w a1 n1 k1 z1) (R2 : IsRowB .u8 w a2 n2 k2 z2) (hs : ¬ (r = 1114112 ∨ r = 1114113)) (hv : valB r = false) :
    Calls Try.prog 6 #[.slice a1 n1 k1, .slice a2 n2 k2, .int .i32 r] w fun e w' => e = .returned (.bool true) ∧ Below w.heap.size w w' := by
  have RR1 := Lib.hid R1
  have RR2 := Lib.hid R2
  clear R1 R2
  have g1 : ¬ (1048576 : Int) < (n1 : Int) := by omega
  have g2 : ¬ (1048576 : Int) < (n2 : Int) := by omega
  have g3 : ¬ (1048576 : Int) < (n1 : Int) + (n2 : Int) := by omega
  have g4 : ¬ (65536 : Int) < (n1 : Int) := by omega
  have g5 : ¬ (65536 : Int) < (n2 : Int) := by omega
  have hs' : (decide (r = 1114112) || decide (r = 1114113)) = false := by simp; omega
  have HS := fun w' => sent r false w' hs'
  have HV := fun w' => valid r w'
  rw [hv] at HV
  have HH := Lib.hid hv
  clear hs hs' hv
  go_enter Try.func6, Try.ntmps6
  go_wp2_with (first | (go_at_call 23; go_in) | (go_at_call 15; refine (HS _).mono ?_; rintro e w' ⟨rfl, rfl⟩) | (go_at_call 16; refine (HV _).mono ?_; rintro e w' ⟨rfl, rfl⟩) | (go_at_call 12; fail))
  go_ret
  exact ⟨rfl, Below.refl _ _⟩
theorem lawR (a1 a2 : Option Addr) (n1 n2 k1 k2 : Nat) (z1 z2 : List Int) (r : Int) (w : World) (R1 : IsRowB .u8 w a1 n1 k1 z1) (R2 : IsRowB .u8 w a2 n2 k2 z2) :
    Calls Try.prog 6 #[.slice a1 n1 k1, .slice a2 n2 k2, .int .i32 r] w fun e w' => e = .returned (.bool true) ∧ Below w.heap.size w w' := by
  have bd : ∀ (a : Option Addr) (n k : Nat) (z : List Int), IsRowB .u8 w a n k z → n ≤ 9223372036854775807 := by
    intro a n k z h
    rcases h with ⟨rfl, rfl, rfl, rfl⟩ | ⟨x, rfl, hl, hm, hz, hcell, hwz⟩
    · omega
    · unfold maxLen at hm; omega
  by_cases h : 65536 < n1 ∨ 65536 < n2
  · exact earlyR a1 a2 n1 n2 k1 k2 r w (bd _ _ _ _ R1) (bd _ _ _ _ R2) h
  by_cases hs : r = 1114112 ∨ r = 1114113
  · exact mainRS a1 a2 n1 n2 k1 k2 z1 z2 r w (by omega) (by omega) R1 R2 hs
  · cases hv : valB r
    · exact mainRN a1 a2 n1 n2 k1 k2 z1 z2 r w (by omega) (by omega) R1 R2 hs hv
    · exact mainRV a1 a2 n1 n2 k1 k2 z1 z2 r w (by omega) (by omega) R1 R2 hv
end Go.Proofs.Ytccnpgmceoojmac.lit
