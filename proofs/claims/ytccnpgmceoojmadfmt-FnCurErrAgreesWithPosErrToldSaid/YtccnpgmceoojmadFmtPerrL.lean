/-
  IsIncomplete of the parser's own error: for every token state, count of open nodes and pending bytes.
-/
import Derived.Test.YtccnpgmceoojmadFmtPerrE
import Derived.Test.YtccnpgmceoojmadFmtPerrF
import Derived.Test.YtccnpgmceoojmadFmtPerrN
namespace Go.Proofs.YtccnpgmceoojmadFmt.perr
open Go.RowKit
open Go.Proofs.YtccnpgmceoojmadFmt

def incB (tok on : Int) (ln : Nat) : Bool := decide (tok = 1) && (decide (0 < on) || decide (0 < ln))
theorem zpos1B (p fb : Nat) (name : ByteArray) (ba : Option Addr) (bn bc : Nat) (bsp r wd : Int) (tok po pl on : Int) (la : Option Addr) (ln lc : Nat) (o l : Int) (f : ByteArray) (w : World) (h : Pst w p fb name ba bn bc bsp r wd .nilIface tok po pl on la ln lc) (hn : bn ≤ 1048576) (hne : fb ≠ p) :
    Calls Tryf.prog 12 #[.pointer (some ⟨p, 0, none⟩), .agg #[.int .u32 o, .int .u32 l], .string f] w fun e w' => e = .returned (.tuple #[]) ∧ Erd p fb name ba bn bc o l (incB tok on ln) po pl on la ln lc w w' :=
  zpos1 p fb name ba bn bc bsp r wd tok po pl on la ln lc o l f w h hn hne
theorem bytes36 (x y z k : Int) (a : Option Addr) (ln cap : Nat) (f1 f2 : ByteArray) (w : World) (hs : (ln : Int) + (f1.size : Int) + (f2.size : Int) ≤ 1048576) :
    Calls Tryf.prog 5 #[.int .u32 x, .int .u32 y, .int .u32 z, .int .i64 k, .slice a ln cap, .string f1, .string f2] w fun e w' => e = .returned (.bool true) ∧ w = w' := by
  have h1 : ¬ (1048576 : Int) < (ln : Int) := by omega
  have h2 : ¬ (1048576 : Int) < (f1.size : Int) := by omega
  have h3 : ¬ (1048576 : Int) < (f2.size : Int) := by omega
  have h4 : ¬ (1048576 : Int) < (ln : Int) + (f1.size : Int) := by omega
  have h5 : ¬ (1048576 : Int) < (ln : Int) + (f1.size : Int) + (f2.size : Int) := by omega
  go_enter Tryf.func5, Tryf.ntmps5
  go_wp2
  go_ret
  exact ⟨rfl, rfl⟩
set_option maxRecDepth 100000 in
set_option maxHeartbeats 400000 in
theorem early36 (tok o l on : Int) (a : Option Addr) (ln cap : Nat) (f1 f2 : ByteArray) (w : World) (hs : (1048576 : Int) < (ln : Int) + (f1.size : Int) + (f2.size : Int)) (hm : ln ≤ maxLen) (hm1 : f1.size ≤ maxLen) (hm2 : f2.size ≤ maxLen) :
    Calls Tryf.prog 3 #[.int .u32 tok, .int .u32 o, .int .u32 l, .int .i64 on, .slice a ln cap, .string f1, .string f2] w fun e w' => e = .returned (.bool true) ∧ Below w.heap.size w w' := by
  unfold maxLen at hm hm1 hm2
  go_enter Tryf.func3, Tryf.ntmps3
  go_wp2_with (go_at_call 5; go_in)
  all_goals
    go_ret
    exact ⟨rfl, Below.refl _ _⟩
set_option maxRecDepth 100000 in
set_option maxHeartbeats 400000 in
theorem tok36 (tok o l on : Int) (a : Option Addr) (ln cap : Nat) (f1 f2 : ByteArray) (w : World) (hs : (ln : Int) + (f1.size : Int) + (f2.size : Int) ≤ 1048576) (ht : 143 < tok) :
    Calls Tryf.prog 3 #[.int .u32 tok, .int .u32 o, .int .u32 l, .int .i64 on, .slice a ln cap, .string f1, .string f2] w fun e w' => e = .returned (.bool true) ∧ Below w.heap.size w w' := by
  have h1 : ¬ (1048576 : Int) < (ln : Int) + (f1.size : Int) + (f2.size : Int) := by omega
  go_enter Tryf.func3, Tryf.ntmps3
  go_wp2_with (first | (go_at_call 5; refine (bytes36 _ _ _ _ _ _ _ _ _ _ hs).mono ?_; rintro e w' ⟨rfl, rfl⟩) | (go_at_call 6; go_in))
  go_ret
  exact ⟨rfl, Below.refl _ _⟩
set_option maxRecDepth 100000 in
set_option maxHeartbeats 400000 in
theorem main36a (tok o l on : Int) (a : Option Addr) (ln cap : Nat) (zs : List Int) (f1 f2 : ByteArray) (w : World) (h : IsRowB .u8 w a ln cap zs) (hs : (ln : Int) + (f1.size : Int) + (f2.size : Int) ≤ 1048576) (ht : tok ≤ 143) (hk : ¬ tok = 1) :
    Calls Tryf.prog 3 #[.int .u32 tok, .int .u32 o, .int .u32 l, .int .i64 on, .slice a ln cap, .string f1, .string f2] w fun e w' => e = .returned (.bool true) ∧ Below w.heap.size w w' := by
  have h1 : ¬ (1048576 : Int) < (ln : Int) + (f1.size : Int) + (f2.size : Int) := by omega
  have h2 : ¬ 143 < tok := by omega
  have HL : ln ≤ 1048576 := by omega
  have HR := Lib.hid h
  have HI := Lib.hid (show incB tok on ln = false from by simp [incB, hk])
  clear h
  have g1 : (tok == 1) = false := by simp [hk]
  clear hk
  go_enter Tryf.func3, Tryf.ntmps3
  go_wp2_with (first | (go_at_call 5; refine (bytes36 _ _ _ _ _ _ _ _ _ _ hs).mono ?_; rintro e w' ⟨rfl, rfl⟩) | (go_at_call 6; go_in))
  refine (cpAny a ln cap zs w HL HR.out).mono ?_
  rintro e w1 ⟨a', c', rfl, B1⟩
  go_wp2_with (go_at_call 8; refine (mkPos _ _ _).mono ?_; rintro e w' ⟨rfl, rfl⟩)
  refine calls_world (fun W => W.cell? ⟨w1.heap.size + 1, 0, none⟩ = some (.int .u32 o) ∧ W.cell? ⟨w1.heap.size + 1, 1, none⟩ = some (.int .u32 l) ∧ Below w.heap.size w W) ⟨by simp [go_sem], by simp [go_sem], below_next B1 (by go_grown)⟩ ?_
  rintro W ⟨s0, s1, BW⟩
  have hlt := lt_of_cell s0
  refine (newP _ _ o l on a' ln c' none 0 0 W).mono ?_
  rintro e w3 ⟨rfl, hP, hb3⟩
  have HP := Lib.hid hP
  have s0 := cell_later hb3 s0
  have s1 := cell_later hb3 s1
  have B3 := below_next BW hb3
  have hz3 : W.heap.size + 1 + 1 < w3.heap.size := lt_of_cell hP.x1
  have hsz := BW.size
  clear hP hb3 BW B1
  go_wp2_with fail
  refine (errInc0 _ w3 HP.out.x7).mono ?_
  rintro e w4 ⟨rfl, hb4⟩
  have HP4 := Lib.hid (HP.out.later hb4)
  have s0 := cell_later hb4 s0
  have s1 := cell_later hb4 s1
  have B4 := below_next B3 hb4
  have hz4 := hb4.size
  clear hb4 HP B3
  go_wp2_with (go_at_call 11; go_in)
  refine (zpos1B _ _ _ _ _ _ _ _ _ _ o l on a' ln c' o l f1 w4 HP4.out (by omega) (by omega)).mono ?_
  rintro e w5 ⟨rfl, hE⟩
  rw [HI.out] at hE
  obtain ⟨s, hP5, hR5⟩ := hE
  have HP5 := Lib.hid hP5
  have s0 := hR5.oth _ _ _ (by omega) s0
  have s1 := hR5.oth _ _ _ (by omega) s1
  have B5 : Below w.heap.size w w5 := Below.trans B4 (Below.mono hR5.bel (by omega))
  have hz5 := hR5.sz
  clear hP5 hR5 HP4 B4
  go_wp2_with fail
  refine (errInc1 _ _ s o l false w5 HP5.out.x7).mono ?_
  rintro e w6 ⟨rfl, hb6⟩
  have HP6 := Lib.hid (HP5.out.later hb6)
  have s0 := cell_later hb6 s0
  have s1 := cell_later hb6 s1
  have B6 := below_next B5 hb6
  clear hb6 HP5 B5
  go_wp2_with fail
  refine (zpos2 _ _ _ _ _ _ _ _ _ o l on a' ln c' _ o l f2 w6 HP6.out (by omega)).mono ?_
  rintro e w7 ⟨rfl, hb7⟩
  have HP7 := Lib.hid (HP6.out.later hb7)
  have B7 := below_next B6 hb7
  clear hb7 HP6 B6 s0 s1
  go_wp2_with fail
  refine (errInc1 _ _ s o l false w7 HP7.out.x7).mono ?_
  rintro e w8 ⟨rfl, hb8⟩
  have B8 := below_next B7 hb8
  clear hb8 HP7 B7
  go_wp2
  go_ret
  exact ⟨rfl, B8⟩
set_option maxRecDepth 100000 in
set_option maxHeartbeats 400000 in
theorem main36b (tok o l on : Int) (a : Option Addr) (ln cap : Nat) (zs : List Int) (f1 f2 : ByteArray) (w : World) (h : IsRowB .u8 w a ln cap zs) (hs : (ln : Int) + (f1.size : Int) + (f2.size : Int) ≤ 1048576) (ht : tok ≤ 143) (hk : tok = 1) (ho : 0 < on) :
    Calls Tryf.prog 3 #[.int .u32 tok, .int .u32 o, .int .u32 l, .int .i64 on, .slice a ln cap, .string f1, .string f2] w fun e w' => e = .returned (.bool true) ∧ Below w.heap.size w w' := by
  have h1 : ¬ (1048576 : Int) < (ln : Int) + (f1.size : Int) + (f2.size : Int) := by omega
  have h2 : ¬ 143 < tok := by omega
  have HL : ln ≤ 1048576 := by omega
  have HR := Lib.hid h
  have HI := Lib.hid (show incB tok on ln = true from by simp [incB, hk, ho])
  clear h
  subst hk
  go_enter Tryf.func3, Tryf.ntmps3
  go_wp2_with (first | (go_at_call 5; refine (bytes36 _ _ _ _ _ _ _ _ _ _ hs).mono ?_; rintro e w' ⟨rfl, rfl⟩) | (go_at_call 6; go_in))
  refine (cpAny a ln cap zs w HL HR.out).mono ?_
  rintro e w1 ⟨a', c', rfl, B1⟩
  go_wp2_with (go_at_call 8; refine (mkPos _ _ _).mono ?_; rintro e w' ⟨rfl, rfl⟩)
  refine calls_world (fun W => W.cell? ⟨w1.heap.size + 1, 0, none⟩ = some (.int .u32 o) ∧ W.cell? ⟨w1.heap.size + 1, 1, none⟩ = some (.int .u32 l) ∧ Below w.heap.size w W) ⟨by simp [go_sem], by simp [go_sem], below_next B1 (by go_grown)⟩ ?_
  rintro W ⟨s0, s1, BW⟩
  have hlt := lt_of_cell s0
  refine (newP _ _ o l on a' ln c' none 0 0 W).mono ?_
  rintro e w3 ⟨rfl, hP, hb3⟩
  have HP := Lib.hid hP
  have s0 := cell_later hb3 s0
  have s1 := cell_later hb3 s1
  have B3 := below_next BW hb3
  have hz3 : W.heap.size + 1 + 1 < w3.heap.size := lt_of_cell hP.x1
  have hsz := BW.size
  clear hP hb3 BW B1
  go_wp2_with fail
  refine (errInc0 _ w3 HP.out.x7).mono ?_
  rintro e w4 ⟨rfl, hb4⟩
  have HP4 := Lib.hid (HP.out.later hb4)
  have s0 := cell_later hb4 s0
  have s1 := cell_later hb4 s1
  have B4 := below_next B3 hb4
  have hz4 := hb4.size
  clear hb4 HP B3
  go_wp2_with (go_at_call 11; go_in)
  refine (zpos1B _ _ _ _ _ _ _ _ _ _ o l on a' ln c' o l f1 w4 HP4.out (by omega) (by omega)).mono ?_
  rintro e w5 ⟨rfl, hE⟩
  rw [HI.out] at hE
  obtain ⟨s, hP5, hR5⟩ := hE
  have HP5 := Lib.hid hP5
  have s0 := hR5.oth _ _ _ (by omega) s0
  have s1 := hR5.oth _ _ _ (by omega) s1
  have B5 : Below w.heap.size w w5 := Below.trans B4 (Below.mono hR5.bel (by omega))
  have hz5 := hR5.sz
  clear hP5 hR5 HP4 B4
  go_wp2_with fail
  refine (errInc1 _ _ s o l true w5 HP5.out.x7).mono ?_
  rintro e w6 ⟨rfl, hb6⟩
  have HP6 := Lib.hid (HP5.out.later hb6)
  have s0 := cell_later hb6 s0
  have s1 := cell_later hb6 s1
  have B6 := below_next B5 hb6
  clear hb6 HP5 B5
  go_wp2_with fail
  refine (zpos2 _ _ _ _ _ _ _ _ _ o l on a' ln c' _ o l f2 w6 HP6.out (by omega)).mono ?_
  rintro e w7 ⟨rfl, hb7⟩
  have HP7 := Lib.hid (HP6.out.later hb7)
  have B7 := below_next B6 hb7
  clear hb7 HP6 B6 s0 s1
  go_wp2_with fail
  refine (errInc1 _ _ s o l true w7 HP7.out.x7).mono ?_
  rintro e w8 ⟨rfl, hb8⟩
  have B8 := below_next B7 hb8
  clear hb8 HP7 B7
  go_wp2
  go_ret
  exact ⟨rfl, B8⟩
set_option maxRecDepth 100000 in
set_option maxHeartbeats 400000 in
theorem main36c (tok o l on : Int) (a : Option Addr) (ln cap : Nat) (zs : List Int) (f1 f2 : ByteArray) (w : World) (h : IsRowB .u8 w a ln cap zs) (hs : (ln : Int) + (f1.size : Int) + (f2.size : Int) ≤ 1048576) (ht : tok ≤ 143) (hk : tok = 1) (ho : ¬ 0 < on) (hl : 0 < ln) :
    Calls Tryf.prog 3 #[.int .u32 tok, .int .u32 o, .int .u32 l, .int .i64 on, .slice a ln cap, .string f1, .string f2] w fun e w' => e = .returned (.bool true) ∧ Below w.heap.size w w' := by
  have h1 : ¬ (1048576 : Int) < (ln : Int) + (f1.size : Int) + (f2.size : Int) := by omega
  have h2 : ¬ 143 < tok := by omega
  have HL : ln ≤ 1048576 := by omega
  have HR := Lib.hid h
  have HI := Lib.hid (show incB tok on ln = true from by simp [incB, hk, hl])
  clear h
  subst hk
  have g2 : decide (0 < on) = false := decide_eq_false ho
  have g3 : (0 : Int) < (ln : Int) := by omega
  go_enter Tryf.func3, Tryf.ntmps3
  go_wp2_with (first | (go_at_call 5; refine (bytes36 _ _ _ _ _ _ _ _ _ _ hs).mono ?_; rintro e w' ⟨rfl, rfl⟩) | (go_at_call 6; go_in))
  refine (cpAny a ln cap zs w HL HR.out).mono ?_
  rintro e w1 ⟨a', c', rfl, B1⟩
  go_wp2_with (go_at_call 8; refine (mkPos _ _ _).mono ?_; rintro e w' ⟨rfl, rfl⟩)
  refine calls_world (fun W => W.cell? ⟨w1.heap.size + 1, 0, none⟩ = some (.int .u32 o) ∧ W.cell? ⟨w1.heap.size + 1, 1, none⟩ = some (.int .u32 l) ∧ Below w.heap.size w W) ⟨by simp [go_sem], by simp [go_sem], below_next B1 (by go_grown)⟩ ?_
  rintro W ⟨s0, s1, BW⟩
  have hlt := lt_of_cell s0
  refine (newP _ _ o l on a' ln c' none 0 0 W).mono ?_
  rintro e w3 ⟨rfl, hP, hb3⟩
  have HP := Lib.hid hP
  have s0 := cell_later hb3 s0
  have s1 := cell_later hb3 s1
  have B3 := below_next BW hb3
  have hz3 : W.heap.size + 1 + 1 < w3.heap.size := lt_of_cell hP.x1
  have hsz := BW.size
  clear hP hb3 BW B1
  go_wp2_with fail
  refine (errInc0 _ w3 HP.out.x7).mono ?_
  rintro e w4 ⟨rfl, hb4⟩
  have HP4 := Lib.hid (HP.out.later hb4)
  have s0 := cell_later hb4 s0
  have s1 := cell_later hb4 s1
  have B4 := below_next B3 hb4
  have hz4 := hb4.size
  clear hb4 HP B3
  go_wp2_with (go_at_call 11; go_in)
  refine (zpos1B _ _ _ _ _ _ _ _ _ _ o l on a' ln c' o l f1 w4 HP4.out (by omega) (by omega)).mono ?_
  rintro e w5 ⟨rfl, hE⟩
  rw [HI.out] at hE
  obtain ⟨s, hP5, hR5⟩ := hE
  have HP5 := Lib.hid hP5
  have s0 := hR5.oth _ _ _ (by omega) s0
  have s1 := hR5.oth _ _ _ (by omega) s1
  have B5 : Below w.heap.size w w5 := Below.trans B4 (Below.mono hR5.bel (by omega))
  have hz5 := hR5.sz
  clear hP5 hR5 HP4 B4
  go_wp2_with fail
  refine (errInc1 _ _ s o l true w5 HP5.out.x7).mono ?_
  rintro e w6 ⟨rfl, hb6⟩
  have HP6 := Lib.hid (HP5.out.later hb6)
  have s0 := cell_later hb6 s0
  have s1 := cell_later hb6 s1
  have B6 := below_next B5 hb6
  clear hb6 HP5 B5
  go_wp2_with fail
  refine (zpos2 _ _ _ _ _ _ _ _ _ o l on a' ln c' _ o l f2 w6 HP6.out (by omega)).mono ?_
  rintro e w7 ⟨rfl, hb7⟩
  have HP7 := Lib.hid (HP6.out.later hb7)
  have B7 := below_next B6 hb7
  clear hb7 HP6 B6 s0 s1
  go_wp2_with fail
  refine (errInc1 _ _ s o l true w7 HP7.out.x7).mono ?_
  rintro e w8 ⟨rfl, hb8⟩
  have B8 := below_next B7 hb8
  clear hb8 HP7 B7
  go_wp2
  go_ret
  exact ⟨rfl, B8⟩
set_option maxRecDepth 100000 in
set_option maxHeartbeats 400000 in
theorem main36d (tok o l on : Int) (a : Option Addr) (ln cap : Nat) (zs : List Int) (f1 f2 : ByteArray) (w : World) (h : IsRowB .u8 w a ln cap zs) (hs : (ln : Int) + (f1.size : Int) + (f2.size : Int) ≤ 1048576) (ht : tok ≤ 143) (hk : tok = 1) (ho : ¬ 0 < on) (hl : ¬ 0 < ln) :
    Calls Tryf.prog 3 #[.int .u32 tok, .int .u32 o, .int .u32 l, .int .i64 on, .slice a ln cap, .string f1, .string f2] w fun e w' => e = .returned (.bool true) ∧ Below w.heap.size w w' := by
  have h1 : ¬ (1048576 : Int) < (ln : Int) + (f1.size : Int) + (f2.size : Int) := by omega
  have h2 : ¬ 143 < tok := by omega
  have HL : ln ≤ 1048576 := by omega
  have HR := Lib.hid h
  have HI := Lib.hid (show incB tok on ln = false from by simp [incB, hk, ho, hl])
  clear h
  subst hk
  have g2 : decide (0 < on) = false := decide_eq_false ho
  have g3 : ¬ (0 : Int) < (ln : Int) := by omega
  have g4 : decide ((0 : Int) < (ln : Int)) = false := decide_eq_false g3
  have g5 : decide (0 < ln) = false := decide_eq_false hl
  go_enter Tryf.func3, Tryf.ntmps3
  go_wp2_with (first | (go_at_call 5; refine (bytes36 _ _ _ _ _ _ _ _ _ _ hs).mono ?_; rintro e w' ⟨rfl, rfl⟩) | (go_at_call 6; go_in))
  refine (cpAny a ln cap zs w HL HR.out).mono ?_
  rintro e w1 ⟨a', c', rfl, B1⟩
  go_wp2_with (go_at_call 8; refine (mkPos _ _ _).mono ?_; rintro e w' ⟨rfl, rfl⟩)
  refine calls_world (fun W => W.cell? ⟨w1.heap.size + 1, 0, none⟩ = some (.int .u32 o) ∧ W.cell? ⟨w1.heap.size + 1, 1, none⟩ = some (.int .u32 l) ∧ Below w.heap.size w W) ⟨by simp [go_sem], by simp [go_sem], below_next B1 (by go_grown)⟩ ?_
  rintro W ⟨s0, s1, BW⟩
  have hlt := lt_of_cell s0
  refine (newP _ _ o l on a' ln c' none 0 0 W).mono ?_
  rintro e w3 ⟨rfl, hP, hb3⟩
  have HP := Lib.hid hP
  have s0 := cell_later hb3 s0
  have s1 := cell_later hb3 s1
  have B3 := below_next BW hb3
  have hz3 : W.heap.size + 1 + 1 < w3.heap.size := lt_of_cell hP.x1
  have hsz := BW.size
  clear hP hb3 BW B1
  go_wp2_with fail
  refine (errInc0 _ w3 HP.out.x7).mono ?_
  rintro e w4 ⟨rfl, hb4⟩
  have HP4 := Lib.hid (HP.out.later hb4)
  have s0 := cell_later hb4 s0
  have s1 := cell_later hb4 s1
  have B4 := below_next B3 hb4
  have hz4 := hb4.size
  clear hb4 HP B3
  go_wp2_with (go_at_call 11; go_in)
  refine (zpos1B _ _ _ _ _ _ _ _ _ _ o l on a' ln c' o l f1 w4 HP4.out (by omega) (by omega)).mono ?_
  rintro e w5 ⟨rfl, hE⟩
  rw [HI.out] at hE
  obtain ⟨s, hP5, hR5⟩ := hE
  have HP5 := Lib.hid hP5
  have s0 := hR5.oth _ _ _ (by omega) s0
  have s1 := hR5.oth _ _ _ (by omega) s1
  have B5 : Below w.heap.size w w5 := Below.trans B4 (Below.mono hR5.bel (by omega))
  have hz5 := hR5.sz
  clear hP5 hR5 HP4 B4
  go_wp2_with fail
  refine (errInc1 _ _ s o l false w5 HP5.out.x7).mono ?_
  rintro e w6 ⟨rfl, hb6⟩
  have HP6 := Lib.hid (HP5.out.later hb6)
  have s0 := cell_later hb6 s0
  have s1 := cell_later hb6 s1
  have B6 := below_next B5 hb6
  clear hb6 HP5 B5
  go_wp2_with fail
  refine (zpos2 _ _ _ _ _ _ _ _ _ o l on a' ln c' _ o l f2 w6 HP6.out (by omega)).mono ?_
  rintro e w7 ⟨rfl, hb7⟩
  have HP7 := Lib.hid (HP6.out.later hb7)
  have B7 := below_next B6 hb7
  clear hb7 HP6 B6 s0 s1
  go_wp2_with fail
  refine (errInc1 _ _ s o l false w7 HP7.out.x7).mono ?_
  rintro e w8 ⟨rfl, hb8⟩
  have B8 := below_next B7 hb8
  clear hb8 HP7 B7
  go_wp2
  go_ret
  exact ⟨rfl, B8⟩
theorem law36 (tok o l on : Int) (a : Option Addr) (ln cap : Nat) (zs : List Int) (f1 f2 : ByteArray) (w : World) (h : IsRowB .u8 w a ln cap zs) (hm : ln ≤ maxLen) (hm1 : f1.size ≤ maxLen) (hm2 : f2.size ≤ maxLen) :
    Calls Tryf.prog 3 #[.int .u32 tok, .int .u32 o, .int .u32 l, .int .i64 on, .slice a ln cap, .string f1, .string f2] w fun e w' => e = .returned (.bool true) ∧ Below w.heap.size w w' := by
  by_cases hs : (ln : Int) + (f1.size : Int) + (f2.size : Int) ≤ 1048576
  · by_cases ht : 143 < tok
    · exact tok36 tok o l on a ln cap f1 f2 w hs ht
    · by_cases hk : tok = 1
      · by_cases ho : 0 < on
        · exact main36b tok o l on a ln cap zs f1 f2 w h hs (by omega) hk ho
        · by_cases hl : 0 < ln
          · exact main36c tok o l on a ln cap zs f1 f2 w h hs (by omega) hk ho hl
          · exact main36d tok o l on a ln cap zs f1 f2 w h hs (by omega) hk ho hl
      · exact main36a tok o l on a ln cap zs f1 f2 w h hs (by omega) hk
  · exact early36 tok o l on a ln cap f1 f2 w (by omega) hm hm1 hm2
end Go.Proofs.YtccnpgmceoojmadFmt.perr
