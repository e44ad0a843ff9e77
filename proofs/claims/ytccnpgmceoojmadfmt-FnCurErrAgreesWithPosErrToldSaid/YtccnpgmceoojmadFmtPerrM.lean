/-
  curErr agrees with posErr at the current position, for a first and a second call: for every state, text and position.
-/
import Derived.Test.YtccnpgmceoojmadFmtPerrL
namespace Go.Proofs.YtccnpgmceoojmadFmt.perr
open Go.RowKit
open Go.Proofs.YtccnpgmceoojmadFmt

theorem bytes41 (nm : ByteArray) (tok o l o2 l2 on : Int) (a b : Option Addr) (ln cap bn bcap : Nat) (f1 f2 : ByteArray) (w : World) (hs : (nm.size : Int) + (ln : Int) + (bn : Int) + (f1.size : Int) + (f2.size : Int) ≤ 1048576) :
    Calls Tryf.prog 13 #[.string nm, .int .u32 tok, .int .u32 o, .int .u32 l, .int .u32 o2, .int .u32 l2, .int .i64 on, .slice a ln cap, .slice b bn bcap, .string f1, .string f2] w fun e w' => e = .returned (.bool true) ∧ w = w' := by
  have h1 : ¬ (1048576 : Int) < (nm.size : Int) := by omega
  have h2 : ¬ (1048576 : Int) < (ln : Int) := by omega
  have h3 : ¬ (1048576 : Int) < (bn : Int) := by omega
  have h4 : ¬ (1048576 : Int) < (f1.size : Int) := by omega
  have h5 : ¬ (1048576 : Int) < (f2.size : Int) := by omega
  have h6 : ¬ (1048576 : Int) < (nm.size : Int) + (ln : Int) := by omega
  have h7 : ¬ (1048576 : Int) < (nm.size : Int) + (ln : Int) + (bn : Int) := by omega
  have h8 : ¬ (1048576 : Int) < (nm.size : Int) + (ln : Int) + (bn : Int) + (f1.size : Int) := by omega
  have h9 : ¬ (1048576 : Int) < (nm.size : Int) + (ln : Int) + (bn : Int) + (f1.size : Int) + (f2.size : Int) := by omega
  go_enter Tryf.func13, Tryf.ntmps13
  go_wp2
  go_ret
  exact ⟨rfl, rfl⟩
set_option maxRecDepth 100000 in
set_option maxHeartbeats 2000000 in
theorem early41 (nm : ByteArray) (tok o l o2 l2 on : Int) (a b : Option Addr) (ln cap bn bcap : Nat) (f1 f2 : ByteArray) (w : World) (hs : (1048576 : Int) < (nm.size : Int) + (ln : Int) + (bn : Int) + (f1.size : Int) + (f2.size : Int)) (hm : ln ≤ maxLen) (hmb : bn ≤ maxLen) (hm0 : nm.size ≤ maxLen) (hm1 : f1.size ≤ maxLen) (hm2 : f2.size ≤ maxLen) :
    Calls Tryf.prog 4 #[.string nm, .int .u32 tok, .int .u32 o, .int .u32 l, .int .u32 o2, .int .u32 l2, .int .i64 on, .slice a ln cap, .slice b bn bcap, .string f1, .string f2] w fun e w' => e = .returned (.bool true) ∧ Below w.heap.size w w' := by
  unfold maxLen at hm hmb hm0 hm1 hm2
  go_enter Tryf.func4, Tryf.ntmps4
  go_wp2_with (go_at_call 13; go_in)
  all_goals
    go_ret
    exact ⟨rfl, Below.refl _ _⟩
set_option maxRecDepth 100000 in
set_option maxHeartbeats 1000000 in
theorem tok41 (nm : ByteArray) (tok o l o2 l2 on : Int) (a b : Option Addr) (ln cap bn bcap : Nat) (f1 f2 : ByteArray) (w : World) (hs : (nm.size : Int) + (ln : Int) + (bn : Int) + (f1.size : Int) + (f2.size : Int) ≤ 1048576) (ht : 143 < tok) :
    Calls Tryf.prog 4 #[.string nm, .int .u32 tok, .int .u32 o, .int .u32 l, .int .u32 o2, .int .u32 l2, .int .i64 on, .slice a ln cap, .slice b bn bcap, .string f1, .string f2] w fun e w' => e = .returned (.bool true) ∧ Below w.heap.size w w' := by
  have h1 : ¬ (1048576 : Int) < (nm.size : Int) + (ln : Int) + (bn : Int) + (f1.size : Int) + (f2.size : Int) := by omega
  go_enter Tryf.func4, Tryf.ntmps4
  go_wp2_with (first | (go_at_call 13; refine (bytes41 _ _ _ _ _ _ _ _ _ _ _ _ _ _ _ _ hs).mono ?_; rintro e w' ⟨rfl, rfl⟩) | (go_at_call 6; go_in))
  go_ret
  exact ⟨rfl, Below.refl _ _⟩
theorem Pst.other {w w' : World} {p q fb : Nat} {name : ByteArray} {ba : Option Addr} {bn bc : Nat} {bsp r wd : Int} {err : Value} {tok po pl on : Int} {la : Option Addr} {ln lc : Nat} (h : Pst w q fb name ba bn bc bsp r wd err tok po pl on la ln lc) (hR : Rest p w w') (hq : q ≠ p) (hf : fb ≠ p) : Pst w' q fb name ba bn bc bsp r wd err tok po pl on la ln lc :=
  ⟨hR.oth _ _ _ hq h.x1, hR.oth _ _ _ hq h.x2, hR.oth _ _ _ hq h.x3, hR.oth _ _ _ hq h.x4, hR.oth _ _ _ hq h.x5, hR.oth _ _ _ hq h.x7, hR.oth _ _ _ hq h.x10, hR.oth _ _ _ hq h.x15, hR.oth _ _ _ hq h.x16, hR.oth _ _ _ hq h.x29, hR.oth _ _ _ hq h.x2087, hR.oth _ _ _ hf h.xf, fun k => (hR.ofz q k hq (lt_of_cell h.x1)).trans (h.fz k)⟩
set_option maxRecDepth 100000 in
set_option maxHeartbeats 800000 in
theorem main41 (nm : ByteArray) (tok o l o2 l2 on : Int) (a b : Option Addr) (ln cap bn bcap : Nat) (f1 f2 : ByteArray) (za zb : List Int) (w : World) (ha : IsRowB .u8 w a ln cap za) (hb : IsRowB .u8 w b bn bcap zb) (hs : (nm.size : Int) + (ln : Int) + (bn : Int) + (f1.size : Int) + (f2.size : Int) ≤ 1048576) (ht : tok ≤ 143) :
    Calls Tryf.prog 4 #[.string nm, .int .u32 tok, .int .u32 o, .int .u32 l, .int .u32 o2, .int .u32 l2, .int .i64 on, .slice a ln cap, .slice b bn bcap, .string f1, .string f2] w fun e w' => e = .returned (.bool true) ∧ Below w.heap.size w w' := by
  have h1 : ¬ (1048576 : Int) < (nm.size : Int) + (ln : Int) + (bn : Int) + (f1.size : Int) + (f2.size : Int) := by omega
  have h2 : ¬ 143 < tok := by omega
  have HL : ln ≤ 1048576 := by omega
  have HN : bn ≤ 1048576 := by omega
  have HA := Lib.hid ha
  have HB := Lib.hid hb
  clear ha hb
  go_enter Tryf.func4, Tryf.ntmps4
  go_wp2_with (first | (go_at_call 13; refine (bytes41 _ _ _ _ _ _ _ _ _ _ _ _ _ _ _ _ hs).mono ?_; rintro e w' ⟨rfl, rfl⟩) | (go_at_call 6; go_in))
  refine (cpAny a ln cap za w HL HA.out).mono ?_
  rintro e w1 ⟨a1, c1, rfl, B1⟩
  go_wp2_with fail
  refine (cpAny a ln cap za w1 HL (isRowB_later HA.out B1)).mono ?_
  rintro e w2 ⟨a2, c2, rfl, b2⟩
  have B2 := below_next B1 b2
  clear b2 B1
  go_wp2_with fail
  refine (cpAny b bn bcap zb w2 HN (isRowB_later HB.out B2)).mono ?_
  rintro e w3 ⟨a3, c3, rfl, b3⟩
  have B3 := below_next B2 b3
  clear b3 B2
  go_wp2_with fail
  refine (cpAny b bn bcap zb w3 HN (isRowB_later HB.out B3)).mono ?_
  rintro e w4 ⟨a4, c4, rfl, b4⟩
  have B4 := below_next B3 b4
  clear b4 B3 HA HB
  go_wp2_with (go_at_call 8; refine (mkPos _ _ _).mono ?_; rintro e w' ⟨rfl, rfl⟩)
  refine calls_world (fun W => W.cell? ⟨w4.heap.size + 1, 0, none⟩ = some (.int .u32 o) ∧ W.cell? ⟨w4.heap.size + 1, 1, none⟩ = some (.int .u32 l) ∧ Below w.heap.size w W) ⟨by simp [go_sem], by simp [go_sem], below_next B4 (by go_grown)⟩ ?_
  rintro W ⟨s0, s1, BW⟩
  have hlt := lt_of_cell s0
  have hz0 := BW.size
  clear B4
  generalize w4.heap.size + 1 = pb at *
  refine (newP nm tok o l on a1 ln c1 a3 bn c3 W).mono ?_
  rintro e w5 ⟨rfl, hP, hb5⟩
  have HP := Lib.hid hP
  replace s0 := cell_later hb5 s0
  replace s1 := cell_later hb5 s1
  have B5 := below_next BW hb5
  have hz5 : W.heap.size + 1 + 1 < w5.heap.size := lt_of_cell hP.x1
  clear hP hb5 BW
  go_wp2_with fail
  refine (newP nm tok o l on a2 ln c2 a4 bn c4 w5).mono ?_
  rintro e w6 ⟨rfl, hP, hb6⟩
  have HQ := Lib.hid hP
  have HP1 := Lib.hid (HP.out.later hb6)
  replace s0 := cell_later hb6 s0
  replace s1 := cell_later hb6 s1
  have B6 := below_next B5 hb6
  have hz6 : w5.heap.size + 1 + 1 < w6.heap.size := lt_of_cell hP.x1
  clear hP hb6 B5 HP
  obtain ⟨p, hp⟩ : ∃ p, p = W.heap.size + 1 + 1 := ⟨_, rfl⟩
  obtain ⟨fb, hfb⟩ : ∃ fb, fb = W.heap.size + 1 := ⟨_, rfl⟩
  obtain ⟨q, hq⟩ : ∃ q, q = w5.heap.size + 1 + 1 := ⟨_, rfl⟩
  obtain ⟨gb, hgb⟩ : ∃ gb, gb = w5.heap.size + 1 := ⟨_, rfl⟩
  rw [← hp, ← hfb] at HP1
  rw [← hq, ← hgb] at HQ
  rw [← hp, ← hq]
  have n1 : fb ≠ p := by omega
  have n2 : gb ≠ q := by omega
  have n3 : q ≠ p := by omega
  have n4 : gb ≠ p := by omega
  have n5 : p ≠ q := by omega
  have n6 : fb ≠ q := by omega
  have n7 : pb ≠ p := by omega
  have n8 : pb ≠ q := by omega
  have n9 : w.heap.size ≤ p := by omega
  have n10 : w.heap.size ≤ q := by omega
  have n11 : q < w6.heap.size := by omega
  clear hp hfb hq hgb hz6 hz5 hlt hz0
  have NN := Lib.hid (And.intro n1 (And.intro n2 (And.intro n3 (And.intro n4 (And.intro n5 (And.intro n6 (And.intro n7 n8)))))))
  clear n1 n2 n3 n4 n5 n6 n7 n8
  go_wp2_with fail
  refine (zcur1 p fb nm a3 bn c3 _ _ _ tok o l on a1 ln c1 f1 w6 HP1.out HN NN.out.1).mono ?_
  rintro e w7 ⟨rfl, hE⟩
  change Erd p fb nm a3 bn c3 o l (incB tok on ln) o l on a1 ln c1 w6 w7 at hE
  obtain ⟨sp, hP7, hR7⟩ := hE
  obtain ⟨m1, m2, m3, m4, m5, m6, m7, m8⟩ := NN.out
  have HP7 := Lib.hid hP7
  have HQ7 := Lib.hid (HQ.out.other hR7 m3 m4)
  replace s0 := hR7.oth _ _ _ m7 s0
  replace s1 := hR7.oth _ _ _ m7 s1
  have B7 : Below w.heap.size w w7 := Below.trans B6 (Below.mono hR7.bel n9)
  clear hP7 hR7 HP1 HQ B6 m1 m2 m3 m4 m5 m6 m7 m8
  go_wp2_with fail
  refine (zpos1B q gb nm a4 bn c4 _ _ _ tok o l on a2 ln c2 o l f1 w7 HQ7.out HN NN.out.2.1).mono ?_
  rintro e w8 ⟨rfl, hE⟩
  obtain ⟨sq, hQ8, hR8⟩ := hE
  obtain ⟨m1, m2, m3, m4, m5, m6, m7, m8⟩ := NN.out
  have HQ8 := Lib.hid hQ8
  have HP8 := Lib.hid (HP7.out.other hR8 m5 m6)
  replace s0 := hR8.oth _ _ _ m8 s0
  replace s1 := hR8.oth _ _ _ m8 s1
  have B8 : Below w.heap.size w w8 := Below.trans B7 (Below.mono hR8.bel n10)
  clear hQ8 hR8 HP7 HQ7 B7 m1 m2 m3 m4 m5 m6 m7 m8
  generalize incB tok on ln = inc at *
  go_wp2_with fail
  refine (zcur2 p fb nm a3 bn c3 _ _ _ o l on a1 ln c1 _ f2 w8 HP8.out NN.out.1).mono ?_
  rintro e w9 ⟨rfl, hb9⟩
  have HP9 := Lib.hid (HP8.out.later hb9)
  have HQ9 := Lib.hid (HQ8.out.later hb9)
  have B9 := below_next B8 hb9
  clear hb9 HP8 HQ8 B8 s0 s1
  go_wp2_with (go_at_call 8; refine (mkPos _ _ _).mono ?_; rintro e w' ⟨rfl, rfl⟩)
  refine (zpos2 q gb nm a4 bn c4 _ _ _ o l on a2 ln c2 _ o2 l2 f2 _ (HQ9.out.later (by go_grown)) NN.out.2.1).mono ?_
  rintro e w10 ⟨rfl, hb10⟩
  have HP10 := Lib.hid ((HP9.out.later (by go_grown : Below w9.heap.size w9 (w9.alloc (.cells #[.int .u32 o2, .int .u32 l2] 28)))).later hb10)
  have HQ10 := Lib.hid ((HQ9.out.later (by go_grown : Below w9.heap.size w9 (w9.alloc (.cells #[.int .u32 o2, .int .u32 l2] 28)))).later hb10)
  have B10 := below_next (below_next B9 (by go_grown : Below w9.heap.size w9 (w9.alloc (.cells #[.int .u32 o2, .int .u32 l2] 28)))) hb10
  clear hb10 HP9 HQ9 B9
  go_wp2_with fail
  refine (parseErr p nm sp o l inc w10 HP10.out.x7).mono ?_
  rintro e w11 ⟨rfl, hb11⟩
  have HP11 := Lib.hid (HP10.out.later hb11)
  have HQ11 := Lib.hid (HQ10.out.later hb11)
  have B11 := below_next B10 hb11
  clear hb11 HP10 HQ10 B10
  go_wp2_with fail
  refine calls_world (fun V => V.cell? ⟨w11.heap.size, 0, none⟩ = some (.string nm) ∧ V.cell? ⟨w11.heap.size, 1, none⟩ = some (.int .u32 o) ∧ V.cell? ⟨w11.heap.size, 2, none⟩ = some (.int .u32 l) ∧ V.cell? ⟨w11.heap.size, 3, none⟩ = some (.string sp) ∧ V.cell? ⟨w11.heap.size, 4, none⟩ = some (.bool inc) ∧ Below w11.heap.size w11 V) ⟨by simp [go_sem], by simp [go_sem], by simp [go_sem], by simp [go_sem], by simp [go_sem], by go_grown⟩ ?_
  rintro V ⟨t0, t1, t2, t3, t4, bV⟩
  have HP12 := Lib.hid (HP11.out.later bV)
  have HQ12 := Lib.hid (HQ11.out.later bV)
  have B12 := below_next B11 bV
  clear bV HP11 HQ11 B11
  generalize w11.heap.size = tb at *
  refine (parseErr q nm sq o l inc V HQ12.out.x7).mono ?_
  rintro e w13 ⟨rfl, hb13⟩
  have HP13 := Lib.hid (HP12.out.later hb13)
  have HQ13 := Lib.hid (HQ12.out.later hb13)
  have B13 := below_next B12 hb13
  replace t0 := cell_later hb13 t0
  replace t1 := cell_later hb13 t1
  replace t2 := cell_later hb13 t2
  replace t3 := cell_later hb13 t3
  replace t4 := cell_later hb13 t4
  clear hb13 HP12 HQ12 B12
  have htb := lt_of_cell t0
  go_wp2_with fail
  refine calls_world (fun X => Below w13.heap.size w13 X) (by go_grown) ?_
  rintro X bX
  have HP14 := Lib.hid (HP13.out.later bX)
  have HQ14 := Lib.hid (HQ13.out.later bX)
  have B14 := below_next B13 bX
  clear bX HP13 HQ13 B13 t0 t1 t2 t3 t4 htb
  refine (sameFields nm sp sq o l inc X).mono ?_
  rintro e w15 ⟨rfl, hb15⟩
  have HP15 := Lib.hid (HP14.out.later hb15)
  have HQ15 := Lib.hid (HQ14.out.later hb15)
  have B15 := below_next B14 hb15
  clear hb15 HP14 HQ14 B14
  go_wp2_with fail
  refine (lexErr p bn _ w15 HN rfl HP15.out.x2 HP15.out.x3 HP15.out.x4 HP15.out.x10).mono ?_
  rintro e w16 ⟨rfl, hb16⟩
  have HQ16 := Lib.hid (HQ15.out.later hb16)
  have B16 := below_next B15 hb16
  clear hb16 HP15 HQ15 B15
  go_wp2_with fail
  refine (lexErr q bn _ w16 HN rfl HQ16.out.x2 HQ16.out.x3 HQ16.out.x4 HQ16.out.x10).mono ?_
  rintro e w17 ⟨rfl, hb17⟩
  have B17 := below_next B16 hb17
  clear hb17 HQ16 B16
  go_wp2
  go_ret
  exact ⟨rfl, B17⟩
theorem law41 (nm : ByteArray) (tok o l o2 l2 on : Int) (a b : Option Addr) (ln cap bn bcap : Nat) (f1 f2 : ByteArray) (za zb : List Int) (w : World) (hm0 : nm.size ≤ maxLen) (ha : IsRowB .u8 w a ln cap za) (hm : ln ≤ maxLen) (hb : IsRowB .u8 w b bn bcap zb) (hmb : bn ≤ maxLen) (hm1 : f1.size ≤ maxLen) (hm2 : f2.size ≤ maxLen) :
    Calls Tryf.prog 4 #[.string nm, .int .u32 tok, .int .u32 o, .int .u32 l, .int .u32 o2, .int .u32 l2, .int .i64 on, .slice a ln cap, .slice b bn bcap, .string f1, .string f2] w fun e w' => e = .returned (.bool true) ∧ Below w.heap.size w w' := by
  by_cases hs : (nm.size : Int) + (ln : Int) + (bn : Int) + (f1.size : Int) + (f2.size : Int) ≤ 1048576
  · by_cases ht : 143 < tok
    · exact tok41 nm tok o l o2 l2 on a b ln cap bn bcap f1 f2 w hs ht
    · exact main41 nm tok o l o2 l2 on a b ln cap bn bcap f1 f2 za zb w ha hb hs (by omega)
  · exact early41 nm tok o l o2 l2 on a b ln cap bn bcap f1 f2 w (by omega) hm hmb hm0 hm1 hm2
end Go.Proofs.YtccnpgmceoojmadFmt.perr
