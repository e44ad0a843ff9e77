/-
  The stack machine over statements: the statement on top answers as the machine's own model says.
-/
import Derived.Test.YtccnpgmceoojmadBldC
import Derived.Deep.DeepCutAuto
import Derived.Deep.LoopGhost
import Derived.Deep.CutBlock
namespace Go.Proofs.Ytccnpgmceoojmad.bld
open Go.RowKit
open Go.Proofs.Ytccnpgmceoojmad

set_option maxRecDepth 100000 in
set_option maxHeartbeats 2000000 in
theorem build (a0 : Option Addr) (n c0 : Nat) (zs : List Int) (cl : Bool) (w : World) (hn : n ≤ 4096) (hc : ∀ i, i < n → ∃ b off, a0 = some ⟨b, off, none⟩ ∧ w.cell? ⟨b, off + i, none⟩ = some (.int .u8 (zs.getD i 0))) (hz : ∀ j, 0 ≤ zs.getD j 0 ∧ zs.getD j 0 ≤ 255) :
    Calls Try.prog 19 #[.slice a0 n c0, .bool cl, .bool false] w (Built zs n w) := by
  have HC := Lib.hid hc
  have HZ := Lib.hid hz
  clear hc hz
  go_enter Try.func19, Try.ntmps19
  go_wp2_with fail
  go_loopg [11, 12, 13, 14, 15] n (fun gk s11 s12 s13 s14 s15 wr => ∃ (k m : Nat) (P : List Nat) (E F : List Bool), k ≤ n ∧ gk = n - k ∧ s15 = .int .i64 k ∧ St4 w wr w.heap.size k m zs s11 s12 s13 s14 P E F)
  case atStart => exact ⟨0, 0, [], [], [], by omega, rfl, rfl, Nat.le_refl _, rfl, rfl, ⟨rfl, rfl, fun j hj => absurd hj (Nat.not_lt_zero j)⟩, ⟨World.ownsRow_nil _ _ _ _, World.ownsRow_nil _ _ _ _, World.ownsRow_nil _ _ _ _, World.ownsRow_nil _ _ _ _, fun g hg => by simp [Value.ownBlock] at hg, fun g hg => by simp [Value.ownBlock] at hg, fun g hg => by simp [Value.ownBlock] at hg⟩, Below.refl _ _⟩
  case round =>
    obtain ⟨k, m, P, E, F, hk, rfl, rfl, hmk, hP, hF, hT, hR, BW⟩ := hrel
    have HP := Lib.hid (And.intro hP hF)
    have HT := Lib.hid hT
    obtain ⟨aS, cS, rfl⟩ := own_sl hR.oS
    obtain ⟨aM, cM, rfl⟩ := own_sl hR.oM
    obtain ⟨aE, cE, rfl⟩ := own_sl hR.oE
    obtain ⟨aF, cF, rfl⟩ := own_sl hR.oF
    have HR := Lib.hid hR
    clear hP hF hT hR
    by_cases hlt : k < n
    · obtain ⟨b0, off, ea, c1⟩ := HC.out k hlt
      obtain ⟨x, hx⟩ : ∃ x, x = zs.getD k 0 := ⟨_, rfl⟩
      have hxx := HZ.out k
      rw [← hx] at c1 hxx
      have c1 := cell_later BW c1
      have HX := Lib.hid hx
      clear hx
      subst ea
      have k1 : (k : Int) < (n : Int) := by omega
      · skip
        go_upto_region 11 with (fail)
        go_cut [19] (fun s W => ∃ q : Bool, s = .bool q ∧ wr = W)
        case first =>
          as_aux_lemma =>
            go_wp2_with fail
            all_goals
              go_meet
              case rel => exact ⟨_, rfl, rfl⟩
        case rest =>
        obtain ⟨q19, rfl, rfl⟩ := hcut
        go_upto_region 12 with (fail)
        go_cut [20] (fun s W => ∃ q : Bool, s = .bool q ∧ wr = W)
        case first =>
          as_aux_lemma =>
            go_wp2_with fail
            all_goals
              go_meet
              case rel => exact ⟨_, rfl, rfl⟩
        case rest =>
        obtain ⟨q20, rfl, rfl⟩ := hcut
        go_upto_region 13 with (fail)
        go_cut [21] (fun s W => ∃ q : Bool, s = .bool q ∧ wr = W)
        case first =>
          as_aux_lemma =>
            go_wp2_with fail
            all_goals
              go_meet
              case rel => exact ⟨_, rfl, rfl⟩
        case rest =>
        obtain ⟨q21, rfl, rfl⟩ := hcut
        go_upto_region 14 with (fail)
        go_cut [22] (fun s W => ∃ q : Bool, s = .bool q ∧ wr = W)
        case first =>
          as_aux_lemma =>
            go_wp2_with fail
            all_goals
              go_meet
              case rel => exact ⟨_, rfl, rfl⟩
        case rest =>
        obtain ⟨q22, rfl, rfl⟩ := hcut
        go_upto_region 19 with (fail)
        go_upto_block 2 with (fail)
        obtain ⟨kd, hkd⟩ : ∃ kd, kd = x % 6 := ⟨_, rfl⟩
        rw [← hkd]
        have HKD := Lib.hid hkd
        have hkd0 : (0 : Int) ≤ kd ∧ kd ≤ 5 := by omega
        clear hkd
        go_cut [11, 12, 13, 14, 24, 25, 26] (fun v11 v12 v13 v14 s24 s25 s26 W => Mid wr W w.heap.size k zs v11 v12 v13 v14 s24 s25 s26)
        case first =>
          as_aux_lemma =>
            by_cases h0 : kd = 0
            · as_aux_lemma =>
                subst h0
                have HR6 := Lib.hid (runS_leaf zs k (by rw [← HX.out, ← HKD.out]; omega))
                have HK := Lib.hid (show decide (zs.getD k 0 % 6 ≤ 1) = true by rw [← HX.out, ← HKD.out]; rfl)
                go_wp2_with (go_at_call 29; refine (mkSub _).mono ?_; rintro e w' ⟨b, cmd, rfl, hb, hh, hL, hB⟩; have HH := Lib.hid (And.intro hb (And.intro hh (And.intro hL hB))); clear hb hh hL hB)
                go_meet
                case rel => exact ⟨m, b, P, runS zs k, E, F, cmd, true, true, rfl, rfl, rfl, hmk, HP.out.1, HP.out.2, by rw [HR6.out, HK.out], HT.out, HR.out, HH.out.1, HH.out.2.1, HH.out.2.2.2, Or.inl ⟨HH.out.2.2.1, rfl⟩⟩
            by_cases h1 : kd = 1
            · as_aux_lemma =>
                subst h1
                have HR6 := Lib.hid (runS_leaf zs k (by rw [← HX.out, ← HKD.out]; omega))
                have HK := Lib.hid (show decide (zs.getD k 0 % 6 ≤ 1) = true by rw [← HX.out, ← HKD.out]; rfl)
                go_wp2_with (go_at_call 30; refine (mkAr _).mono ?_; rintro e w' ⟨b, cmd, rfl, hb, hh, hL, hB⟩; have HH := Lib.hid (And.intro hb (And.intro hh (And.intro hL hB))); clear hb hh hL hB)
                go_meet
                case rel => exact ⟨m, b, P, runS zs k, E, F, cmd, true, true, rfl, rfl, rfl, hmk, HP.out.1, HP.out.2, by rw [HR6.out, HK.out], HT.out, HR.out, HH.out.1, HH.out.2.1, HH.out.2.2.2, Or.inl ⟨HH.out.2.2.1, rfl⟩⟩
            by_cases h2 : kd = 2
            · as_aux_lemma =>
                subst h2
                have HR6 := Lib.hid (runS_leaf zs k (by rw [← HX.out, ← HKD.out]; omega))
                have HK := Lib.hid (show decide (zs.getD k 0 % 6 ≤ 1) = false by rw [← HX.out, ← HKD.out]; rfl)
                go_wp2_with (go_at_call 31; refine (mkCall _).mono ?_; rintro e w' ⟨b, cmd, rfl, hb, hh, hL, hB⟩; have HH := Lib.hid (And.intro hb (And.intro hh (And.intro hL hB))); clear hb hh hL hB)
                go_meet
                case rel => exact ⟨m, b, P, runS zs k, E, F, cmd, false, false, rfl, rfl, rfl, hmk, HP.out.1, HP.out.2, by rw [HR6.out, HK.out], HT.out, HR.out, HH.out.1, HH.out.2.1, HH.out.2.2.2, Or.inl ⟨HH.out.2.2.1, rfl⟩⟩
            by_cases h3 : kd = 3
            · as_aux_lemma =>
                subst h3
                have HR6 := Lib.hid (runS_leaf zs k (by rw [← HX.out, ← HKD.out]; omega))
                have HK := Lib.hid (show decide (zs.getD k 0 % 6 ≤ 1) = false by rw [← HX.out, ← HKD.out]; rfl)
                go_wp2_with (go_at_call 32; refine (mkBlock _).mono ?_; rintro e w' ⟨b, cmd, rfl, hb, hh, hL, hB⟩; have HH := Lib.hid (And.intro hb (And.intro hh (And.intro hL hB))); clear hb hh hL hB)
                go_meet
                case rel => exact ⟨m, b, P, runS zs k, E, F, cmd, false, false, rfl, rfl, rfl, hmk, HP.out.1, HP.out.2, by rw [HR6.out, HK.out], HT.out, HR.out, HH.out.1, HH.out.2.1, HH.out.2.2.2, Or.inl ⟨HH.out.2.2.1, rfl⟩⟩
            by_cases h4 : kd = 4
            · as_aux_lemma =>
                subst h4
                have HR6 := Lib.hid (runS_leaf zs k (by rw [← HX.out, ← HKD.out]; omega))
                have HK := Lib.hid (show decide (zs.getD k 0 % 6 ≤ 1) = false by rw [← HX.out, ← HKD.out]; rfl)
                go_wp2_with (go_at_call 33; refine (mkBare _).mono ?_; rintro e w' ⟨b, cmd, rfl, hb, hh, hL, hB⟩; have HH := Lib.hid (And.intro hb (And.intro hh (And.intro hL hB))); clear hb hh hL hB)
                go_meet
                case rel => exact ⟨m, b, P, runS zs k, E, F, cmd, false, false, rfl, rfl, rfl, hmk, HP.out.1, HP.out.2, by rw [HR6.out, HK.out], HT.out, HR.out, HH.out.1, HH.out.2.1, HH.out.2.2.2, Or.inl ⟨HH.out.2.2.1, rfl⟩⟩
            obtain rfl : kd = 5 := by omega
            have hS : (runS zs k).length = m := HT.out.1.trans HP.out.1
            have HE : E.length = m := HT.out.2.1.trans HP.out.1
            have HX5 := Lib.hid (show zs.getD k 0 % 6 = 5 by rw [← HX.out, ← HKD.out])
            clear h0 h1 h2 h3 h4
            by_cases hm2 : m < 2
            · as_aux_lemma =>
                have q : (m : Int) < 2 := by omega
                have HK := Lib.hid (runS_skip zs k HX5.out (by omega))
                clear hS HE
                go_wp2_with fail
                go_roundg (n - (k + 1))
                case measure => omega
                case rel => exact ⟨k + 1, m, P, E, F, by omega, rfl, by go_num, by omega, HP.out.1, HP.out.2, by rw [HK.out]; exact HT.out, by rw [HK.out]; exact HR.out, BW⟩
            · as_aux_lemma =>
                obtain ⟨j, rfl⟩ : ∃ j, m = j + 2 := ⟨m - 2, by omega⟩
                obtain ⟨gS, tS, eS, uS⟩ := own_pos HR.out.oS (by omega)
                obtain ⟨rfl, rfl⟩ : aS = some ⟨gS, 0, none⟩ ∧ cS = tS := by injection eS with z1 z2 z3; exact ⟨z1, z3⟩
                clear eS
                have vS : (j : Int) ≤ (cS : Int) := by omega
                obtain ⟨gM, tM, eM, uM⟩ := own_pos HR.out.oM (by omega)
                obtain ⟨rfl, rfl⟩ : aM = some ⟨gM, 0, none⟩ ∧ cM = tM := by injection eM with z1 z2 z3; exact ⟨z1, z3⟩
                clear eM
                have vM : (j : Int) ≤ (cM : Int) := by omega
                obtain ⟨gE, tE, eE, uE⟩ := own_pos HR.out.oE (by omega)
                obtain ⟨rfl, rfl⟩ : aE = some ⟨gE, 0, none⟩ ∧ cE = tE := by injection eE with z1 z2 z3; exact ⟨z1, z3⟩
                clear eE
                have vE : (j : Int) ≤ (cE : Int) := by omega
                obtain ⟨gF, tF, eF, uF⟩ := own_pos HR.out.oF (by omega)
                obtain ⟨rfl, rfl⟩ : aF = some ⟨gF, 0, none⟩ ∧ cF = tF := by injection eF with z1 z2 z3; exact ⟨z1, z3⟩
                clear eF
                have vF : (j : Int) ≤ (cF : Int) := by omega
                have hPl := HP.out.1
                have d1 := own_cell HR.out.oS j _ (ptrs_get P j (by omega))
                have d2 := own_cell HR.out.oS (j + 1) _ (ptrs_get P (j + 1) (by omega))
                have d3 := own_cell HR.out.oM j _ (bls_get (runS zs k) j (by omega))
                have d4 := own_cell HR.out.oE (j + 1) _ (bls_get E (j + 1) (by omega))
                have T1 := HT.out.2.2 j (by omega)
                have T2 := HT.out.2.2 (j + 1) (by omega)
                obtain ⟨x1, hx1⟩ : ∃ y, y = P.getD j 0 := ⟨_, rfl⟩
                obtain ⟨x2, hx2⟩ : ∃ y, y = P.getD (j + 1) 0 := ⟨_, rfl⟩
                obtain ⟨sB, hsB⟩ : ∃ y, y = (runS zs k).getD j false := ⟨_, rfl⟩
                obtain ⟨eB, heB⟩ : ∃ y, y = E.getD (j + 1) false := ⟨_, rfl⟩
                rw [← hx1] at d1 T1
                rw [← hx2] at d2 T2
                rw [← hsB] at d3 T1
                rw [← heB] at d4 T2
                have HRun := Lib.hid (show runS zs (k + 1) = (runS zs k).take j ++ [sB] by
                  have h := runS_bin zs k HX5.out (by omega)
                  rw [hS] at h
                  rw [h, show j + 2 - 2 = j by omega, hsB])
                have HTT := Lib.hid (And.intro T1 T2)
                clear hx1 hx2 hsB heB T1 T2 hS HE
                have q0 : ¬ ((j : Int) + 2 < 2) := by omega
                have k4 : (0 : Int) ≤ (j : Int) := by omega
                have hj4 : j + 2 ≤ 4096 := by omega
                go_wp2_with fail
                have k5 : (j : Int) < (j : Int) + 2 := by omega
                have k6 : (j : Int) + 1 < (j : Int) + 2 := by omega
                have k7 : (0 : Int) ≤ (j : Int) + 1 := by omega
                have k8 : ((j : Int) + 1).toNat = j + 1 := by omega
                rw [show (j : Int) + 2 - 1 = (j : Int) + 1 by omega]
                have hw1 : IntKind.i64.wrap (j : Int) = (j : Int) := IntWalk.i64_in _ (by omega)
                have hw2 : IntKind.i64.wrap ((j : Int) + 1) = (j : Int) + 1 := IntWalk.i64_in _ (by omega)
                go_region_held3 (fun V => V.cell? ⟨gS, j, none⟩ = some (.pointer (some ⟨x1, 0, none⟩)) ∧ V.cell? ⟨gS, j + 1, none⟩ = some (.pointer (some ⟨x2, 0, none⟩))) (first | exact ⟨cell_later b1 d1, cell_later b1 d2⟩ | exact ⟨cell_later (w := wr) (by go_grown) d1, cell_later (w := wr) (by go_grown) d2⟩) (first | (go_at_call 34; refine (mkBin x1 x2 _).mono ?_; rintro e w' ⟨b, qq, rfl, hb, hh, hq, hB⟩; have b1 : Below wr.heap.size wr w' := ⟨hB.os, hB.tape, hB.output, hB.size, hB.block⟩; have HH := Lib.hid (And.intro hb (And.intro hh hq)); clear hb hh hq hB))
                clear hw1 hw2
                have d5 := cell_later b1 d3
                have d6 := cell_later b1 d4
                clear d3 d4
                go_wp2_with fail
                go_meet
                case rel =>
                  exact ⟨j, b, P.take j, (runS zs k).take j, E.take j, F.take j, _, sB, eB, rfl, rfl, rfl, by omega, by simp; omega, by have := HP.out.2; simp; omega, HRun.out.symm, HT.out.take j (by omega), ⟨by rw [← ptrs_take]; exact own_take HR.out.oS j (by omega), by rw [← bls_take]; exact own_take HR.out.oM j (by omega), by rw [← bls_take]; exact own_take HR.out.oE j (by omega), by rw [← bls_take]; exact own_take HR.out.oF j (by omega), fun g hg => HR.out.aME g hg, fun g hg => HR.out.aMF g hg, fun g hg => HR.out.aEF g hg⟩, HH.out.1, HH.out.2.1, b1, Or.inr ⟨qq, x1, x2, _, _, rfl, HH.out.2.2, HTT.out.1, HTT.out.2⟩⟩
        case rest =>
        obtain ⟨m2, b, P2, S2, E2, F2, cmd, s, en, rfl, rfl, rfl, hm2, hP2, hF2, hS2, hT2, hR2, hb, hh, hB, hD⟩ := hcut
        obtain ⟨W, rfl⟩ : ∃ x : World, x = wc := ⟨_, rfl⟩
        obtain ⟨aS2, cS2, rfl⟩ := own_sl hR2.oS
        obtain ⟨aM2, cM2, rfl⟩ := own_sl hR2.oM
        obtain ⟨aE2, cE2, rfl⟩ := own_sl hR2.oE
        obtain ⟨aF2, cF2, rfl⟩ := own_sl hR2.oF
        have Y := Lib.hid (And.intro hS2 (And.intro hT2 hR2))
        have HPF := Lib.hid (And.intro hP2 hF2)
        have HD := Lib.hid hD
        have HHh := Lib.hid hh
        have y7 : W.cell? ⟨b, 7, none⟩ = some (.bool false) := (cell_heap hh 7).trans rfl
        have y8 : W.cell? ⟨b, 8, none⟩ = some (.bool false) := (cell_heap hh 8).trans rfl
        have y9 : W.cell? ⟨b, 9, none⟩ = some (.bool false) := (cell_heap hh 9).trans rfl
        have y6 : W.cell? ⟨b, 6, none⟩ = some (.bool false) := (cell_heap hh 6).trans rfl
        have z7 := frozen_heap hh 7
        have z8 := frozen_heap hh 8
        have z9 := frozen_heap hh 9
        have z6 := frozen_heap hh 6
        clear hS2 hT2 hR2 hD hh HR HT HP hP2 hF2 hmk
        go_upto_if 155 with (fail)
        as_aux_lemma =>
          refine  wp_world (fun V => Fin wr V b cmd q19 q20 q21 false s en) ⟨_, none, 0, 0, setH (setH (setH (setH HHh.out 7 _) 8 _) 9 _) 6 _, by simp [stmt0], by simp [stmt0], by simp [stmt0], by simp [stmt0], by simp [stmt0], by simp, by simp [stmt0], (((hB.setCell hb _).setCell hb _).setCell hb _).setCell hb _, Dd.move HD.out HHh.out (fun g hg _ => by rw [Below.heap_setCell _ _ _ _ hg, Below.heap_setCell _ _ _ _ hg, Below.heap_setCell _ _ _ _ hg, Below.heap_setCell _ _ _ _ hg])⟩ ?_
          rintro V hV
          have HV := Lib.hid hV
          clear hV y6 y7 y8 y9 z6 z7 z8 z9 HD HHh hB
          go_cut [] (fun X => Fin wr X b cmd q19 q20 q21 q22 s en)
          case first =>
            as_aux_lemma =>
              cases q22 with
              | false =>
                go_wp2_with fail
                go_meet
                case rel => exact HV.out
              | true =>
                obtain ⟨cs, r0, rn, rc, h0, h1, h7, h8, h9, h10, hr, hs, hBB, hDD⟩ := HV.out
                have y10 : V.cell? ⟨b, 10, none⟩ = some (.slice r0 rn rc) := (cell_heap h0 10).trans h10
                have z10 := frozen_heap h0 10
                have hltb := lt_heap h0
                clear h0 h1 h7 h8 h9 h10 hr hs hBB hDD
                go_wp2_with fail
                go_meet
                case rel => exact (HV.out.redir (Below.refl _ _) _ hb).later (by go_grown)
          case rest =>
          have HV2 := Lib.hid hcut
          clear hcut HV
          obtain ⟨V2, rfl⟩ : ∃ x : World, x = wc := ⟨_, rfl⟩
          go_upto_region 53 with (fail)
          obtain ⟨fl, hfl⟩ : ∃ y, y = (q19 || q20 || q21 || q22) := ⟨_, rfl⟩
          have HFL := Lib.hid hfl
          clear hfl
          go_cut [30] (fun s X => s = .bool fl ∧ V2 = X)
          case first =>
            as_aux_lemma =>
              cases q19 with
              | true =>
                go_wp2_with fail
                go_meet
                case rel => exact ⟨by rw [HFL.out]; simp, rfl⟩
              | false =>
              cases q20 with
              | true =>
                go_wp2_with fail
                go_meet
                case rel => exact ⟨by rw [HFL.out]; simp, rfl⟩
              | false =>
              cases q21 with
              | true =>
                go_wp2_with fail
                go_meet
                case rel => exact ⟨by rw [HFL.out]; simp, rfl⟩
              | false =>
                go_wp2_with fail
                go_meet
                case rel => exact ⟨by rw [HFL.out]; simp, rfl⟩
          case rest =>
          obtain ⟨rfl, rfl⟩ := hcut
          go_upto_if 172 with (fail)
          go_cut [26] (fun s X => s = .bool (en && !fl) ∧ V2 = X)
          case first =>
            as_aux_lemma =>
              cases fl with
              | false =>
                go_wp2_with fail
                go_meet
                case rel => exact ⟨by simp, rfl⟩
              | true =>
                go_wp2_with fail
                go_meet
                case rel => exact ⟨by simp, rfl⟩
          case rest =>
          obtain ⟨rfl, rfl⟩ := hcut
          as_aux_lemma =>
            have  T0 := Lib.hid (HFL.out ▸ HV2.out.start Y.out BW : Tq w V2 (P2 ++ [b]) (S2 ++ [s]) (E2 ++ [en && !fl]) (.slice aS2 m2 cS2) m2 (ptrs P2) (.slice aM2 m2 cM2) m2 (bls S2) (.slice aE2 m2 cE2) m2 (bls E2) (.slice aF2 m2 cF2) m2 (bls F2))
            have HS2 := Lib.hid Y.out.1
            have hsz := T0.out.bl.size
            clear HV2 Y
            obtain ⟨i53, hi, hz0, hz1, hz2⟩ := info_parts info53
            obtain ⟨i4, hj, hy0, hy1, hy2⟩ := info_parts info4
            go_wp2_with (first | (at_builtin; refine wpList_append_lies _ rfl _ _ 59 rfl w.heap.size 53 i53 (.pointer none) 1 8 Try.underlying59 hi hz0 hz1 hz2 rfl (by decide) (.slice aS2 m2 cS2) m2 _ rfl (T0.out.r4.later (by go_grown)).oS ⟨_, 0, none⟩ 1 1 [.pointer (some ⟨b, 0, none⟩)] rfl rfl (cell_one_new _ _ _) (onep _) (by omega) (by unfold maxLen; omega) (by omega) (by have := T0.out.bl.size; simp; omega) _ rfl ?_; intro gS dS wS hoS hgS haS _; have T1 := Lib.hid (T0.out.appS (by go_grown) hoS hgS haS); clear hoS hgS haS T0) | (at_builtin; refine wpList_append_lies _ rfl _ _ 77 rfl w.heap.size 4 i4 (.bool false) 1 1 Try.underlying77 hj hy0 hy1 hy2 rfl (by decide) (.slice aM2 m2 cM2) m2 _ rfl (T1.out.r4.later (by go_grown)).oM ⟨_, 0, none⟩ 1 1 [.bool s] rfl rfl (cell_one_new _ _ _) (oneb _) (by omega) (by unfold maxLen; omega) (by omega) (by have := T1.out.bl.size; simp; omega) _ rfl ?_; intro gM dM wM hoM hgM haM _; have T2 := Lib.hid (T1.out.appM (by go_grown) hoM hgM haM); clear hoM hgM haM T1) | (at_builtin; refine wpList_append_lies _ rfl _ _ 77 rfl w.heap.size 4 i4 (.bool false) 1 1 Try.underlying77 hj hy0 hy1 hy2 rfl (by decide) (.slice aE2 m2 cE2) m2 _ rfl (T2.out.r4.later (by go_grown)).oE ⟨_, 0, none⟩ 1 1 [.bool (en && !fl)] rfl rfl (cell_one_new _ _ _) (oneb _) (by omega) (by unfold maxLen; omega) (by omega) (by have := T2.out.bl.size; simp; omega) _ rfl ?_; intro gE dE wE hoE hgE haE _; have T3 := Lib.hid (T2.out.appE (by go_grown) hoE hgE haE); clear hoE hgE haE T2) | (at_builtin; refine wpList_append_lies _ rfl _ _ 77 rfl w.heap.size 4 i4 (.bool false) 1 1 Try.underlying77 hj hy0 hy1 hy2 rfl (by decide) (.slice aF2 m2 cF2) m2 _ rfl (T3.out.r4.later (by go_grown)).oF ⟨_, 0, none⟩ 1 1 [.bool fl] rfl rfl (cell_one_new _ _ _) (oneb _) (by omega) (by unfold maxLen; omega) (by omega) (by have := T3.out.bl.size; simp; omega) _ rfl ?_; intro gF dF wF hoF hgF haF _; have T4 := Lib.hid (T3.out.appF (by go_grown) hoF hgF haF); clear hoF hgF haF T3))
            go_roundg (n - (k + 1))
            case measure => omega
            case rel => exact ⟨k + 1, m2 + 1, P2 ++ [b], E2 ++ [en && !fl], F2 ++ [fl], by omega, rfl, by go_num, T4.out.done hm2 HPF.out.1 HPF.out.2 HS2.out⟩
    · as_aux_lemma =>
        obtain rfl : n = k := by omega
        clear HC
        by_cases h0 : m = 0
        · as_aux_lemma =>
            subst h0
            have hS : runS zs n = [] := List.eq_nil_of_length_eq_zero (HT.out.1.trans HP.out.1)
            have HS := Lib.hid hS
            clear hS
            go_wp2
            try simp only [Exit.inBlock, Exit.then]
            refine bodyPost_ret (results_tmp5 rfl _ _ _) rfl ?_
            exact ⟨Or.inl ⟨HS.out, rfl⟩, BW⟩
        · as_aux_lemma =>
            obtain ⟨j, rfl⟩ : ∃ j, m = j + 1 := ⟨m - 1, by omega⟩
            obtain ⟨gS, tS, eS, uS⟩ := own_pos HR.out.oS (by omega)
            obtain ⟨rfl, rfl⟩ : aS = some ⟨gS, 0, none⟩ ∧ cS = tS := by injection eS with z1 z2 z3; exact ⟨z1, z3⟩
            clear eS
            obtain ⟨gM, tM, eM, uM⟩ := own_pos HR.out.oM (by omega)
            obtain ⟨rfl, rfl⟩ : aM = some ⟨gM, 0, none⟩ ∧ cM = tM := by injection eM with z1 z2 z3; exact ⟨z1, z3⟩
            clear eM
            obtain ⟨gE, tE, eE, uE⟩ := own_pos HR.out.oE (by omega)
            obtain ⟨rfl, rfl⟩ : aE = some ⟨gE, 0, none⟩ ∧ cE = tE := by injection eE with z1 z2 z3; exact ⟨z1, z3⟩
            clear eE
            obtain ⟨gF, tF, eF, uF⟩ := own_pos HR.out.oF (by omega)
            obtain ⟨rfl, rfl⟩ : aF = some ⟨gF, 0, none⟩ ∧ cF = tF := by injection eF with z1 z2 z3; exact ⟨z1, z3⟩
            clear eF
            have hS : (runS zs n).length = j + 1 := HT.out.1.trans HP.out.1
            have hE : E.length = j + 1 := HT.out.2.1.trans HP.out.1
            have hF : F.length = j + 1 := HP.out.2
            have hPl := HP.out.1
            have d1 := own_cell HR.out.oS j _ (ptrs_get P j (by omega))
            have d2 := own_cell HR.out.oM j _ (bls_get (runS zs n) j (by omega))
            have d3 := own_cell HR.out.oE j _ (bls_get E j (by omega))
            have d4 := own_cell HR.out.oF j _ (bls_get F j (by omega))
            have T1 := HT.out.2.2 j (by omega)
            obtain ⟨x1, hx1⟩ : ∃ y, y = P.getD j 0 := ⟨_, rfl⟩
            obtain ⟨sB, hsB⟩ : ∃ y, y = (runS zs n).getD j false := ⟨_, rfl⟩
            obtain ⟨eB, heB⟩ : ∃ y, y = E.getD j false := ⟨_, rfl⟩
            obtain ⟨fB, hfB⟩ : ∃ y, y = F.getD j false := ⟨_, rfl⟩
            rw [← hx1] at d1 T1
            rw [← hsB] at d2 T1
            rw [← heB] at d3 T1
            rw [← hfB] at d4
            have HRun := Lib.hid (show runS zs n ≠ [] ∧ sB = (runS zs n).getD ((runS zs n).length - 1) false by
              refine ⟨fun e => ?_, ?_⟩
              · rw [e] at hS; simp at hS
              · rw [hS]; simpa using hsB)
            have HTT := Lib.hid T1
            clear hx1 hsB heB hfB T1 hS hE hF hPl HR HT HP uS uM uE uF
            have q0 : ¬ ((j : Int) + 1 = 0) := by omega
            have hj4 : j + 1 ≤ 4096 := by omega
            have k4 : (0 : Int) ≤ (j : Int) := by omega
            have k5 : (j : Int) < (j : Int) + 1 := by omega
            go_wp2_with fail
            have hw1 : IntKind.i64.wrap (j : Int) = (j : Int) := IntWalk.i64_in _ (by omega)
            go_quiet (fail)
            go_wp2
            try simp only [Exit.inBlock, Exit.then]
            refine bodyPost_ret (results_tmp5 rfl _ _ _) rfl ?_
            exact ⟨Or.inr ⟨x1, eB, fB, HRun.out.1, by rw [← HRun.out.2]; rfl, by rw [← HRun.out.2]; exact HTT.out.keep (Kp.ofBelow (below_drewN (Below.refl _ _) _))⟩, below_drewN BW _⟩
end Go.Proofs.Ytccnpgmceoojmad.bld
