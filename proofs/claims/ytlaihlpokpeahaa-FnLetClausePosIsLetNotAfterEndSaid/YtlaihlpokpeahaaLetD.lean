/-
  A let clause: the law's two loops.
-/
import Derived.Test.YtlaihlpokpeahaaLetS
import Derived.Deep.DeepCutAuto
import Derived.Deep.LoopGhost
namespace Go.Proofs.Ytlaihlpokpeahaa.letc
open Go.RowKit
open Go.Proofs.Ytlaihlpokpeahaa

def Ord (lo : Int) (zo eo : List Int) (n k : Nat) : Prop := (k < n → lo ≤ zo.getD k 0) ∧ ∀ j, j < k → lo ≤ eo.getD j 0
theorem Ord.step {lo : Int} {zo eo : List Int} {n k : Nat} (h : Ord lo zo eo n k) (hk : k < n) (h1 : zo.getD k 0 ≤ eo.getD k 0) (h2 : k + 1 < n → eo.getD k 0 ≤ zo.getD (k + 1) 0) : Ord lo zo eo n (k + 1) := by
  have h3 := h.1 hk
  refine ⟨fun h4 => ?_, fun j hj => ?_⟩
  · have := h2 h4; omega
  · by_cases e : j = k
    · subst e; omega
    · exact h.2 j (by omega)
set_option maxRecDepth 100000 in
set_option maxHeartbeats 1000000 in
theorem main6 (lo ll z0 : Int) (b0 f0 b1 f1 b2 f2 b3 f3 n c0 c1 c2 c3 : Nat) (zo zl eo el : List Int) (w : World) (hz : 0 < n) (hn : n ≤ 4096) (hc0 : ∀ i, i < n → w.cell? ⟨b0, f0 + i, none⟩ = some (.int .u32 (zo.getD i 0))) (hc1 : ∀ i, i < n → w.cell? ⟨b1, f1 + i, none⟩ = some (.int .u32 (zl.getD i 0))) (hc2 : ∀ i, i < n → w.cell? ⟨b2, f2 + i, none⟩ = some (.int .u32 (eo.getD i 0))) (hc3 : ∀ i, i < n → w.cell? ⟨b3, f3 + i, none⟩ = some (.int .u32 (el.getD i 0))) (hr : rB lo ll = true) (hz0 : z0 = zo.getD 0 0) (hle : lo ≤ z0) :
    Calls Try.prog 3 #[.int .u32 lo, .int .u32 ll, .slice (some ⟨b0, f0, none⟩) n c0, .slice (some ⟨b1, f1, none⟩) n c1, .slice (some ⟨b2, f2, none⟩) n c2, .slice (some ⟨b3, f3, none⟩) n c3] w fun e w' => e = .returned (.bool true) ∧ Below w.heap.size w w' := by
  have HR := Lib.hid hr
  have x0 : w.cell? ⟨b0, f0, none⟩ = some (.int .u32 z0) := by rw [hz0]; exact hc0 0 hz
  have OS := Lib.hid (show Ord lo zo eo n 0 from ⟨fun _ => by rw [← hz0]; exact hle, fun j hj => absurd hj (Nat.not_lt_zero j)⟩)
  have HC := Lib.hid (And.intro hc0 (And.intro hc1 (And.intro hc2 hc3)))
  clear hc0 hc1 hc2 hc3 hr hz0
  have k2 : (0 : Int) < (n : Int) := by omega
  have e0 : ((n : Int) == 0) = false := by simp; omega
  have e1 : ((n : Int) != (n : Int)) = false := by simp
  have g0 : ¬ (4096 : Int) < (n : Int) := by omega
  have g1 : decide ((4096 : Int) < (n : Int)) = false := decide_eq_false g0
  go_enter Try.func3, Try.ntmps3
  go_wp2_with (first | (go_at_call 4; refine (bytes6 _ _ _ _ _ _ _ _ _ _ _ _ _ _ _ hn hn hn hn).mono ?_; rintro e w' ⟨rfl, rfl⟩) | (go_at_call 5; refine (reachT lo ll _ HR.out _).mono ?_; rintro e w' ⟨rfl, rfl⟩))
  clear x0
  go_loopw [14] (fun i wr => ∃ k : Nat, k ≤ n ∧ i = .int .i64 k ∧ Ord lo zo eo n k ∧ Below w.heap.size w wr) (fun i _ => n - (intOf i).toNat)
  case atStart => exact ⟨0, by omega, rfl, OS.out, by go_grown⟩
  case round =>
    obtain ⟨k, hk, rfl, hO, BW⟩ := hrel
    have HO := Lib.hid hO
    clear hO OS
    by_cases hlt : k < n
    · obtain ⟨x0, y0⟩ : ∃ x, x = zo.getD k 0 := ⟨_, rfl⟩
      obtain ⟨x1, y1⟩ : ∃ x, x = zl.getD k 0 := ⟨_, rfl⟩
      obtain ⟨x2, y2⟩ : ∃ x, x = eo.getD k 0 := ⟨_, rfl⟩
      obtain ⟨x3, y3⟩ : ∃ x, x = el.getD k 0 := ⟨_, rfl⟩
      have d0 := cell_later BW (HC.out.1 k hlt)
      have d1 := cell_later BW (HC.out.2.1 k hlt)
      have d2 := cell_later BW (HC.out.2.2.1 k hlt)
      have d3 := cell_later BW (HC.out.2.2.2 k hlt)
      rw [← y0] at d0
      rw [← y1] at d1
      rw [← y2] at d2
      rw [← y3] at d3
      have Y := Lib.hid (And.intro y0 y2)
      clear y0 y1 y2 y3
      have k1 : (0 : Int) ≤ (k : Int) := by omega
      have k2 : (k : Int) < (n : Int) := by omega
      cases r1 : rB x0 x1 with
      | false =>
        have R1 := Lib.hid r1
        have R2 := R1
        clear r1
        go_wp2
        go_quiet (first | (go_at_call_of 5 (Value.int IntKind.u32 x0); exact Calls.quiet_of_same (reachQ x0 x1 _ R1.out _)) | (go_at_call_of 5 (Value.int IntKind.u32 x2); exact Calls.quiet_of_same (reachQ x2 x3 _ R2.out _)))
        go_wp2
        go_ret
        exact ⟨rfl, by first | exact below_drewN BW _ | exact below_drewN (below_drewN BW _) _ | exact below_drewN (below_drewN (below_drewN BW _) _) _⟩
      | true =>
      have R1 := Lib.hid r1
      clear r1
      cases r2 : rB x2 x3 with
      | false =>
        have R2 := Lib.hid r2
        clear r2
        go_wp2
        go_quiet (first | (go_at_call_of 5 (Value.int IntKind.u32 x0); exact Calls.quiet_of_same (reachQ x0 x1 _ R1.out _)) | (go_at_call_of 5 (Value.int IntKind.u32 x2); exact Calls.quiet_of_same (reachQ x2 x3 _ R2.out _)))
        go_wp2
        go_ret
        exact ⟨rfl, by first | exact below_drewN BW _ | exact below_drewN (below_drewN BW _) _ | exact below_drewN (below_drewN (below_drewN BW _) _) _⟩
      | true =>
      have R2 := Lib.hid r2
      clear r2
      by_cases h3 : x2 < x0
      · go_wp2
        go_quiet (first | (go_at_call_of 5 (Value.int IntKind.u32 x0); exact Calls.quiet_of_same (reachQ x0 x1 _ R1.out _)) | (go_at_call_of 5 (Value.int IntKind.u32 x2); exact Calls.quiet_of_same (reachQ x2 x3 _ R2.out _)))
        go_wp2
        go_quiet (fail)
        go_wp2
        go_ret
        exact ⟨rfl, by first | exact below_drewN BW _ | exact below_drewN (below_drewN BW _) _ | exact below_drewN (below_drewN (below_drewN BW _) _) _⟩
      have u0 : x0 ≤ x2 := by omega
      by_cases h4 : k + 1 < n
      · obtain ⟨x4, y4⟩ : ∃ x, x = zo.getD (k + 1) 0 := ⟨_, rfl⟩
        have d4 := cell_later BW (HC.out.1 (k + 1) h4)
        rw [← y4] at d4
        have Y4 := Lib.hid y4
        clear y4
        have k3 : (k : Int) + 1 < (n : Int) := by omega
        have k4 : (0 : Int) ≤ (k : Int) + 1 := by omega
        have k5 : ((k : Int) + 1).toNat = k + 1 := by omega
        by_cases h5 : x4 < x2
        · have HK : IntKind.i64.wrap ((k : Int) + 1) = (k : Int) + 1 := IntWalk.i64_in _ (by omega)
          go_wp2
          go_quiet (first | (go_at_call_of 5 (Value.int IntKind.u32 x0); exact Calls.quiet_of_same (reachQ x0 x1 _ R1.out _)) | (go_at_call_of 5 (Value.int IntKind.u32 x2); exact Calls.quiet_of_same (reachQ x2 x3 _ R2.out _)))
          go_wp2
          go_quiet (fail)
          go_wp2
          go_quiet (fail)
          go_wp2
          go_ret
          exact ⟨rfl, by first | exact below_drewN BW _ | exact below_drewN (below_drewN BW _) _ | exact below_drewN (below_drewN (below_drewN BW _) _) _⟩
        · have u1 := Lib.hid (show x2 ≤ x4 by omega)
          have HK : IntKind.i64.wrap ((k : Int) + 1) = (k : Int) + 1 := IntWalk.i64_in _ (by omega)
          go_wp2
          go_quiet (first | (go_at_call_of 5 (Value.int IntKind.u32 x0); exact Calls.quiet_of_same (reachQ x0 x1 _ R1.out _)) | (go_at_call_of 5 (Value.int IntKind.u32 x2); exact Calls.quiet_of_same (reachQ x2 x3 _ R2.out _)))
          go_wp2
          go_quiet (fail)
          go_wp2
          go_quiet (fail)
          go_wp2
          go_roundw
          case rel => exact ⟨k + 1, by omega, by go_num, HO.out.step hlt (by rw [← Y.out.1, ← Y.out.2]; exact u0) (fun _ => by rw [← Y.out.2, ← Y4.out]; exact u1.out), by first | exact below_drewN BW _ | exact below_drewN (below_drewN BW _) _ | exact below_drewN (below_drewN (below_drewN BW _) _) _⟩
          case measure => simp [intOf]; omega
      · have k3 : ¬ (k : Int) + 1 < (n : Int) := by omega
        have k4 : decide ((k : Int) + 1 < (n : Int)) = false := decide_eq_false k3
        have HK : IntKind.i64.wrap ((k : Int) + 1) = (k : Int) + 1 := IntWalk.i64_in _ (by omega)
        go_wp2
        go_quiet (first | (go_at_call_of 5 (Value.int IntKind.u32 x0); exact Calls.quiet_of_same (reachQ x0 x1 _ R1.out _)) | (go_at_call_of 5 (Value.int IntKind.u32 x2); exact Calls.quiet_of_same (reachQ x2 x3 _ R2.out _)))
        go_wp2
        go_quiet (fail)
        go_wp2
        go_quiet (fail)
        go_wp2
        go_roundw
        case rel => exact ⟨k + 1, by omega, by go_num, HO.out.step hlt (by rw [← Y.out.1, ← Y.out.2]; exact u0) (fun h => absurd h h4), by first | exact below_drewN BW _ | exact below_drewN (below_drewN BW _) _ | exact below_drewN (below_drewN (below_drewN BW _) _) _⟩
        case measure => simp [intOf]; omega
    · obtain rfl : n = k := by omega
      have HOrd := Lib.hid HO.out.2
      clear HO hlt hk k2
      obtain ⟨W0, rfl⟩ : ∃ x : World, x = wr := ⟨_, rfl⟩
      have D0 := Lib.hid (show ∀ i, i < n → W0.cell? ⟨b0, f0 + i, none⟩ = some (.int .u32 (zo.getD i 0)) from fun i hi => cell_later BW (HC.out.1 i hi))
      have D1 := Lib.hid (show ∀ i, i < n → W0.cell? ⟨b1, f1 + i, none⟩ = some (.int .u32 (zl.getD i 0)) from fun i hi => cell_later BW (HC.out.2.1 i hi))
      have D2 := Lib.hid (show ∀ i, i < n → W0.cell? ⟨b2, f2 + i, none⟩ = some (.int .u32 (eo.getD i 0)) from fun i hi => cell_later BW (HC.out.2.2.1 i hi))
      have D3 := Lib.hid (show ∀ i, i < n → W0.cell? ⟨b3, f3 + i, none⟩ = some (.int .u32 (el.getD i 0)) from fun i hi => cell_later BW (HC.out.2.2.2 i hi))
      clear HC
      go_wp2_with fail
      refine (cp_pos b0 f0 n c0 zo _ hz (by omega) D0.out).mono ?_
      rintro e w' ⟨rfl, rfl⟩
      go_wp2_with fail
      refine (cp_pos b1 f1 n c1 zl _ hz (by omega) (fun i hi => cell_later (w := W0) (by go_grown) (D1.out i hi))).mono ?_
      rintro e w' ⟨rfl, rfl⟩
      go_wp2_with fail
      refine (cp_pos b2 f2 n c2 eo _ hz (by omega) (fun i hi => cell_later (w := W0) (by go_grown) (D2.out i hi))).mono ?_
      rintro e w' ⟨rfl, rfl⟩
      go_wp2_with fail
      refine (cp_pos b3 f3 n c3 el _ hz (by omega) (fun i hi => cell_later (w := W0) (by go_grown) (D3.out i hi))).mono ?_
      rintro e w' ⟨rfl, rfl⟩
      clear D0 D1 D2 D3
      go_wp2_with (first | (go_at_call 7; refine (mkPos _ _ _).mono ?_; rintro e w' ⟨rfl, rfl⟩) | (go_at_call 8; refine (newLet _ _ _).mono ?_; rintro e w' ⟨rfl, rfl⟩))
      have hszW := BW.size
      go_loopg [17] n (fun gk i wr => ∃ (k : Nat) (v : Value) (xs : List Value), k ≤ n ∧ gk = n - k ∧ i = .int .i64 k ∧ LS n k (W0.heap.size) (W0.heap.size + 1) (W0.heap.size + 1 + 1) (W0.heap.size + 1 + 1 + 1) (W0.heap.size + 1 + 1 + 1 + 1 + 1) (W0.heap.size + 1 + 1 + 1 + 1 + 1 + 1 + 1) zo zl eo el lo ll v xs wr ∧ Below w.heap.size w wr)
      case atStart => exact ⟨0, .slice none 0 0, [], by omega, rfl, rfl, ⟨RowAt.later (RowAt.copyAt .u32 W0 22 n zo (W0.heap.size) (by simp)) (by go_grown), RowAt.later (RowAt.copyAt .u32 (W0.alloc (.cells (cpL .u32 zo n n) 22)) 22 n zl (W0.heap.size + 1) (by simp)) (by go_grown), RowAt.later (RowAt.copyAt .u32 ((W0.alloc (.cells (cpL .u32 zo n n) 22)).alloc (.cells (cpL .u32 zl n n) 22)) 22 n eo (W0.heap.size + 1 + 1) (by simp)) (by go_grown), RowAt.later (RowAt.copyAt .u32 (((W0.alloc (.cells (cpL .u32 zo n n) 22)).alloc (.cells (cpL .u32 zl n n) 22)).alloc (.cells (cpL .u32 eo n n) 22)) 22 n el (W0.heap.size + 1 + 1 + 1) (by simp)) (by go_grown), by simp [go_sem], by simp [go_sem], by simp [go_sem], by simp [go_sem], by simp [go_sem], by simp [go_sem], World.ownsRow_nil _ _ _ _, by simp, by omega⟩, below_next BW (by go_grown)⟩
      case round =>
        clear BW
        obtain ⟨k, v, xs, hk, rfl, rfl, hLS, BW⟩ := hrel
        have HL := Lib.hid hLS
        have hszr := hLS.sz
        clear hLS
        by_cases hlt : k < n
        · obtain ⟨x0, y0⟩ : ∃ x, x = zo.getD k 0 := ⟨_, rfl⟩
          obtain ⟨x1, y1⟩ : ∃ x, x = zl.getD k 0 := ⟨_, rfl⟩
          obtain ⟨x2, y2⟩ : ∃ x, x = eo.getD k 0 := ⟨_, rfl⟩
          obtain ⟨x3, y3⟩ : ∃ x, x = el.getD k 0 := ⟨_, rfl⟩
          have d0 := HL.out.r0 k hlt
          have d1 := HL.out.r1 k hlt
          have d2 := HL.out.r2 k hlt
          have d3 := HL.out.r3 k hlt
          rw [← y0] at d0
          rw [← y1] at d1
          rw [← y2] at d2
          rw [← y3] at d3
          have hge := HOrd.out k hlt
          rw [← y2] at hge
          have HA := Lib.hid (show aB lo ll x2 = false by simp [aB]; omega)
          clear y0 y1 y2 y3 hge
          have k1 : (0 : Int) ≤ (k : Int) := by omega
          have k2 : (k : Int) < (n : Int) := by omega
          go_upto_region 30 with (fail)
          go_cut [18] (fun s W => ∃ ep : Nat, s = .pointer (some ⟨ep, 0, none⟩) ∧ wr.heap.size ≤ ep ∧ W.cell? ⟨ep, 0, none⟩ = some (.int .u32 x2) ∧ W.cell? ⟨ep, 1, none⟩ = some (.int .u32 x3) ∧ Below wr.heap.size wr W)
          case first =>
            go_region_held3 (fun V => V.cell? ⟨W0.heap.size + 1 + 1, k, none⟩ = some (.int .u32 x2) ∧ V.cell? ⟨W0.heap.size + 1 + 1 + 1, k, none⟩ = some (.int .u32 x3)) (exact ⟨cell_later (w := wr) (by go_grown) d2, cell_later (w := wr) (by go_grown) d3⟩) (first | (go_at_call 7; refine (mkPos _ _ _).mono ?_; rintro e w' ⟨rfl, rfl⟩))
            all_goals
              go_wp2_with fail
              go_meet
              exact ⟨_, rfl, by simp, by simp [go_sem], by simp [go_sem], by go_grown⟩
          case rest =>
          obtain ⟨ep, rfl, hep, p0, p1, bc⟩ := hcut
          have HL1 := Lib.hid (HL.out.later bc)
          have hown : v.ownBlock ≠ some ep := fun e => by have := (HL.out.own.lt ep e).2; omega
          have HN := Lib.hid hown
          have hneL : ep ≠ W0.heap.size + 1 + 1 + 1 + 1 + 1 + 1 + 1 := by have := lt_of_cell HL.out.l2; omega
          have BW1 := below_next BW bc
          have s0 := cell_later bc d0
          have s1 := cell_later bc d1
          clear d0 d1 d2 d3 bc HL hown BW
          obtain ⟨X, rfl⟩ : ∃ x : World, x = wc := ⟨_, rfl⟩
          go_wp2_with fail
          refine wp_region_G (L := 11) (S := fun V => V.cell? ⟨W0.heap.size, k, none⟩ = some (.int .u32 x0) ∧ V.cell? ⟨W0.heap.size + 1, k, none⟩ = some (.int .u32 x1) ∧ V.cell? ⟨ep, 0, none⟩ = some (.int .u32 x2) ∧ V.cell? ⟨ep, 1, none⟩ = some (.int .u32 x3)) (by kernel_rfl) ?_
          have hS : (fun V => V.cell? ⟨W0.heap.size, k, none⟩ = some (.int .u32 x0) ∧ V.cell? ⟨W0.heap.size + 1, k, none⟩ = some (.int .u32 x1) ∧ V.cell? ⟨ep, 0, none⟩ = some (.int .u32 x2) ∧ V.cell? ⟨ep, 1, none⟩ = some (.int .u32 x3)) X.drew := ⟨cell_later (w := X) (by go_grown) s0, cell_later (w := X) (by go_grown) s1, cell_later (w := X) (by go_grown) p0, cell_later (w := X) (by go_grown) p1⟩
          refine' wpAnyG_take (i := 0) (oi := ⟨some 155, _, _, _, _, _⟩) (v := _) rfl (by kernel_rfl) (by kernel_rfl) (by kernel_rfl) (by kernel_rfl) (by kernel_rfl) (by kernel_rfl) (fun _ _ _ h => h) (Or.inl ⟨by rfl, ?_⟩) hS ?_
          rotate_left
          · intro w hSw
            obtain ⟨z1, z2, z3, z4⟩ := hSw
            go_simp
            try with_reducible rfl
          try simp only [Act.put, List.setIfInBounds_toArray, List.set_cons_zero, List.set_cons_succ]
          refine' wpAnyG_take (i := 1) (oi := ⟨some 156, _, _, _, _, _⟩) (v := _) rfl (by kernel_rfl) (by kernel_rfl) (by kernel_rfl) (by kernel_rfl) (by kernel_rfl) (by kernel_rfl) (fun _ _ _ h => h) (Or.inl ⟨by rfl, ?_⟩) hS ?_
          rotate_left
          · intro w hSw
            obtain ⟨z1, z2, z3, z4⟩ := hSw
            go_simp
            try with_reducible rfl
          try simp only [Act.put, List.setIfInBounds_toArray, List.set_cons_zero, List.set_cons_succ]
          refine' wpAnyG_take (i := 2) (oi := ⟨some 157, _, _, _, _, _⟩) (v := _) rfl (by kernel_rfl) (by kernel_rfl) (by kernel_rfl) (by kernel_rfl) (by kernel_rfl) (by kernel_rfl) (fun _ _ _ h => h) (Or.inl ⟨by rfl, ?_⟩) hS ?_
          rotate_left
          · intro w hSw
            obtain ⟨z1, z2, z3, z4⟩ := hSw
            go_simp
            try with_reducible rfl
          try simp only [Act.put, List.setIfInBounds_toArray, List.set_cons_zero, List.set_cons_succ]
          refine' wpAnyG_take (i := 3) (oi := ⟨some 158, _, _, _, _, _⟩) (v := _) rfl (by kernel_rfl) (by kernel_rfl) (by kernel_rfl) (by kernel_rfl) (by kernel_rfl) (by kernel_rfl) (fun _ _ _ h => h) (Or.inl ⟨by rfl, ?_⟩) hS ?_
          rotate_left
          · intro w hSw
            obtain ⟨z1, z2, z3, z4⟩ := hSw
            go_simp
            try with_reducible rfl
          try simp only [Act.put, List.setIfInBounds_toArray, List.set_cons_zero, List.set_cons_succ]
          refine' wpAnyG_take (i := 4) (oi := ⟨some 159, _, _, _, _, _⟩) (v := _) rfl (by kernel_rfl) (by kernel_rfl) (by kernel_rfl) (by kernel_rfl) (by kernel_rfl) (by kernel_rfl) (fun _ _ _ h => h) (Or.inl ⟨by rfl, ?_⟩) hS ?_
          rotate_left
          · intro w hSw
            obtain ⟨z1, z2, z3, z4⟩ := hSw
            go_simp
            try with_reducible rfl
          try simp only [Act.put, List.setIfInBounds_toArray, List.set_cons_zero, List.set_cons_succ]
          refine' wpAnyG_take (i := 5) (oi := ⟨some 160, _, _, _, _, _⟩) (v := _) rfl (by kernel_rfl) (by kernel_rfl) (by kernel_rfl) (by kernel_rfl) (by kernel_rfl) (by kernel_rfl) (fun _ _ _ h => h) (Or.inl ⟨by rfl, ?_⟩) hS ?_
          rotate_left
          · intro w hSw
            obtain ⟨z1, z2, z3, z4⟩ := hSw
            go_simp
            try with_reducible rfl
          try simp only [Act.put, List.setIfInBounds_toArray, List.set_cons_zero, List.set_cons_succ]
          refine' wpAnyG_take (i := 6) (oi := ⟨some 161, _, _, _, _, _⟩) (v := _) rfl (by kernel_rfl) (by kernel_rfl) (by kernel_rfl) (by kernel_rfl) (by kernel_rfl) (by kernel_rfl) (fun _ _ _ h => h) (Or.inl ⟨by rfl, ?_⟩) hS ?_
          rotate_left
          · intro w hSw
            obtain ⟨z1, z2, z3, z4⟩ := hSw
            go_simp
            try with_reducible rfl
          try simp only [Act.put, List.setIfInBounds_toArray, List.set_cons_zero, List.set_cons_succ]
          refine' wpAnyG_take (i := 7) (oi := ⟨some 162, _, _, _, _, _⟩) (v := _) rfl (by kernel_rfl) (by kernel_rfl) (by kernel_rfl) (by kernel_rfl) (by kernel_rfl) (by kernel_rfl) (fun _ _ _ h => h) (Or.inl ⟨by rfl, ?_⟩) hS ?_
          rotate_left
          · intro w hSw
            obtain ⟨z1, z2, z3, z4⟩ := hSw
            go_simp
            try with_reducible rfl
          try simp only [Act.put, List.setIfInBounds_toArray, List.set_cons_zero, List.set_cons_succ]
          refine' wpAnyG_take (i := 8) (oi := ⟨some 163, _, _, _, _, _⟩) (v := _) rfl (by kernel_rfl) (by kernel_rfl) (by kernel_rfl) (by kernel_rfl) (by kernel_rfl) (by kernel_rfl) (fun _ _ _ h => h) (Or.inl ⟨by rfl, ?_⟩) hS ?_
          rotate_left
          · intro w hSw
            obtain ⟨z1, z2, z3, z4⟩ := hSw
            go_simp
            try with_reducible rfl
          try simp only [Act.put, List.setIfInBounds_toArray, List.set_cons_zero, List.set_cons_succ]
          refine' wpAnyG_take (i := 10) (oi := ⟨some 165, _, _, _, _, _⟩) (v := _) rfl (by kernel_rfl) (by kernel_rfl) (by kernel_rfl) (by kernel_rfl) (by kernel_rfl) (by kernel_rfl) (fun _ _ _ h => h) (Or.inl ⟨by rfl, ?_⟩) hS ?_
          rotate_left
          · intro w hSw
            obtain ⟨z1, z2, z3, z4⟩ := hSw
            go_simp
            try with_reducible rfl
          try simp only [Act.put, List.setIfInBounds_toArray, List.set_cons_zero, List.set_cons_succ]
          refine wpAnyG_one (i := 9) (o := ⟨some 164, _, _, _, _, _⟩) (by kernel_rfl) rfl (fun K hK => ?_)
          go_simp
          go_at_call 7
          refine (mkPos _ _ _).mono ?_
          rintro e w' ⟨rfl, rfl⟩
          try go_simp
          clear hS
          refine hK.out _ _ (fun _ => ⟨cell_later (w := X) (by go_grown) s0, cell_later (w := X) (by go_grown) s1, cell_later (w := X) (by go_grown) p0, cell_later (w := X) (by go_grown) p1⟩) (fun hS => ?_)
          replace hS := hS (by decide)
          clear hK K
          try simp only [Act.put, List.setIfInBounds_toArray, List.set_cons_zero, List.set_cons_succ]
          refine wpAnyG_one (i := 11) (o := ⟨some 166, _, _, _, _, _⟩) (by kernel_rfl) rfl (fun K hK => ?_)
          go_simp
          go_at_call 9
          refine (append (W0.heap.size + 1 + 1 + 1 + 1 + 1 + 1 + 1) (W0.heap.size + 1 + 1 + 1 + 1 + 1 + 1 + 1 + 1) k x0 x1 x2 x3 v xs _ (by omega) (by have := HL1.out.sz; simp; omega) (by omega) (HL1.out.later (by go_grown)).l2 (HL1.out.later (by go_grown)).fz (HL1.out.later (by go_grown)).own).mono ?_
          rintro e w2 hA
          obtain ⟨rfl, g2, cap, wb, pb, tb, xs', hLS, hAf, hfar, hbl⟩ := (HL1.out.later (by go_grown)).app hA (m := W0.heap.size) (by omega)
          clear hA
          try go_simp
          refine hK.out _ _ (fun h => absurd rfl h) (fun _ => ?_)
          clear hK K
          refine wpAnyG_done (by kernel_rfl) ?_ _
          have q0 := hfar ep 0 _ HN.out hneL (cell_later (w := X) (by go_grown) p0)
          have q1 := hfar ep 1 _ HN.out hneL (cell_later (w := X) (by go_grown) p1)
          have HL2 := Lib.hid hLS
          have HF2 := Lib.hid hAf
          have BX := Lib.hid (show Below w.heap.size w w2 from Below.trans (below_next BW1 (by go_grown)) (Below.mono hbl hszW))
          clear hLS hAf hfar hbl s0 s1 p0 p1 HL1 hS BW1 HN
          have t0 := HL2.out.l0
          have t1 := HL2.out.l1
          have t2 := HL2.out.p0
          have t3 := HL2.out.p1
          go_wp2_with fail
          refine wp_world (fun V => Below w2.heap.size w2 V) (Below.refl _ _) ?_
          rintro Y bY
          replace t0 := cell_later bY t0
          replace t1 := cell_later bY t1
          replace t2 := cell_later bY t2
          replace t3 := cell_later bY t3
          go_region_held3 (fun V => V.cell? ⟨W0.heap.size + 1 + 1 + 1 + 1 + 1 + 1 + 1, 0, none⟩ = some (.int .u32 lo) ∧ V.cell? ⟨W0.heap.size + 1 + 1 + 1 + 1 + 1 + 1 + 1, 1, none⟩ = some (.int .u32 ll) ∧ V.cell? ⟨W0.heap.size + 1 + 1 + 1 + 1 + 1, 0, none⟩ = some (.int .u32 lo) ∧ V.cell? ⟨W0.heap.size + 1 + 1 + 1 + 1 + 1, 1, none⟩ = some (.int .u32 ll)) (exact ⟨cell_later (w := Y) (by go_grown) t0, cell_later (w := Y) (by go_grown) t1, cell_later (w := Y) (by go_grown) t2, cell_later (w := Y) (by go_grown) t3⟩) (first | (go_at_call 10; refine (letPos _ lo ll _ (cell_later (w := Y) (by go_grown) t0) (cell_later (w := Y) (by go_grown) t1)).mono ?_; rintro e w' ⟨rfl, rfl⟩))
          go_wp2_with fail
          refine wp_world (fun V => Below Y.heap.size Y V) (by go_grown) ?_
          rintro Z bZ
          have bZ2 := below_next bY bZ
          have HF3 := Lib.hid (HF2.out.later bZ2)
          have HL3 := Lib.hid (HL2.out.later bZ2)
          have BZ := Lib.hid (below_next BX.out bZ2)
          replace q0 := cell_later bZ2 q0
          replace q1 := cell_later bZ2 q1
          clear bY bZ bZ2 t0 t1 t2 t3 HF2 HL2 BX
          refine wp_region_G (L := 3) (S := fun V => V.cell? ⟨ep, 0, none⟩ = some (.int .u32 x2) ∧ V.cell? ⟨ep, 1, none⟩ = some (.int .u32 x3)) (by kernel_rfl) ?_
          have hS : (fun V => V.cell? ⟨ep, 0, none⟩ = some (.int .u32 x2) ∧ V.cell? ⟨ep, 1, none⟩ = some (.int .u32 x3)) Z.drew := ⟨cell_later (w := Z) (by go_grown) q0, cell_later (w := Z) (by go_grown) q1⟩
          refine' wpAnyG_take (i := 0) (oi := ⟨some 171, _, _, _, _, _⟩) (v := _) rfl (by kernel_rfl) (by kernel_rfl) (by kernel_rfl) (by kernel_rfl) (by kernel_rfl) (by kernel_rfl) (fun _ _ _ h => h) (Or.inl ⟨by rfl, ?_⟩) hS ?_
          rotate_left
          · intro w hSw
            obtain ⟨z1, z2⟩ := hSw
            go_simp
            try with_reducible rfl
          try simp only [Act.put, List.setIfInBounds_toArray, List.set_cons_zero, List.set_cons_succ]
          refine' wpAnyG_take (i := 2) (oi := ⟨some 173, _, _, _, _, _⟩) (v := _) rfl (by kernel_rfl) (by kernel_rfl) (by kernel_rfl) (by kernel_rfl) (by kernel_rfl) (by kernel_rfl) (fun _ _ _ h => h) (Or.inl ⟨by rfl, ?_⟩) hS ?_
          rotate_left
          · intro w hSw
            obtain ⟨z1, z2⟩ := hSw
            go_simp
            try with_reducible rfl
          try simp only [Act.put, List.setIfInBounds_toArray, List.set_cons_zero, List.set_cons_succ]
          refine wpAnyG_one (i := 1) (o := ⟨some 172, _, _, _, _, _⟩) (by kernel_rfl) rfl (fun K hK => ?_)
          go_simp
          go_at_call 11
          refine (lEnd (W0.heap.size + 1 + 1 + 1 + 1 + 1 + 1 + 1) g2 wb k cap pb tb x2 x3 (by omega) _ (HF3.out.later (by go_grown)).a0 (HF3.out.later (by go_grown)).a1 (HF3.out.later (by go_grown)).a2 (HF3.out.later (by go_grown)).a3 (HF3.out.later (by go_grown)).a4 (HF3.out.later (by go_grown)).a5).mono ?_
          rintro e w3 ⟨rfl, hb1⟩
          try go_simp
          clear hS
          refine hK.out _ _ (fun _ => ⟨cell_later hb1 (cell_later (w := Z) (by go_grown) q0), cell_later hb1 (cell_later (w := Z) (by go_grown) q1)⟩) (fun hS => ?_)
          replace hS := hS (by decide)
          clear hK K
          try simp only [Act.put, List.setIfInBounds_toArray, List.set_cons_zero, List.set_cons_succ]
          refine wpAnyG_one (i := 3) (o := ⟨some 174, _, _, _, _, _⟩) (by kernel_rfl) rfl (fun K hK => ?_)
          go_simp
          refine hK.out _ _ (fun h => absurd rfl h) (fun _ => ?_)
          clear hK K
          refine wpAnyG_done (by kernel_rfl) ?_ _
          have b3 : Below Z.heap.size Z w3 := below_next (by go_grown) hb1
          have HF4 := Lib.hid (HF3.out.later b3)
          have HL4 := Lib.hid (HL3.out.later b3)
          have B4 := Lib.hid (below_next BZ.out b3)
          clear q0 q1 HF3 HL3 BZ b3 hb1 hS
          go_wp2_with fail
          refine (letPos _ lo ll _ HL4.out.l0 HL4.out.l1).mono ?_
          rintro e w4 ⟨rfl, h4⟩
          have b4 : Below w3.heap.size w3 w4 := by rw [← h4]; go_grown
          have HF5 := Lib.hid (HF4.out.later b4)
          have HL5 := Lib.hid (HL4.out.later b4)
          have B5 := Lib.hid (below_next B4.out b4)
          clear h4 b4 HF4 HL4 B4
          go_wp2_with fail
          refine (lEnd (W0.heap.size + 1 + 1 + 1 + 1 + 1 + 1 + 1) g2 wb k cap pb tb x2 x3 (by omega) _ HF5.out.a0 HF5.out.a1 HF5.out.a2 HF5.out.a3 HF5.out.a4 HF5.out.a5).mono ?_
          rintro e w5 ⟨rfl, b5⟩
          have HL6 := Lib.hid (HL5.out.later b5)
          have B6 := Lib.hid (below_next B5.out b5)
          clear b5 HF5 HL5 B5
          go_wp2_with fail
          refine (after lo ll x2 x3 _).mono ?_
          rintro e w6 ⟨rfl, h6⟩
          have b6 : Below w5.heap.size w5 w6 := by rw [← h6]; go_grown
          have HL7 := Lib.hid (HL6.out.later b6)
          have B7 := Lib.hid (below_next B6.out b6)
          clear h6 b6 HL6 B6
          rw [HA.out]
          go_wp2
          go_roundg (n - (k + 1))
          case measure => omega
          case rel => exact ⟨k + 1, _, _, by omega, rfl, by go_num, HL7.out, B7.out⟩
        · obtain rfl : n = k := by omega
          go_wp2
          go_ret
          exact ⟨rfl, BW⟩
end Go.Proofs.Ytlaihlpokpeahaa.letc
