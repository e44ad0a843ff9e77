/-
  preNested and postNested: unwinding restores each level's quote and buried count: the law.
-/
import Derived.Test.YtccnpgmceoojmacPreB
import Derived.Deep.DeepCutAuto
import Derived.Deep.LoopGhost
namespace Go.Proofs.Ytccnpgmceoojmac.nest
open Go.RowKit
open Go.Proofs.Ytccnpgmceoojmac

set_option maxRecDepth 100000 in
set_option maxHeartbeats 1000000 in
theorem longer0 (a0 a1 : Option Addr) (n0 n1 c0 c1 : Nat) (w : World) (m0 : n0 ≤ 9223372036854775807) (m1 : n1 ≤ 9223372036854775807) (hk : 4096 < n0) : Calls Try.prog 7 #[.slice a0 n0 c0, .slice a1 n1 c1] w fun e w' => e = .returned (.bool true) ∧ Below w.heap.size w w' := by
  have g0 : (4096 : Int) < (n0 : Int) := by omega
  go_enter Try.func7, Try.ntmps7
  go_wp2_with (go_at_call 25; go_in)
  all_goals
    go_ret
    exact ⟨rfl, Below.refl _ _⟩
set_option maxRecDepth 100000 in
set_option maxHeartbeats 1000000 in
theorem longer1 (a0 a1 : Option Addr) (n0 n1 c0 c1 : Nat) (w : World) (m0 : n0 ≤ 4096) (m1 : n1 ≤ 9223372036854775807) (hk : 4096 < n1) : Calls Try.prog 7 #[.slice a0 n0 c0, .slice a1 n1 c1] w fun e w' => e = .returned (.bool true) ∧ Below w.heap.size w w' := by
  have g0 : decide ((4096 : Int) < (n0 : Int)) = false := decide_eq_false (by omega)
  have g1 : (4096 : Int) < (n1 : Int) := by omega
  go_enter Try.func7, Try.ntmps7
  go_wp2_with (go_at_call 25; go_in)
  all_goals
    go_ret
    exact ⟨rfl, Below.refl _ _⟩
/-- The state of the law's loops. -/
structure St (w : World) (p g1 g2 g3 B : Nat) (a0 a1 : Option Addr) (n m k : Nat) (za zb : List Int) (Qf Bf : Nat → Int) (v : Value) (h : Nat) (xs : List Value) : Prop where
  hp : HP w p B (Qf m) (Bf m) v h xs
  r1 : RowF .u32 w g1 (fun j => j) n k Qf
  r2 : RowF .i64 w g2 (fun j => j) n k Bf
  r3 : RowF .u32 w g3 (fun j => j * 2) n k Qf
  r4 : RowF .i64 w g3 (fun j => j * 2 + 1) n k Bf
  sa : Sl w p a0 n za
  sb : Sl w p a1 n zb
theorem St.drewN {w : World} {p g1 g2 g3 B : Nat} {a0 a1 : Option Addr} {n m k : Nat} {za zb : List Int} {Qf Bf : Nat → Int} {v : Value} {h : Nat} {xs : List Value} (s : St w p g1 g2 g3 B a0 a1 n m k za zb Qf Bf v h xs) (q : Nat) : St (w.drewN q) p g1 g2 g3 B a0 a1 n m k za zb Qf Bf v h xs :=
  ⟨s.hp.later (below_drewN (Below.refl _ _) _), ⟨s.r1.c, s.r1.z⟩, ⟨s.r2.c, s.r2.z⟩, ⟨s.r3.c, s.r3.z⟩, ⟨s.r4.c, s.r4.z⟩, ⟨s.sa.row⟩, ⟨s.sb.row⟩⟩
def upd (f : Nat → Int) (k : Nat) (x : Int) : Nat → Int := fun j => if j = k then x else f j
theorem Sl.copied (w : World) (n : Nat) (zs : List Int) : Sl (w.alloc (.cells (cpL .u8 zs n n) 5)) (w.alloc (.cells (cpL .u8 zs n n) 5)).heap.size (some ⟨w.heap.size, 0, none⟩) n zs :=
  ⟨fun i hi => ⟨w.heap.size, 0, rfl, by simp, by rw [Nat.zero_add]; exact RowAt.copy .u8 w 5 n zs i hi⟩⟩
theorem Sl.less {w : World} {M : Nat} {a : Option Addr} {n m : Nat} {zs : List Int} (h : Sl w M a n zs) (hm : m ≤ n) : Sl w M a m zs := ⟨fun i hi => h.row i (by omega)⟩
theorem RowF.congr {K : IntKind} {w : World} {g : Nat} {o : Nat → Nat} {n k : Nat} {f f' : Nat → Int} (h : RowF K w g o n k f) (hf : ∀ j, j < k → f' j = f j) : RowF K w g o n k f' :=
  ⟨fun j hj => by
    rw [h.c j hj]
    by_cases e : j < k
    · simp [e, hf j e]
    · simp [e], h.z⟩
theorem RowF.full {K : IntKind} {w : World} {g : Nat} {o : Nat → Nat} {n : Nat} {f : Nat → Int} (h : RowF K w g o n n f) {j : Nat} (hj : j < n) : w.cell? ⟨g, o j, none⟩ = some (.int K (f j)) := by
  rw [h.c j hj, if_pos hj]
theorem zquoteQ (p : Nat) (Q : Int) (w : World) (h : w.cell? ⟨p, 17, none⟩ = some (.int .u32 Q)) : Calls Try.prog 28 #[.pointer (some ⟨p, 0, none⟩)] w fun e w' => e = .returned (.int .u32 Q) ∧ w' = w := (zquote p Q w h).mono fun _ _ ⟨h1, h2⟩ => ⟨h1, h2.symm⟩
theorem zburiedQ (p : Nat) (Q : Int) (w : World) (h : w.cell? ⟨p, 25, none⟩ = some (.int .i64 Q)) : Calls Try.prog 29 #[.pointer (some ⟨p, 0, none⟩)] w fun e w' => e = .returned (.int .i64 Q) ∧ w' = w := (zburied p Q w h).mono fun _ _ ⟨h1, h2⟩ => ⟨h1, h2.symm⟩
theorem upd_same (f : Nat → Int) (k : Nat) (x : Int) : upd f k x k = x := by simp [upd]
theorem upd_lt (f : Nat → Int) (k : Nat) (x : Int) (j : Nat) (h : j < k) : upd f k x j = f j := by simp [upd]; omega
set_option maxRecDepth 100000 in
set_option maxHeartbeats 2000000 in
theorem main18 (a0 a1 : Option Addr) (n0 n1 c0 c1 n : Nat) (za zb : List Int) (w : World) (h0 : n0 ≤ 4096) (h1 : n1 ≤ 4096) (ra : IsRowB .u8 w a0 n0 c0 za) (rb : IsRowB .u8 w a1 n1 c1 zb) (hn0 : n ≤ n0) (hn1 : n ≤ n1) (hmin : (n1 < n0 ∧ n = n1) ∨ (¬ n1 < n0 ∧ n = n0)) : Calls Try.prog 7 #[.slice a0 n0 c0, .slice a1 n1 c1] w fun e w' => e = .returned (.bool true) ∧ Below w.heap.size w w' := by
  have SA := Lib.hid (Sl.ofRow ra)
  have SB := Lib.hid (Sl.ofRow rb)
  have ZA := Lib.hid (row_bd ra)
  have ZB := Lib.hid (row_bd rb)
  have HMin := Lib.hid hmin
  have HM := Lib.hid (fun k => hn_mono za k)
  have HLe := Lib.hid (hn_le za (fun j => (row_bd ra j).2))
  have g0 : ¬ (4096 : Int) < (n0 : Int) := by omega
  have g1 : decide ((4096 : Int) < (n0 : Int)) = false := decide_eq_false g0
  have g2 : ¬ (4096 : Int) < (n1 : Int) := by omega
  clear ra rb hmin
  go_enter Try.func7, Try.ntmps7
  go_upto_if 39 with (go_at_call 25; refine (bytes18 _ _ _ _ _ _ _ h0 h1).mono ?_; rintro e w' ⟨rfl, rfl⟩)
  go_cut [5] (fun s W => s = .int .i64 (n : Int) ∧ w = W)
  case first =>
    rcases HMin.out with ⟨q, e⟩ | ⟨q, e⟩
    · have q' : (n1 : Int) < (n0 : Int) := by omega
      subst e
      go_wp2_with fail
      go_meet
      case rel => exact ⟨rfl, rfl⟩
    · have q' : ¬ (n1 : Int) < (n0 : Int) := by omega
      subst e
      go_wp2_with fail
      go_meet
      case rel => exact ⟨rfl, rfl⟩
  case rest =>
  obtain ⟨rfl, rfl⟩ := hcut
  go_wp2_with fail
  go_loopw [6, 7] (fun s i wr => ∃ k : Nat, k ≤ n ∧ i = .int .i64 k ∧ s = .int .i64 ((hn za k : Nat) : Int) ∧ w = wr) (fun _ i _ => n - (intOf i).toNat)
  case atStart => exact ⟨0, by omega, rfl, rfl, rfl⟩
  case round =>
    obtain ⟨k, hk, rfl, rfl, rfl⟩ := hrel
    have hb1 := HLe.out k
    by_cases hlt : k < n
    · obtain ⟨b, off, ea, _, c1⟩ := SA.out.row k (by omega)
      have hz := ZA.out k
      obtain ⟨x, hx⟩ : ∃ x : Nat, za.getD k 0 = (x : Int) := ⟨(za.getD k 0).toNat, by omega⟩
      have HS := Lib.hid (show hn za (k + 1) = hn za k + x by simp only [hn]; omega)
      rw [hx] at c1 hz
      clear hx
      subst ea
      have k1 : (k : Int) < (n : Int) := by omega
      have k2 : (k : Int) < (n0 : Int) := by omega
      go_wp2
      go_roundw
      case rel => exact ⟨k + 1, by omega, by go_num, by rw [HS.out]; go_num, by simp⟩
      case measure => simp [intOf]; omega
    · obtain rfl : n = k := by omega
      clear hb1 hk hlt
      by_cases hs : 65536 < hn za n
      · have q : (65536 : Int) < ((hn za n : Nat) : Int) := by omega
        go_wp2
        go_ret
        exact ⟨rfl, Below.refl _ _⟩
      have q : ¬ (65536 : Int) < ((hn za n : Nat) : Int) := by omega
      have hq := fun (w' : World) => run_neq_slice_nil_any (P := Try.prog) w' 25 5 a0 n0 c0 0 0 Try.underlying25
      go_upto_if 57 with (fail)
      clear hq
      go_cut [0] (fun s W => ∃ a c, s = .slice a n0 c ∧ Sl W W.heap.size a n0 za ∧ Below w.heap.size w W)
      case first =>
        cases a0 with
        | none =>
          go_wp2_with fail
          go_meet
          case rel => exact ⟨none, c0, rfl, SA.out, Below.refl _ _⟩
        | some x =>
          have hmk := mkU n0 za h0
          go_wp2
          clear hmk
          go_loopw [9] (fun i wr => ∃ j : Nat, j ≤ n0 ∧ i = .int .i64 j ∧ wr = w.alloc (.cells (cpL .u8 za n0 j) 5)) (fun i _ => n0 - (intOf i).toNat)
          case atStart => exact ⟨0, by omega, rfl, rfl⟩
          case round =>
            obtain ⟨j, hj, rfl, rfl⟩ := hrel
            by_cases hjl : j < n0
            · obtain ⟨b, off, ea, _, c1⟩ := SA.out.row j hjl
              obtain rfl : x = ⟨b, off, none⟩ := by simpa using ea
              clear ea
              have hlt := lt_of_cell c1
              have c2 : (cpL .u8 za n0 j)[j]? = some (.int .u8 0) := by rw [cpL_get .u8 za n0 j j hjl]; simp
              have hS := cpL_set .u8 za n0 j hjl
              obtain ⟨zj, hzj⟩ : ∃ y, y = za.getD j 0 := ⟨_, rfl⟩
              rw [← hzj] at c1 hS
              have HS := Lib.hid hS
              clear hS hzj
              go_wp2
              go_roundw
              case rel => exact ⟨j + 1, by omega, by go_num, by rw [← HS.out]⟩
              case measure => simp [intOf]; omega
            · obtain rfl : n0 = j := by omega
              go_wp2_with fail
              go_meet
              case rel => exact ⟨_, _, rfl, Sl.copied _ _ _, by go_grown⟩
      case rest =>
      obtain ⟨x0, d0, rfl, hSA, BW⟩ := hcut
      have SA1 := Lib.hid hSA
      have SB1 := Lib.hid (SB.out.later BW)
      clear hSA SA SB
      obtain ⟨W0, rfl⟩ : ∃ x : World, x = wc := ⟨_, rfl⟩
      have SB2 := Lib.hid (SB1.out.top (Nat.le_refl _))
      clear SB1
      have hq := fun (w' : World) => run_neq_slice_nil_any (P := Try.prog) w' 25 5 a1 n1 c1 0 0 Try.underlying25
      go_upto_if 76 with (fail)
      clear hq
      go_cut [1] (fun s W => ∃ a c, s = .slice a n1 c ∧ Sl W W.heap.size a n1 zb ∧ Below W0.heap.size W0 W)
      case first =>
        cases a1 with
        | none =>
          go_wp2_with fail
          go_meet
          case rel => exact ⟨none, c1, rfl, SB2.out, Below.refl _ _⟩
        | some x =>
          have hmk := mkU n1 zb h1
          go_wp2
          clear hmk
          go_loopw [11] (fun i wr => ∃ j : Nat, j ≤ n1 ∧ i = .int .i64 j ∧ wr = W0.alloc (.cells (cpL .u8 zb n1 j) 5)) (fun i _ => n1 - (intOf i).toNat)
          case atStart => exact ⟨0, by omega, rfl, rfl⟩
          case round =>
            obtain ⟨j, hj, rfl, rfl⟩ := hrel
            by_cases hjl : j < n1
            · obtain ⟨b, off, ea, _, c1⟩ := SB2.out.row j hjl
              obtain rfl : x = ⟨b, off, none⟩ := by simpa using ea
              clear ea
              have hlt := lt_of_cell c1
              have c2 : (cpL .u8 zb n1 j)[j]? = some (.int .u8 0) := by rw [cpL_get .u8 zb n1 j j hjl]; simp
              have hS := cpL_set .u8 zb n1 j hjl
              obtain ⟨zj, hzj⟩ : ∃ y, y = zb.getD j 0 := ⟨_, rfl⟩
              rw [← hzj] at c1 hS
              have HS := Lib.hid hS
              clear hS hzj
              go_wp2
              go_roundw
              case rel => exact ⟨j + 1, by omega, by go_num, by rw [← HS.out]⟩
              case measure => simp [intOf]; omega
            · obtain rfl : n1 = j := by omega
              go_wp2_with fail
              go_meet
              case rel => exact ⟨_, _, rfl, Sl.copied _ _ _, by go_grown⟩
      case rest =>
      obtain ⟨x1, d1, rfl, hSB, bc⟩ := hcut
      have SA2 := Lib.hid (((SA1.out.later bc).top (Nat.le_refl _)).less hn0)
      have SB3 := Lib.hid (hSB.less hn1)
      have BW1 := below_next BW bc
      clear hSB SA1 SB2 BW bc
      obtain ⟨W1, rfl⟩ : ∃ x : World, x = wc := ⟨_, rfl⟩
      go_wp2_with fail
      refine (newP W1).mono ?_
      rintro e W2 ⟨rfl, p17, p25, p26, pf, psz, pb⟩
      have PF := Lib.hid pf
      have hpl := lt_of_cell p17
      have SA := Lib.hid (SA2.out.later pb)
      have SB := Lib.hid (SB3.out.later pb)
      have BW2 := below_next BW1 pb
      have hwp := BW1.size
      clear pf psz pb BW1 SA2 SB3
      obtain ⟨p, hp⟩ : ∃ p, p = W1.heap.size := ⟨_, rfl⟩
      rw [← hp] at p17 p25 p26 PF hpl SA SB hwp
      rw [← hp]
      clear hp
      have hmq := mkQ n (by omega)
      have hmb := mkB n (by omega)
      have hms := mkS n (by omega)
      go_wp2
      clear hmq hmb hms
      go_loopg [16, 17] n (fun gk s16 s17 wr => ∃ (k : Nat) (lb : Int) (v : Value) (xs : List Value) (Qf Bf : Nat → Int), k ≤ n ∧ gk = n - k ∧ s17 = .int .i64 k ∧ s16 = .int .i64 lb ∧ lb ≤ ((hn za k : Nat) : Int) ∧ St wr p (W2.heap.size) (W2.heap.size + 1) (W2.heap.size + 1 + 1) (W2.heap.size + 1 + 1 + 1) x0 x1 n k k za zb Qf Bf v (hn za k) xs ∧ Below w.heap.size w wr)
      case atStart => exact ⟨0, -1, .slice none 0 0, [], (fun _ => (0 : Int)), (fun _ => (0 : Int)), by omega, rfl, rfl, rfl, by omega, ⟨⟨cell_later (w := W2) (by go_grown) p17, cell_later (w := W2) (by go_grown) p25, cell_later (w := W2) (by go_grown) p26, ((by go_grown : Below W2.heap.size W2 (((W2.alloc (.cells (madeCells #[.int .u32 0] n) 46)).alloc (.cells (madeCells #[.int .i64 0] n) 3)).alloc (.cells (madeCells #[.int .u32 0, .int .i64 0] (n * 2)) 58))).frozen (p := ⟨p, 17, none⟩) hpl).trans (PF.out 17), ((by go_grown : Below W2.heap.size W2 (((W2.alloc (.cells (madeCells #[.int .u32 0] n) 46)).alloc (.cells (madeCells #[.int .i64 0] n) 3)).alloc (.cells (madeCells #[.int .u32 0, .int .i64 0] (n * 2)) 58))).frozen (p := ⟨p, 25, none⟩) hpl).trans (PF.out 25), ((by go_grown : Below W2.heap.size W2 (((W2.alloc (.cells (madeCells #[.int .u32 0] n) 46)).alloc (.cells (madeCells #[.int .i64 0] n) 3)).alloc (.cells (madeCells #[.int .u32 0, .int .i64 0] (n * 2)) 58))).frozen (p := ⟨p, 26, none⟩) hpl).trans (PF.out 26), World.ownsRow_nil _ _ _ _, by omega, by simp⟩, (RowF.made .u32 W2 46 n _ _ rfl).later (by go_grown) (by simp), (RowF.made .i64 (W2.alloc (.cells (madeCells #[.int .u32 0] n) 46)) 3 n _ _ (by simp)).later (by go_grown) (by simp), RowF.made0 ((W2.alloc (.cells (madeCells #[.int .u32 0] n) 46)).alloc (.cells (madeCells #[.int .i64 0] n) 3)) 58 n _ _ (by simp), RowF.made1 ((W2.alloc (.cells (madeCells #[.int .u32 0] n) 46)).alloc (.cells (madeCells #[.int .i64 0] n) 3)) 58 n _ _ (by simp), SA.out.later (by go_grown), SB.out.later (by go_grown)⟩, below_next BW2 (by go_grown)⟩
      case round =>
        clear BW2 p17 p25 p26 PF SA SB
        obtain ⟨k, lb, v, xs, Qf, Bf, hk, rfl, rfl, rfl, hlb, hSt, BW⟩ := hrel
        have HS := Lib.hid hSt
        have hszV : W2.heap.size + 1 + 1 + 1 ≤ wr.heap.size := hSt.hp.sz
        clear hSt
        obtain ⟨V, rfl⟩ : ∃ x : World, x = wr := ⟨_, rfl⟩
        by_cases hlt : k < n
        · obtain ⟨a, ha⟩ : ∃ a : Nat, za.getD k 0 = (a : Int) := ⟨(za.getD k 0).toNat, by have := ZA.out k; omega⟩
          have h255 := (ZA.out k).2
          have HA1 := Lib.hid (show hn za (k + 1) = hn za k + a by simp only [hn]; omega)
          have hmo := HM.out (k + 1) (n - (k + 1))
          have hmo2 : hn za k + a ≤ 65536 := by
            rw [show k + 1 + (n - (k + 1)) = n by omega, HA1.out] at hmo
            omega
          clear hmo
          obtain ⟨b, off, ea, hbp, ca⟩ := HS.out.sa.row k hlt
          obtain ⟨b2, off2, eb, hbp2, cb⟩ := HS.out.sb.row k hlt
          obtain ⟨z, hz⟩ : ∃ z, z = zb.getD k 0 := ⟨_, rfl⟩
          have hzz := ZB.out k
          rw [← hz] at cb hzz
          rw [ha] at ca h255
          clear ha hz
          have HE := Lib.hid (And.intro ea eb)
          subst ea
          subst eb
          have k1 : (k : Int) < (n : Int) := by omega
          have k2 : (k : Int) < (n0 : Int) := by omega
          have k3 : (k : Int) < (n1 : Int) := by omega
          go_wp2_with fail
          go_loopg [18] a (fun gj s18 w5 => ∃ (j : Nat) (v5 : Value) (xs5 : List Value), j ≤ a ∧ gj = a - j ∧ s18 = .int .i64 j ∧ HP w5 p (W2.heap.size + 1 + 1 + 1) (Qf k) (Bf k) v5 (hn za k + j) xs5 ∧ Fr p (W2.heap.size + 1 + 1 + 1) V w5)
          case atStart => exact ⟨0, v, xs, by omega, rfl, rfl, HS.out.hp, Fr.refl _ _ _⟩
          case round =>
            obtain ⟨j, v5, xs5, hj, rfl, rfl, hP, hF⟩ := hrel
            have HP5 := Lib.hid hP
            have HF5 := Lib.hid hF
            have ca5 := hF.cell (by omega) (by omega) ca
            have cb5 := hF.cell (by omega) (by omega) cb
            clear hP hF
            by_cases hja : j < a
            · have k5 : (j : Int) < (a : Int) := by omega
              go_wp2_with fail
              refine (push p (W2.heap.size + 1 + 1 + 1) (Qf k) (Bf k) v5 (hn za k + j) xs5 _ _ (HP5.out.later (by go_grown)) (by omega)).mono ?_
              rintro e w6 hP
              obtain ⟨rfl, v6, xs6, hP6, hF6⟩ := hP
              have HP6 := Lib.hid hP6
              have HF6 := Lib.hid (HF5.out.trans ((Fr.ofBelow (Below.mono (by go_grown) HP5.out.sz)).trans hF6))
              clear hP6 hF6
              go_wp2
              go_roundg (a - (j + 1))
              case measure => omega
              case rel => exact ⟨j + 1, v6, xs6, by omega, rfl, by go_num, HP6.out, HF6.out⟩
            · obtain rfl : a = j := by omega
              clear hja hj
              obtain ⟨V5, rfl⟩ : ∃ x : World, x = wr := ⟨_, rfl⟩
              have R1 := Lib.hid (HS.out.r1.fr HF5.out (by omega) (by omega))
              have R2 := Lib.hid (HS.out.r2.fr HF5.out (by omega) (by omega))
              have R3 := Lib.hid (HS.out.r3.fr HF5.out (by omega) (by omega))
              have R4 := Lib.hid (HS.out.r4.fr HF5.out (by omega) (by omega))
              have SA5 := Lib.hid (HS.out.sa.fr HF5.out (by omega))
              have SB5 := Lib.hid (HS.out.sb.fr HF5.out (by omega))
              have B5 := Lib.hid (Below.trans BW (HF5.out.below (m := w.heap.size) (by omega) (by omega)))
              have y1 : V5.cell? ⟨W2.heap.size, k, none⟩ = some (.int .u32 0) := by have h := R1.out.c k hlt; simpa using h
              have y2 : V5.cell? ⟨W2.heap.size + 1, k, none⟩ = some (.int .i64 0) := by have h := R2.out.c k hlt; simpa using h
              have f1 := R1.out.z k
              have f2 := R2.out.z k
              clear HS HF5 BW
              go_wp2_with fail
              obtain ⟨E, hE⟩ : ∃ E : Int, E = 2 ^ (z % 21).toNat % 4294967296 := ⟨_, rfl⟩
              rw [← hE]
              clear hE
              refine (zquote p (Qf k) _ HP5.out.q).mono ?_
              rintro e w' ⟨rfl, rfl⟩
              go_wp2_with fail
              refine (zburied p (Bf k) _ (HP5.out.other (W2.heap.size) k _ (by omega) (HP5.out.low (by omega))).b).mono ?_
              rintro e w' ⟨rfl, rfl⟩
              go_wp2_with fail
              refine (zpre p (W2.heap.size + 1 + 1 + 1) (Qf k) (Bf k) E v5 (hn za k + a) xs5 _ ((HP5.out.other (W2.heap.size) k _ (by omega) (HP5.out.low (by omega))).other (W2.heap.size + 1) k _ (by omega) (HP5.out.low (by omega)))).mono ?_
              rintro e V6 ⟨rfl, hP6, hF6⟩
              have hsz5 := HP5.out.sz
              have Q1 := Lib.hid (((R1.out.set (f' := Qf) (fun i j h => h) hlt (fun _ _ => rfl)).off (W2.heap.size + 1) k (.int .i64 (Bf k)) (Or.inl (by omega))).fr hF6 (by simp; omega) (by omega))
              have Q2 := Lib.hid (((R2.out.off (W2.heap.size) k (.int .u32 (Qf k)) (Or.inl (by omega))).set (f' := Bf) (fun i j h => h) hlt (fun _ _ => rfl)).fr hF6 (by simp; omega) (by omega))
              have Q3 := Lib.hid (((R3.out.off (W2.heap.size) k (.int .u32 (Qf k)) (Or.inl (by omega))).off (W2.heap.size + 1) k (.int .i64 (Bf k)) (Or.inl (by omega))).fr hF6 (by simp; omega) (by omega))
              have Q4 := Lib.hid (((R4.out.off (W2.heap.size) k (.int .u32 (Qf k)) (Or.inl (by omega))).off (W2.heap.size + 1) k (.int .i64 (Bf k)) (Or.inl (by omega))).fr hF6 (by simp; omega) (by omega))
              have SA6 := Lib.hid (((SA5.out.set (W2.heap.size) k (.int .u32 (Qf k)) (by omega)).set (W2.heap.size + 1) k (.int .i64 (Bf k)) (by omega)).fr hF6 (by simp; omega))
              have SB6 := Lib.hid (((SB5.out.set (W2.heap.size) k (.int .u32 (Qf k)) (by omega)).set (W2.heap.size + 1) k (.int .i64 (Bf k)) (by omega)).fr hF6 (by simp; omega))
              have B6 := Lib.hid (Below.trans ((B5.out.setCell (p := ⟨W2.heap.size, k, none⟩) (by simp; omega) (.int .u32 (Qf k))).setCell (p := ⟨W2.heap.size + 1, k, none⟩) (by simp; omega) (.int .i64 (Bf k))) (hF6.below (m := w.heap.size) (by omega) (by simp; omega)))
              have HP6 := Lib.hid hP6
              have y3 : V6.cell? ⟨W2.heap.size + 1 + 1, k * 2, none⟩ = some (.int .u32 0) := by have h := Q3.out.c k hlt; simpa using h
              have y4 : V6.cell? ⟨W2.heap.size + 1 + 1, k * 2 + 1, none⟩ = some (.int .i64 0) := by have h := Q4.out.c k hlt; simpa using h
              have f3 := Q3.out.z (k * 2)
              have f4 := Q4.out.z (k * 2 + 1)
              clear hP6 hF6 R1 R2 R3 R4 SA5 SB5 B5 HP5 y1 y2 f1 f2 ca cb5
              go_wp2_with fail
              have HP7 := Lib.hid ((HP6.out.other (W2.heap.size + 1 + 1) (k * 2) (.int .u32 (Qf k)) (by omega) (HP6.out.low (by omega))).other (W2.heap.size + 1 + 1) (k * 2 + 1) (.int .i64 (Bf k)) (by omega) (HP6.out.low (by omega)))
              refine (zquote p E _ HP7.out.q).mono ?_
              rintro e w' ⟨rfl, rfl⟩
              go_wp2_with fail
              refine (zburied p ((hn za k + a : Nat) : Int) _ HP7.out.b).mono ?_
              rintro e w' ⟨rfl, rfl⟩
              go_wp2_with fail
              refine (zhdocs p (W2.heap.size + 1 + 1 + 1) E _ v5 (hn za k + a) xs5 _ HP7.out).mono ?_
              rintro e w' ⟨rfl, rfl⟩
              have hnl : ¬ (((hn za k : Nat) : Int) + (a : Int) < lb) := by omega
              go_wp2
              go_roundg (n - (k + 1))
              case measure => omega
              case rel =>
                have hinj : ∀ i j : Nat, i * 2 = j * 2 → i = j := fun i j h => by omega
                have hinj' : ∀ i j : Nat, i * 2 + 1 = j * 2 + 1 → i = j := fun i j h => by omega
                refine ⟨k + 1, ((hn za k + a : Nat) : Int), v5, xs5, upd Qf (k + 1) E, upd Bf (k + 1) ((hn za k + a : Nat) : Int), by omega, rfl, by go_num, by go_num, by rw [HA1.out]; exact Int.le_refl _, ⟨by rw [upd_same, upd_same, HA1.out]; exact HP7.out, ?_, ?_, ?_, ?_, ?_, ?_⟩, ?_⟩
                · exact ((Q1.out.off (W2.heap.size + 1 + 1) (k * 2) _ (Or.inl (by omega))).off (W2.heap.size + 1 + 1) (k * 2 + 1) _ (Or.inl (by omega))).congr (fun j hj => upd_lt _ _ _ _ hj)
                · exact ((Q2.out.off (W2.heap.size + 1 + 1) (k * 2) _ (Or.inl (by omega))).off (W2.heap.size + 1 + 1) (k * 2 + 1) _ (Or.inl (by omega))).congr (fun j hj => upd_lt _ _ _ _ hj)
                · exact ((Q3.out.set (f' := Qf) hinj hlt (fun _ _ => rfl)).off (W2.heap.size + 1 + 1) (k * 2 + 1) _ (Or.inr (fun j => by omega))).congr (fun j hj => upd_lt _ _ _ _ hj)
                · exact ((Q4.out.off (W2.heap.size + 1 + 1) (k * 2) _ (Or.inr (fun j => by omega))).set (f' := Bf) hinj' hlt (fun _ _ => rfl)).congr (fun j hj => upd_lt _ _ _ _ hj)
                · exact (SA6.out.set (W2.heap.size + 1 + 1) (k * 2) _ (by omega)).set (W2.heap.size + 1 + 1) (k * 2 + 1) _ (by omega)
                · exact (SB6.out.set (W2.heap.size + 1 + 1) (k * 2) _ (by omega)).set (W2.heap.size + 1 + 1) (k * 2 + 1) _ (by omega)
                · exact (B6.out.setCell (by simp; omega) _).setCell (by simp; omega) _
        · obtain rfl : n = k := by omega
          clear hlt hk hlb
          go_wp2_with fail
          go_loopg [21] n (fun gk s21 wr => ∃ (m : Nat), m ≤ n ∧ m = gk ∧ s21 = .int .i64 ((m : Int) - 1) ∧ St wr p (W2.heap.size) (W2.heap.size + 1) (W2.heap.size + 1 + 1) (W2.heap.size + 1 + 1 + 1) x0 x1 n m n za zb Qf Bf v (hn za n) xs ∧ Below w.heap.size w wr)
          case atStart => exact ⟨n, Nat.le_refl _, rfl, rfl, HS.out, BW⟩
          case round =>
            clear HS BW
            obtain ⟨m, hm, rfl, rfl, hSt, BW⟩ := hrel
            have HS := Lib.hid hSt
            clear hSt
            obtain ⟨V6, rfl⟩ : ∃ x : World, x = wr := ⟨_, rfl⟩
            cases m with
            | zero =>
              go_wp2_with fail
              refine (zhdocs p (W2.heap.size + 1 + 1 + 1) _ _ v (hn za n) xs _ HS.out.hp).mono ?_
              rintro e w' ⟨rfl, rfl⟩
              go_wp2
              go_ret
              exact ⟨by simp, BW⟩
            | succ i =>
              have hi : i < n := by omega
              have e0 : (((i + 1 : Nat) : Int) - 1) = (i : Int) := by omega
              rw [e0]
              clear e0
              have s1 : V6.cell? ⟨W2.heap.size, i, none⟩ = some (.int .u32 (Qf i)) := HS.out.r1.full hi
              have s2 : V6.cell? ⟨W2.heap.size + 1, i, none⟩ = some (.int .i64 (Bf i)) := HS.out.r2.full hi
              have s3 : V6.cell? ⟨W2.heap.size + 1 + 1, i * 2, none⟩ = some (.int .u32 (Qf i)) := HS.out.r3.full hi
              have s4 : V6.cell? ⟨W2.heap.size + 1 + 1, i * 2 + 1, none⟩ = some (.int .i64 (Bf i)) := HS.out.r4.full hi
              have k1 : (i : Int) < (n : Int) := by omega
              have k2 : (0 : Int) ≤ (i : Int) := by omega
              go_wp2_with fail
              refine (zpost p (W2.heap.size + 1 + 1 + 1) _ _ (Qf i) (Bf i) v (hn za n) xs _ HS.out.hp).mono ?_
              rintro e V7 ⟨rfl, hP7, hF7⟩
              have hsz6 := HS.out.hp.sz
              have HS7 := Lib.hid (show St V7 p (W2.heap.size) (W2.heap.size + 1) (W2.heap.size + 1 + 1) (W2.heap.size + 1 + 1 + 1) x0 x1 n i n za zb Qf Bf v (hn za n) xs from ⟨hP7, HS.out.r1.fr hF7 (by omega) (by omega), HS.out.r2.fr hF7 (by omega) (by omega), HS.out.r3.fr hF7 (by omega) (by omega), HS.out.r4.fr hF7 (by omega) (by omega), HS.out.sa.fr hF7 (by omega), HS.out.sb.fr hF7 (by omega)⟩)
              have B7 := Lib.hid (Below.trans BW (hF7.below (m := w.heap.size) (by omega) (by omega)))
              clear hP7 hF7 HS BW s1 s2 s3 s4
              have t1 : V7.cell? ⟨W2.heap.size, i, none⟩ = some (.int .u32 (Qf i)) := HS7.out.r1.full hi
              have t2 : V7.cell? ⟨W2.heap.size + 1, i, none⟩ = some (.int .i64 (Bf i)) := HS7.out.r2.full hi
              have t3 := HS7.out.hp.q
              have t4 := HS7.out.hp.b
              go_wp2_with fail
              go_quiet (first | (go_at_call 28; exact Calls.quiet_of_same (zquoteQ p (Qf i) _ t3)) | (go_at_call 29; exact Calls.quiet_of_same (zburiedQ p (Bf i) _ t4)))
              go_wp2
              go_roundg i
              case measure => omega
              case rel => exact ⟨i, by omega, rfl, rfl, HS7.out.drewN _, below_drewN B7.out _⟩
end Go.Proofs.Ytccnpgmceoojmac.nest
