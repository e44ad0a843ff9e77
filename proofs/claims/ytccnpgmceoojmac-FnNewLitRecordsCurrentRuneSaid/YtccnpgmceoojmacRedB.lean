/-
  numberLiteral and bytes.IndexByte at a row of bytes; isLitRedir on a literal, by its language.
-/
import Derived.Test.YtccnpgmceoojmacRedA
namespace Go.Proofs.Ytccnpgmceoojmac.red
open Go.RowKit
open Go.Proofs.Ytccnpgmceoojmac

def Cells (w : World) (g : Nat) (zs : List Int) : Prop := ∀ i, i < zs.length → w.cell? ⟨g, i, none⟩ = some (.int .u8 (zs.getD i 0))
theorem Cells.later {w wx : World} {g : Nat} {zs : List Int} (h : Cells w g zs) (hb : Below w.heap.size w wx) : Cells wx g zs := fun i hi => cell_later hb (h i hi)
def sub (zs : List Int) (a l : Nat) : List Int := (zs.drop a).take l
theorem sub_len (zs : List Int) (a l : Nat) (h : a + l ≤ zs.length) : (sub zs a l).length = l := by simp [sub]; omega
theorem sub_get (zs : List Int) (a l i : Nat) (hi : i < l) : (sub zs a l).getD i 0 = zs.getD (a + i) 0 := by
  simp [sub, List.getD_eq_getElem?_getD, List.getElem?_take, hi]
theorem inL (L : Int) (b : Bool) (hb : (bits .and .i64 L 9 == L) = b) (w : World) : Calls Try.prog 54 #[.int .i64 L, .int .i64 9] w fun e w' => e = .returned (.bool b) ∧ w = w' := by
  go_enter Try.func54, Try.ntmps54
  go_wp2
  go_ret
  exact ⟨rfl, rfl⟩
theorem indexByte (g o n c : Nat) (xs : List Int) (cv : Int) (w : World) (hx : xs.length = n)
    (hc : ∀ i, i < n → w.cell? ⟨g, o + i, none⟩ = some (.int .u8 (xs.getD i 0))) :
    Calls Try.prog 55 #[.slice (some ⟨g, o, none⟩) n c, .int .u8 cv] w fun e w' => e = .returned (.int .i64 (Lib.indexByte (Lib.bytesOf xs) cv.toNat.toUInt8)) ∧ w = w' := by
  go_enter Try.func55, Try.ntmps55
  go_wp2
  rw [run_callFunc_extern Try.func58 (by kernel_rfl) (by kernel_rfl) (by kernel_rfl) (e := Extern.BytealgIndexByte.indexByte) (by kernel_rfl), Lib.run_indexByteSlice w g o n c xs hx hc cv]
  simp only [Result.andThen]
  rw [Oper.upon_value]
  go_wp2
  go_ret
  exact ⟨rfl, rfl⟩
set_option maxRecDepth 100000 in
set_option maxHeartbeats 2000000 in
theorem number (g n cap : Nat) (zs : List Int) (w : World) (hn : zs.length = n) (h0 : 0 < n) (hm : n ≤ 1048576) (hc : Cells w g zs) : Calls Try.prog 57 #[.slice (some ⟨g, 0, none⟩) n cap] w fun e w' => e = .returned (.bool (nm (strOfNums zs))) ∧ Below w.heap.size w w' := by
  have cv := run_convert_bytes_arg (P := Try.prog) w 25 5 Try.underlying25 Try.underlying5 g 0 n cap zs hn (fun i hi => by have := hc i (by omega); simpa using this) 9 Try.underlying9
  have hsz := strOfNums_size zs
  rw [hn] at hsz
  have HZ := Lib.hid hsz
  have h1 : ((n : Int) == 0) = false := by simp; omega
  have hq : n ≤ (strOfNums zs).size ∧ (strOfNums zs).size ≤ n := by omega
  clear hc hn hsz
  generalize strOfNums zs = s at *
  go_enter Try.func57, Try.ntmps57
  go_wp2
  clear cv
  go_loopw [] (fun wr => ∃ p : Nat, p ≤ s.size ∧ wr = w.iter s p ∧ Hid (AllAt (nmAt s) p)) (fun wr => s.size - wr.iterPos w.heap.size)
  case atStart => exact ⟨0, by omega, rfl, Lib.hid (fun i hi => absurd hi (by omega))⟩
  case round =>
    obtain ⟨p, hp, rfl, HO⟩ := hrel
    by_cases hlt : p < s.size
    · by_cases ha : (s[p]'hlt).toNat < 128
      · have nx := fun ty => run_next_ascii (P := Try.prog) w s p ty hlt ha
        obtain ⟨c, hc⟩ : ∃ c : Int, ((s[p]'hlt).toNat : Int) = c := ⟨_, rfl⟩
        have eb : byteI s p = c := by unfold byteI; rw [dif_pos hlt]; exact hc
        have eo : nmAt s p = digB c := by unfold nmAt; rw [eb]
        have EO := Lib.hid eo
        rw [hc] at nx
        clear eo eb hc ha
        cases hd : digB c with
        | true =>
          have HO' := HO.out.succ (EO.out.trans hd)
          have HQ := Lib.hid HO'
          clear HO'
          go_wp2_with (go_at_call 60; refine (digR _ _).mono ?_; rintro e w' ⟨rfl, rfl⟩)
          go_roundw
          case rel => exact ⟨p + 1, by omega, rfl, HQ⟩
          case measure => simp; omega
        | false =>
          go_wp2_with (go_at_call 60; refine (digR _ _).mono ?_; rintro e w' ⟨rfl, rfl⟩)
          go_ret
          exact ⟨ret_bool (nm_false s _ hlt (EO.out.trans hd)).symm, below_iter _ _ _⟩
      · have nx := fun ty => run_next_any (P := Try.prog) w s p ty hlt
        have hg := (decode_high s p hlt (by omega)).1
        obtain ⟨c, hc⟩ : ∃ c : Int, (s[p]'hlt).toNat = c := ⟨_, rfl⟩
        have eb : byteI s p = c := by unfold byteI; rw [dif_pos hlt]; exact hc
        have eo : nmAt s p = false := by
          unfold nmAt
          rw [eb]
          simp [digB]
          omega
        have EO := Lib.hid eo
        clear eo eb hc ha
        generalize Utf8.decode s p = D at *
        obtain ⟨r, z⟩ := D
        have hd : digB (r : Int) = false := by simp at hg; simp [digB]; omega
        clear hg
        dsimp only at nx
        go_wp2_with (go_at_call 60; refine (digR _ _).mono ?_; rintro e w' ⟨rfl, rfl⟩)
        go_ret
        exact ⟨ret_bool (nm_false s _ hlt EO.out).symm, below_iter _ _ _⟩
    · obtain rfl : p = s.size := by omega
      have nx := fun ty => run_next_end (P := Try.prog) w s s.size ty hlt
      go_wp2
      go_ret
      exact ⟨ret_bool (nm_true s HO.out).symm, below_iter _ _ _⟩
set_option maxRecDepth 100000 in
set_option maxHeartbeats 1000000 in
theorem litA0 (p g m n k cap : Nat) (L : Int) (zs : List Int) (w : World) (hz : zs.length = n) (hmn : n + 1 = m) (hnk : k + 1 = n) (hm : n ≤ 1048576) (hcap : m ≤ cap) (hcm : cap ≤ 2097152) (hc : Cells w g zs) (c0 : w.cell? ⟨p, 2087, none⟩ = some (.slice (some ⟨g, 0, none⟩) m cap)) (c1 : w.cell? ⟨p, 20, none⟩ = some (.int .i64 L)) (hz0 : ¬ zs.getD 0 0 = 123) :
    Calls Try.prog 51 #[.pointer (some ⟨p, 0, none⟩)] w fun e w' => e = .returned (.bool (nm (strOfNums zs))) ∧ Below w.heap.size w w' := by
  have hlt := lt_of_cell c0
  have wm : IntKind.i64.wrap ((m : Int) - 1) = (n : Int) := by rw [IntWalk.i64_in _ (by omega)]; omega
  have wn : IntKind.i64.wrap ((n : Int) - 1) = (k : Int) := by rw [IntWalk.i64_in _ (by omega)]; omega
  have i0 : (0 : Int) ≤ (n : Int) := by omega
  have i1 : (n : Int) ≤ (cap : Int) := by omega
  have i2 : (0 : Int) < (n : Int) := by omega
  have i3 : n ≤ cap := by omega
  have i4 : 0 < n := by omega
  have i5 : k < n := by omega
  have zc := hc 0 (by omega)
  have kc := hc k (by omega)
  obtain ⟨z0, e0⟩ : ∃ z, zs.getD 0 0 = z := ⟨_, rfl⟩
  obtain ⟨zk, ek⟩ : ∃ z, zs.getD k 0 = z := ⟨_, rfl⟩
  rw [e0] at zc
  rw [ek] at kc
  rw [e0] at hz0
  have h0 : (z0 == 123) = false := by simp [hz0]
  clear hz0 hnk
  have HC := Lib.hid hc
  have HZ := Lib.hid hz
  clear hc hz hmn e0 ek
  go_enter Try.func51, Try.ntmps51
  go_wp2
  go_quiet (fail)
  refine then_world (fun W => Cells W g zs ∧ W.cell? ⟨p, 20, none⟩ = some (.int .i64 L) ∧ W.cell? ⟨g, 0, none⟩ = some (.int .u8 z0) ∧ W.cell? ⟨g, k, none⟩ = some (.int .u8 zk) ∧ Below w.heap.size w W)
    ⟨HC.out.later (below_drewN (Below.refl _ _) _), c1, zc, kc, below_drewN (Below.refl _ _) _⟩ ?_
  clear c0 c1 zc kc HC
  rintro W ⟨hc, c1, zc, kc, BW⟩
  have HC := Lib.hid hc
  clear hc
  go_wp2_with fail
  refine (number g n cap zs W HZ.out (by omega) hm HC.out).mono ?_
  rintro e w1 ⟨rfl, hb⟩
  have B := below_next BW hb
  clear hb BW
  go_wp2
  go_ret
  exact ⟨rfl, B⟩
set_option maxRecDepth 100000 in
set_option maxHeartbeats 1000000 in
theorem litA1 (p g m n k cap : Nat) (L : Int) (zs : List Int) (w : World) (hz : zs.length = n) (hmn : n + 1 = m) (hnk : k + 1 = n) (hm : n ≤ 1048576) (hcap : m ≤ cap) (hcm : cap ≤ 2097152) (hc : Cells w g zs) (c0 : w.cell? ⟨p, 2087, none⟩ = some (.slice (some ⟨g, 0, none⟩) m cap)) (c1 : w.cell? ⟨p, 20, none⟩ = some (.int .i64 L)) (hz0 : zs.getD 0 0 = 123) (hzk : ¬ zs.getD k 0 = 125) :
    Calls Try.prog 51 #[.pointer (some ⟨p, 0, none⟩)] w fun e w' => e = .returned (.bool (nm (strOfNums zs))) ∧ Below w.heap.size w w' := by
  have hlt := lt_of_cell c0
  have wm : IntKind.i64.wrap ((m : Int) - 1) = (n : Int) := by rw [IntWalk.i64_in _ (by omega)]; omega
  have wn : IntKind.i64.wrap ((n : Int) - 1) = (k : Int) := by rw [IntWalk.i64_in _ (by omega)]; omega
  have i0 : (0 : Int) ≤ (n : Int) := by omega
  have i1 : (n : Int) ≤ (cap : Int) := by omega
  have i2 : (0 : Int) < (n : Int) := by omega
  have i3 : n ≤ cap := by omega
  have i4 : 0 < n := by omega
  have i5 : k < n := by omega
  have zc := hc 0 (by omega)
  have kc := hc k (by omega)
  obtain ⟨z0, e0⟩ : ∃ z, zs.getD 0 0 = z := ⟨_, rfl⟩
  obtain ⟨zk, ek⟩ : ∃ z, zs.getD k 0 = z := ⟨_, rfl⟩
  rw [e0] at zc
  rw [ek] at kc
  rw [e0] at hz0
  rw [ek] at hzk
  have h0 : (z0 == 123) = true := by simp [hz0]
  have hk : (zk == 125) = false := by simp [hzk]
  clear hz0 hzk hnk
  have HC := Lib.hid hc
  have HZ := Lib.hid hz
  clear hc hz hmn e0 ek
  go_enter Try.func51, Try.ntmps51
  go_wp2
  go_quiet (fail)
  refine then_world (fun W => Cells W g zs ∧ W.cell? ⟨p, 20, none⟩ = some (.int .i64 L) ∧ W.cell? ⟨g, 0, none⟩ = some (.int .u8 z0) ∧ W.cell? ⟨g, k, none⟩ = some (.int .u8 zk) ∧ Below w.heap.size w W)
    ⟨HC.out.later (below_drewN (Below.refl _ _) _), c1, zc, kc, below_drewN (Below.refl _ _) _⟩ ?_
  clear c0 c1 zc kc HC
  rintro W ⟨hc, c1, zc, kc, BW⟩
  have HC := Lib.hid hc
  clear hc
  go_wp2_with fail
  refine (number g n cap zs W HZ.out (by omega) hm HC.out).mono ?_
  rintro e w1 ⟨rfl, hb⟩
  have B := below_next BW hb
  clear hb BW
  go_wp2
  go_ret
  exact ⟨rfl, B⟩
set_option maxRecDepth 100000 in
set_option maxHeartbeats 1000000 in
theorem litB (p g m n k cap : Nat) (L : Int) (zs : List Int) (w : World) (hz : zs.length = n) (hmn : n + 1 = m) (hnk : k + 1 = n) (hm : n ≤ 1048576) (hcap : m ≤ cap) (hcm : cap ≤ 2097152) (hc : Cells w g zs) (c0 : w.cell? ⟨p, 2087, none⟩ = some (.slice (some ⟨g, 0, none⟩) m cap)) (c1 : w.cell? ⟨p, 20, none⟩ = some (.int .i64 L)) (HI : ∀ w' : World, Calls Try.prog 54 #[.int .i64 L, .int .i64 9] w' fun e w1 => e = .returned (.bool false) ∧ w' = w1) (hz0 : zs.getD 0 0 = 123) (hzk : zs.getD k 0 = 125)  :
    Calls Try.prog 51 #[.pointer (some ⟨p, 0, none⟩)] w fun e w' => e = .returned (.bool (vn (strOfNums (sub zs 1 (k - 1))))) ∧ Below w.heap.size w w' := by
  have hlt := lt_of_cell c0
  have wm : IntKind.i64.wrap ((m : Int) - 1) = (n : Int) := by rw [IntWalk.i64_in _ (by omega)]; omega
  have wn : IntKind.i64.wrap ((n : Int) - 1) = (k : Int) := by rw [IntWalk.i64_in _ (by omega)]; omega
  have i0 : (0 : Int) ≤ (n : Int) := by omega
  have i1 : (n : Int) ≤ (cap : Int) := by omega
  have i2 : (0 : Int) < (n : Int) := by omega
  have i3 : n ≤ cap := by omega
  have i4 : 0 < n := by omega
  have i5 : k < n := by omega
  have zc := hc 0 (by omega)
  have kc := hc k (by omega)
  obtain ⟨z0, e0⟩ : ∃ z, zs.getD 0 0 = z := ⟨_, rfl⟩
  obtain ⟨zk, ek⟩ : ∃ z, zs.getD k 0 = z := ⟨_, rfl⟩
  rw [e0] at zc
  rw [ek] at kc
  rw [e0] at hz0
  rw [ek] at hzk
  have h0 : (z0 == 123) = true := by simp [hz0]
  have hk : (zk == 125) = true := by simp [hzk]
  have hk0 : 1 ≤ k := by
    rcases Nat.eq_zero_or_pos k with e | e
    · exfalso
      rw [e] at ek
      omega
    · exact e
  have k1 : (1 : Int) ≤ (k : Int) := by omega
  have k2 : (k : Int) ≤ (cap : Int) := by omega
  have k3 : k ≤ cap := by omega
  have k4 : ¬ cap = 1 := by omega
  have k5 : 0 ≤ (k : Int) := by omega
  clear hz0 hzk
  obtain ⟨j, hj⟩ : ∃ j, k - 1 = j := ⟨_, rfl⟩
  have hj1 : j + 1 ≤ k ∧ k ≤ j + 1 := by omega
  rw [hj]
  have HC := Lib.hid hc
  have HZ := Lib.hid hz
  clear hc hz hmn e0 ek
  go_enter Try.func51, Try.ntmps51
  go_wp2
  go_quiet (fail)
  refine then_world (fun W => Cells W g zs ∧ W.cell? ⟨p, 20, none⟩ = some (.int .i64 L) ∧ W.cell? ⟨g, 0, none⟩ = some (.int .u8 z0) ∧ W.cell? ⟨g, k, none⟩ = some (.int .u8 zk) ∧ Below w.heap.size w W)
    ⟨HC.out.later (below_drewN (Below.refl _ _) _), c1, zc, kc, below_drewN (Below.refl _ _) _⟩ ?_
  clear c0 c1 zc kc HC
  rintro W ⟨hc, c1, zc, kc, BW⟩
  have hzl := HZ.out
  have cv := run_convert_bytes_arg (P := Try.prog) W 25 5 Try.underlying25 Try.underlying5 g 1 j (cap - 1) (sub zs 1 j) (sub_len _ _ _ (by omega)) (fun i hi => by rw [sub_get _ _ _ _ hi]; exact hc (1 + i) (by omega)) 9 Try.underlying9
  have sz : (strOfNums (sub zs 1 j)).size ≤ 1099511627776 := by rw [strOfNums_size, sub_len _ _ _ (by omega)]; omega
  clear hzl
  have HC := Lib.hid hc
  clear hc
  clear hnk

  go_wp2_with (first | (go_at_call 54; refine (HI _).mono ?_; rintro e w' ⟨rfl, rfl⟩))
  refine (validName _ W sz).mono ?_
  rintro e w1 ⟨rfl, hb⟩
  have B := below_next BW hb
  clear hb BW
  go_wp2
  go_ret
  exact ⟨rfl, B⟩
set_option maxRecDepth 100000 in
set_option maxHeartbeats 1000000 in
theorem litC0 (p g m n k cap : Nat) (L : Int) (zs : List Int) (w : World) (hz : zs.length = n) (hmn : n + 1 = m) (hnk : k + 1 = n) (hm : n ≤ 1048576) (hcap : m ≤ cap) (hcm : cap ≤ 2097152) (hc : Cells w g zs) (c0 : w.cell? ⟨p, 2087, none⟩ = some (.slice (some ⟨g, 0, none⟩) m cap)) (c1 : w.cell? ⟨p, 20, none⟩ = some (.int .i64 L)) (HI : ∀ w' : World, Calls Try.prog 54 #[.int .i64 L, .int .i64 9] w' fun e w1 => e = .returned (.bool true) ∧ w' = w1) (hz0 : zs.getD 0 0 = 123) (hzk : zs.getD k 0 = 125) (hj0 : k - 1 = 0) :
    Calls Try.prog 51 #[.pointer (some ⟨p, 0, none⟩)] w fun e w' => e = .returned (.bool (vn (strOfNums (sub zs 1 (k - 1))))) ∧ Below w.heap.size w w' := by
  have hlt := lt_of_cell c0
  have wm : IntKind.i64.wrap ((m : Int) - 1) = (n : Int) := by rw [IntWalk.i64_in _ (by omega)]; omega
  have wn : IntKind.i64.wrap ((n : Int) - 1) = (k : Int) := by rw [IntWalk.i64_in _ (by omega)]; omega
  have i0 : (0 : Int) ≤ (n : Int) := by omega
  have i1 : (n : Int) ≤ (cap : Int) := by omega
  have i2 : (0 : Int) < (n : Int) := by omega
  have i3 : n ≤ cap := by omega
  have i4 : 0 < n := by omega
  have i5 : k < n := by omega
  have zc := hc 0 (by omega)
  have kc := hc k (by omega)
  obtain ⟨z0, e0⟩ : ∃ z, zs.getD 0 0 = z := ⟨_, rfl⟩
  obtain ⟨zk, ek⟩ : ∃ z, zs.getD k 0 = z := ⟨_, rfl⟩
  rw [e0] at zc
  rw [ek] at kc
  rw [e0] at hz0
  rw [ek] at hzk
  have h0 : (z0 == 123) = true := by simp [hz0]
  have hk : (zk == 125) = true := by simp [hzk]
  have hk0 : 1 ≤ k := by
    rcases Nat.eq_zero_or_pos k with e | e
    · exfalso
      rw [e] at ek
      omega
    · exact e
  have k1 : (1 : Int) ≤ (k : Int) := by omega
  have k2 : (k : Int) ≤ (cap : Int) := by omega
  have k3 : k ≤ cap := by omega
  have k4 : ¬ cap = 1 := by omega
  have k5 : 0 ≤ (k : Int) := by omega
  clear hz0 hzk
  obtain ⟨j, hj⟩ : ∃ j, k - 1 = j := ⟨_, rfl⟩
  have hj1 : j + 1 ≤ k ∧ k ≤ j + 1 := by omega
  rw [hj] at hj0 ⊢
  have j0 : ¬ 0 < j := by omega
  have j1 : decide (0 < j) = false := decide_eq_false j0
  have j2 : ¬ (0 : Int) < (j : Int) := by omega
  clear hj0
  have HC := Lib.hid hc
  have HZ := Lib.hid hz
  clear hc hz hmn e0 ek
  go_enter Try.func51, Try.ntmps51
  go_wp2
  go_quiet (fail)
  refine then_world (fun W => Cells W g zs ∧ W.cell? ⟨p, 20, none⟩ = some (.int .i64 L) ∧ W.cell? ⟨g, 0, none⟩ = some (.int .u8 z0) ∧ W.cell? ⟨g, k, none⟩ = some (.int .u8 zk) ∧ Below w.heap.size w W)
    ⟨HC.out.later (below_drewN (Below.refl _ _) _), c1, zc, kc, below_drewN (Below.refl _ _) _⟩ ?_
  clear c0 c1 zc kc HC
  rintro W ⟨hc, c1, zc, kc, BW⟩
  have hzl := HZ.out
  have cv := run_convert_bytes_arg (P := Try.prog) W 25 5 Try.underlying25 Try.underlying5 g 1 j (cap - 1) (sub zs 1 j) (sub_len _ _ _ (by omega)) (fun i hi => by rw [sub_get _ _ _ _ hi]; exact hc (1 + i) (by omega)) 9 Try.underlying9
  have sz : (strOfNums (sub zs 1 j)).size ≤ 1099511627776 := by rw [strOfNums_size, sub_len _ _ _ (by omega)]; omega
  clear hzl
  have HC := Lib.hid hc
  clear hc
  clear hnk

  go_wp2_with (first | (go_at_call 54; refine (HI _).mono ?_; rintro e w' ⟨rfl, rfl⟩))
  refine (validName _ W sz).mono ?_
  rintro e w1 ⟨rfl, hb⟩
  have B := below_next BW hb
  clear hb BW
  go_wp2
  go_ret
  exact ⟨rfl, B⟩
set_option maxRecDepth 100000 in
set_option maxHeartbeats 1000000 in
theorem litC1 (p g m n k cap : Nat) (L : Int) (zs : List Int) (w : World) (hz : zs.length = n) (hmn : n + 1 = m) (hnk : k + 1 = n) (hm : n ≤ 1048576) (hcap : m ≤ cap) (hcm : cap ≤ 2097152) (hc : Cells w g zs) (c0 : w.cell? ⟨p, 2087, none⟩ = some (.slice (some ⟨g, 0, none⟩) m cap)) (c1 : w.cell? ⟨p, 20, none⟩ = some (.int .i64 L)) (HI : ∀ w' : World, Calls Try.prog 54 #[.int .i64 L, .int .i64 9] w' fun e w1 => e = .returned (.bool true) ∧ w' = w1) (hz0 : zs.getD 0 0 = 123) (hzk : zs.getD k 0 = 125) (hj0 : 0 < k - 1) (hzl0 : ¬ zs.getD (k - 1) 0 = 93) :
    Calls Try.prog 51 #[.pointer (some ⟨p, 0, none⟩)] w fun e w' => e = .returned (.bool (vn (strOfNums (sub zs 1 (k - 1))))) ∧ Below w.heap.size w w' := by
  have hlt := lt_of_cell c0
  have wm : IntKind.i64.wrap ((m : Int) - 1) = (n : Int) := by rw [IntWalk.i64_in _ (by omega)]; omega
  have wn : IntKind.i64.wrap ((n : Int) - 1) = (k : Int) := by rw [IntWalk.i64_in _ (by omega)]; omega
  have i0 : (0 : Int) ≤ (n : Int) := by omega
  have i1 : (n : Int) ≤ (cap : Int) := by omega
  have i2 : (0 : Int) < (n : Int) := by omega
  have i3 : n ≤ cap := by omega
  have i4 : 0 < n := by omega
  have i5 : k < n := by omega
  have zc := hc 0 (by omega)
  have kc := hc k (by omega)
  obtain ⟨z0, e0⟩ : ∃ z, zs.getD 0 0 = z := ⟨_, rfl⟩
  obtain ⟨zk, ek⟩ : ∃ z, zs.getD k 0 = z := ⟨_, rfl⟩
  rw [e0] at zc
  rw [ek] at kc
  rw [e0] at hz0
  rw [ek] at hzk
  have h0 : (z0 == 123) = true := by simp [hz0]
  have hk : (zk == 125) = true := by simp [hzk]
  have hk0 : 1 ≤ k := by
    rcases Nat.eq_zero_or_pos k with e | e
    · exfalso
      rw [e] at ek
      omega
    · exact e
  have k1 : (1 : Int) ≤ (k : Int) := by omega
  have k2 : (k : Int) ≤ (cap : Int) := by omega
  have k3 : k ≤ cap := by omega
  have k4 : ¬ cap = 1 := by omega
  have k5 : 0 ≤ (k : Int) := by omega
  clear hz0 hzk
  obtain ⟨j, hj⟩ : ∃ j, k - 1 = j := ⟨_, rfl⟩
  have hj1 : j + 1 ≤ k ∧ k ≤ j + 1 := by omega
  rw [hj] at hj0 ⊢
  have j2 : (0 : Int) < (j : Int) := by omega
  obtain ⟨l, hl⟩ : ∃ l, l + 1 = j := ⟨j - 1, by omega⟩
  have wj : IntKind.i64.wrap ((j : Int) - 1) = (l : Int) := by rw [IntWalk.i64_in _ (by omega)]; omega
  have lj : l < j := by omega
  have l1 : 1 + l = k - 1 := by omega
  obtain ⟨zl, el⟩ : ∃ z, zs.getD (1 + l) 0 = z := ⟨_, rfl⟩
  rw [← l1] at hzl0
  rw [el] at hzl0
  clear l1 hl
  have q0 : (zl == 93) = false := by simp [hzl0]
  clear hzl0
  have HC := Lib.hid hc
  have HZ := Lib.hid hz
  clear hc hz hmn e0 ek
  go_enter Try.func51, Try.ntmps51
  go_wp2
  go_quiet (fail)
  refine then_world (fun W => Cells W g zs ∧ W.cell? ⟨p, 20, none⟩ = some (.int .i64 L) ∧ W.cell? ⟨g, 0, none⟩ = some (.int .u8 z0) ∧ W.cell? ⟨g, k, none⟩ = some (.int .u8 zk) ∧ Below w.heap.size w W)
    ⟨HC.out.later (below_drewN (Below.refl _ _) _), c1, zc, kc, below_drewN (Below.refl _ _) _⟩ ?_
  clear c0 c1 zc kc HC
  rintro W ⟨hc, c1, zc, kc, BW⟩
  have hzl := HZ.out
  have cv := run_convert_bytes_arg (P := Try.prog) W 25 5 Try.underlying25 Try.underlying5 g 1 j (cap - 1) (sub zs 1 j) (sub_len _ _ _ (by omega)) (fun i hi => by rw [sub_get _ _ _ _ hi]; exact hc (1 + i) (by omega)) 9 Try.underlying9
  have lc : W.cell? ⟨g, 1 + l, none⟩ = some (.int .u8 zl) := by rw [← el]; exact hc (1 + l) (by omega)
  clear el
  have sz : (strOfNums (sub zs 1 j)).size ≤ 1099511627776 := by rw [strOfNums_size, sub_len _ _ _ (by omega)]; omega
  clear hzl
  have HC := Lib.hid hc
  clear hc
  clear hnk

  go_wp2_with (first | (go_at_call 54; refine (HI _).mono ?_; rintro e w' ⟨rfl, rfl⟩))
  refine (validName _ W sz).mono ?_
  rintro e w1 ⟨rfl, hb⟩
  have B := below_next BW hb
  clear hb BW
  go_wp2
  go_ret
  exact ⟨rfl, B⟩
set_option maxRecDepth 100000 in
set_option maxHeartbeats 1000000 in
theorem litD0 (p g m n k cap : Nat) (L : Int) (zs : List Int) (w : World) (hz : zs.length = n) (hmn : n + 1 = m) (hnk : k + 1 = n) (hm : n ≤ 1048576) (hcap : m ≤ cap) (hcm : cap ≤ 2097152) (hc : Cells w g zs) (c0 : w.cell? ⟨p, 2087, none⟩ = some (.slice (some ⟨g, 0, none⟩) m cap)) (c1 : w.cell? ⟨p, 20, none⟩ = some (.int .i64 L)) (x : Int) (HI : ∀ w' : World, Calls Try.prog 54 #[.int .i64 L, .int .i64 9] w' fun e w1 => e = .returned (.bool true) ∧ w' = w1) (hz0 : zs.getD 0 0 = 123) (hzk : zs.getD k 0 = 125) (hj0 : 0 < k - 1) (hzl0 : zs.getD (k - 1) 0 = 93) (ex : Lib.indexByte (Lib.bytesOf (sub zs 1 (k - 1))) ((91 : Int).toNat.toUInt8) = x) (hx : ¬ 0 < x) :
    Calls Try.prog 51 #[.pointer (some ⟨p, 0, none⟩)] w fun e w' => e = .returned (.bool (vn (strOfNums (sub zs 1 (k - 1))))) ∧ Below w.heap.size w w' := by
  have hlt := lt_of_cell c0
  have wm : IntKind.i64.wrap ((m : Int) - 1) = (n : Int) := by rw [IntWalk.i64_in _ (by omega)]; omega
  have wn : IntKind.i64.wrap ((n : Int) - 1) = (k : Int) := by rw [IntWalk.i64_in _ (by omega)]; omega
  have i0 : (0 : Int) ≤ (n : Int) := by omega
  have i1 : (n : Int) ≤ (cap : Int) := by omega
  have i2 : (0 : Int) < (n : Int) := by omega
  have i3 : n ≤ cap := by omega
  have i4 : 0 < n := by omega
  have i5 : k < n := by omega
  have zc := hc 0 (by omega)
  have kc := hc k (by omega)
  obtain ⟨z0, e0⟩ : ∃ z, zs.getD 0 0 = z := ⟨_, rfl⟩
  obtain ⟨zk, ek⟩ : ∃ z, zs.getD k 0 = z := ⟨_, rfl⟩
  rw [e0] at zc
  rw [ek] at kc
  rw [e0] at hz0
  rw [ek] at hzk
  have h0 : (z0 == 123) = true := by simp [hz0]
  have hk : (zk == 125) = true := by simp [hzk]
  have hk0 : 1 ≤ k := by
    rcases Nat.eq_zero_or_pos k with e | e
    · exfalso
      rw [e] at ek
      omega
    · exact e
  have k1 : (1 : Int) ≤ (k : Int) := by omega
  have k2 : (k : Int) ≤ (cap : Int) := by omega
  have k3 : k ≤ cap := by omega
  have k4 : ¬ cap = 1 := by omega
  have k5 : 0 ≤ (k : Int) := by omega
  clear hz0 hzk
  obtain ⟨j, hj⟩ : ∃ j, k - 1 = j := ⟨_, rfl⟩
  have hj1 : j + 1 ≤ k ∧ k ≤ j + 1 := by omega
  rw [hj] at hj0 ⊢
  have j2 : (0 : Int) < (j : Int) := by omega
  obtain ⟨l, hl⟩ : ∃ l, l + 1 = j := ⟨j - 1, by omega⟩
  have wj : IntKind.i64.wrap ((j : Int) - 1) = (l : Int) := by rw [IntWalk.i64_in _ (by omega)]; omega
  have lj : l < j := by omega
  have l1 : 1 + l = k - 1 := by omega
  obtain ⟨zl, el⟩ : ∃ z, zs.getD (1 + l) 0 = z := ⟨_, rfl⟩
  rw [← l1] at hzl0
  rw [el] at hzl0
  clear l1 hl
  have q0 : (zl == 93) = true := by simp [hzl0]
  rw [hj] at ex
  have w2 : IntKind.i64.wrap ((j : Int) - 2) = (j : Int) - 2 := IntWalk.i64_in _ (by omega)
  clear hzl0
  have x0 : decide (0 < x) = false := decide_eq_false hx
  have HC := Lib.hid hc
  have HZ := Lib.hid hz
  clear hc hz hmn e0 ek
  go_enter Try.func51, Try.ntmps51
  go_wp2
  go_quiet (fail)
  refine then_world (fun W => Cells W g zs ∧ W.cell? ⟨p, 20, none⟩ = some (.int .i64 L) ∧ W.cell? ⟨g, 0, none⟩ = some (.int .u8 z0) ∧ W.cell? ⟨g, k, none⟩ = some (.int .u8 zk) ∧ Below w.heap.size w W)
    ⟨HC.out.later (below_drewN (Below.refl _ _) _), c1, zc, kc, below_drewN (Below.refl _ _) _⟩ ?_
  clear c0 c1 zc kc HC
  rintro W ⟨hc, c1, zc, kc, BW⟩
  have hzl := HZ.out
  have cv := run_convert_bytes_arg (P := Try.prog) W 25 5 Try.underlying25 Try.underlying5 g 1 j (cap - 1) (sub zs 1 j) (sub_len _ _ _ (by omega)) (fun i hi => by rw [sub_get _ _ _ _ hi]; exact hc (1 + i) (by omega)) 9 Try.underlying9
  have lc : W.cell? ⟨g, 1 + l, none⟩ = some (.int .u8 zl) := by rw [← el]; exact hc (1 + l) (by omega)
  clear el
  have HX := indexByte g 1 j (cap - 1) (sub zs 1 j) 91 W (sub_len _ _ _ (by omega)) (fun i hi => by rw [sub_get _ _ _ _ hi]; exact hc (1 + i) (by omega))
  rw [ex] at HX
  clear ex
  have sz : (strOfNums (sub zs 1 j)).size ≤ 1099511627776 := by rw [strOfNums_size, sub_len _ _ _ (by omega)]; omega
  clear hzl
  have HC := Lib.hid hc
  clear hc
  clear hnk

  go_wp2_with (first | (go_at_call 54; refine (HI _).mono ?_; rintro e w' ⟨rfl, rfl⟩) | (go_at_call 55; refine HX.mono ?_; rintro e w' ⟨rfl, rfl⟩))
  refine (validName _ W sz).mono ?_
  rintro e w1 ⟨rfl, hb⟩
  have B := below_next BW hb
  clear hb BW
  go_wp2
  go_ret
  exact ⟨rfl, B⟩
set_option maxRecDepth 100000 in
set_option maxHeartbeats 1000000 in
theorem litD1 (p g m n k cap : Nat) (L : Int) (zs : List Int) (w : World) (hz : zs.length = n) (hmn : n + 1 = m) (hnk : k + 1 = n) (hm : n ≤ 1048576) (hcap : m ≤ cap) (hcm : cap ≤ 2097152) (hc : Cells w g zs) (c0 : w.cell? ⟨p, 2087, none⟩ = some (.slice (some ⟨g, 0, none⟩) m cap)) (c1 : w.cell? ⟨p, 20, none⟩ = some (.int .i64 L)) (x : Int) (HI : ∀ w' : World, Calls Try.prog 54 #[.int .i64 L, .int .i64 9] w' fun e w1 => e = .returned (.bool true) ∧ w' = w1) (hz0 : zs.getD 0 0 = 123) (hzk : zs.getD k 0 = 125) (hj0 : 0 < k - 1) (hzl0 : zs.getD (k - 1) 0 = 93) (ex : Lib.indexByte (Lib.bytesOf (sub zs 1 (k - 1))) ((91 : Int).toNat.toUInt8) = x) (hx : 0 < x) (hx2 : ¬ x < ((k - 1 : Nat) : Int) - 2) :
    Calls Try.prog 51 #[.pointer (some ⟨p, 0, none⟩)] w fun e w' => e = .returned (.bool (vn (strOfNums (sub zs 1 (k - 1))))) ∧ Below w.heap.size w w' := by
  have hlt := lt_of_cell c0
  have wm : IntKind.i64.wrap ((m : Int) - 1) = (n : Int) := by rw [IntWalk.i64_in _ (by omega)]; omega
  have wn : IntKind.i64.wrap ((n : Int) - 1) = (k : Int) := by rw [IntWalk.i64_in _ (by omega)]; omega
  have i0 : (0 : Int) ≤ (n : Int) := by omega
  have i1 : (n : Int) ≤ (cap : Int) := by omega
  have i2 : (0 : Int) < (n : Int) := by omega
  have i3 : n ≤ cap := by omega
  have i4 : 0 < n := by omega
  have i5 : k < n := by omega
  have zc := hc 0 (by omega)
  have kc := hc k (by omega)
  obtain ⟨z0, e0⟩ : ∃ z, zs.getD 0 0 = z := ⟨_, rfl⟩
  obtain ⟨zk, ek⟩ : ∃ z, zs.getD k 0 = z := ⟨_, rfl⟩
  rw [e0] at zc
  rw [ek] at kc
  rw [e0] at hz0
  rw [ek] at hzk
  have h0 : (z0 == 123) = true := by simp [hz0]
  have hk : (zk == 125) = true := by simp [hzk]
  have hk0 : 1 ≤ k := by
    rcases Nat.eq_zero_or_pos k with e | e
    · exfalso
      rw [e] at ek
      omega
    · exact e
  have k1 : (1 : Int) ≤ (k : Int) := by omega
  have k2 : (k : Int) ≤ (cap : Int) := by omega
  have k3 : k ≤ cap := by omega
  have k4 : ¬ cap = 1 := by omega
  have k5 : 0 ≤ (k : Int) := by omega
  clear hz0 hzk
  obtain ⟨j, hj⟩ : ∃ j, k - 1 = j := ⟨_, rfl⟩
  have hj1 : j + 1 ≤ k ∧ k ≤ j + 1 := by omega
  rw [hj] at hj0 ⊢
  have j2 : (0 : Int) < (j : Int) := by omega
  obtain ⟨l, hl⟩ : ∃ l, l + 1 = j := ⟨j - 1, by omega⟩
  have wj : IntKind.i64.wrap ((j : Int) - 1) = (l : Int) := by rw [IntWalk.i64_in _ (by omega)]; omega
  have lj : l < j := by omega
  have l1 : 1 + l = k - 1 := by omega
  obtain ⟨zl, el⟩ : ∃ z, zs.getD (1 + l) 0 = z := ⟨_, rfl⟩
  rw [← l1] at hzl0
  rw [el] at hzl0
  clear l1 hl
  have q0 : (zl == 93) = true := by simp [hzl0]
  rw [hj] at ex
  have w2 : IntKind.i64.wrap ((j : Int) - 2) = (j : Int) - 2 := IntWalk.i64_in _ (by omega)
  clear hzl0
  rw [hj] at hx2
  have x0 : decide (x < (j : Int) - 2) = false := decide_eq_false hx2
  have HC := Lib.hid hc
  have HZ := Lib.hid hz
  clear hc hz hmn e0 ek
  go_enter Try.func51, Try.ntmps51
  go_wp2
  go_quiet (fail)
  refine then_world (fun W => Cells W g zs ∧ W.cell? ⟨p, 20, none⟩ = some (.int .i64 L) ∧ W.cell? ⟨g, 0, none⟩ = some (.int .u8 z0) ∧ W.cell? ⟨g, k, none⟩ = some (.int .u8 zk) ∧ Below w.heap.size w W)
    ⟨HC.out.later (below_drewN (Below.refl _ _) _), c1, zc, kc, below_drewN (Below.refl _ _) _⟩ ?_
  clear c0 c1 zc kc HC
  rintro W ⟨hc, c1, zc, kc, BW⟩
  have hzl := HZ.out
  have cv := run_convert_bytes_arg (P := Try.prog) W 25 5 Try.underlying25 Try.underlying5 g 1 j (cap - 1) (sub zs 1 j) (sub_len _ _ _ (by omega)) (fun i hi => by rw [sub_get _ _ _ _ hi]; exact hc (1 + i) (by omega)) 9 Try.underlying9
  have lc : W.cell? ⟨g, 1 + l, none⟩ = some (.int .u8 zl) := by rw [← el]; exact hc (1 + l) (by omega)
  clear el
  have HX := indexByte g 1 j (cap - 1) (sub zs 1 j) 91 W (sub_len _ _ _ (by omega)) (fun i hi => by rw [sub_get _ _ _ _ hi]; exact hc (1 + i) (by omega))
  rw [ex] at HX
  clear ex
  have sz : (strOfNums (sub zs 1 j)).size ≤ 1099511627776 := by rw [strOfNums_size, sub_len _ _ _ (by omega)]; omega
  clear hzl
  have HC := Lib.hid hc
  clear hc
  clear hnk

  go_wp2_with (first | (go_at_call 54; refine (HI _).mono ?_; rintro e w' ⟨rfl, rfl⟩) | (go_at_call 55; refine HX.mono ?_; rintro e w' ⟨rfl, rfl⟩))
  refine (validName _ W sz).mono ?_
  rintro e w1 ⟨rfl, hb⟩
  have B := below_next BW hb
  clear hb BW
  go_wp2
  go_ret
  exact ⟨rfl, B⟩
set_option maxRecDepth 100000 in
set_option maxHeartbeats 1000000 in
theorem litD2 (p g m n k cap : Nat) (L : Int) (zs : List Int) (w : World) (hz : zs.length = n) (hmn : n + 1 = m) (hnk : k + 1 = n) (hm : n ≤ 1048576) (hcap : m ≤ cap) (hcm : cap ≤ 2097152) (hc : Cells w g zs) (c0 : w.cell? ⟨p, 2087, none⟩ = some (.slice (some ⟨g, 0, none⟩) m cap)) (c1 : w.cell? ⟨p, 20, none⟩ = some (.int .i64 L)) (q : Nat) (HI : ∀ w' : World, Calls Try.prog 54 #[.int .i64 L, .int .i64 9] w' fun e w1 => e = .returned (.bool true) ∧ w' = w1) (hz0 : zs.getD 0 0 = 123) (hzk : zs.getD k 0 = 125) (hj0 : 0 < k - 1) (hzl0 : zs.getD (k - 1) 0 = 93) (ex : Lib.indexByte (Lib.bytesOf (sub zs 1 (k - 1))) ((91 : Int).toNat.toUInt8) = (q : Int)) (hx : 0 < q) (hx2 : (q : Int) < ((k - 1 : Nat) : Int) - 2) :
    Calls Try.prog 51 #[.pointer (some ⟨p, 0, none⟩)] w fun e w' => e = .returned (.bool (vn (strOfNums (sub zs 1 q)))) ∧ Below w.heap.size w w' := by
  have hlt := lt_of_cell c0
  have wm : IntKind.i64.wrap ((m : Int) - 1) = (n : Int) := by rw [IntWalk.i64_in _ (by omega)]; omega
  have wn : IntKind.i64.wrap ((n : Int) - 1) = (k : Int) := by rw [IntWalk.i64_in _ (by omega)]; omega
  have i0 : (0 : Int) ≤ (n : Int) := by omega
  have i1 : (n : Int) ≤ (cap : Int) := by omega
  have i2 : (0 : Int) < (n : Int) := by omega
  have i3 : n ≤ cap := by omega
  have i4 : 0 < n := by omega
  have i5 : k < n := by omega
  have zc := hc 0 (by omega)
  have kc := hc k (by omega)
  obtain ⟨z0, e0⟩ : ∃ z, zs.getD 0 0 = z := ⟨_, rfl⟩
  obtain ⟨zk, ek⟩ : ∃ z, zs.getD k 0 = z := ⟨_, rfl⟩
  rw [e0] at zc
  rw [ek] at kc
  rw [e0] at hz0
  rw [ek] at hzk
  have h0 : (z0 == 123) = true := by simp [hz0]
  have hk : (zk == 125) = true := by simp [hzk]
  have hk0 : 1 ≤ k := by
    rcases Nat.eq_zero_or_pos k with e | e
    · exfalso
      rw [e] at ek
      omega
    · exact e
  have k1 : (1 : Int) ≤ (k : Int) := by omega
  have k2 : (k : Int) ≤ (cap : Int) := by omega
  have k3 : k ≤ cap := by omega
  have k4 : ¬ cap = 1 := by omega
  have k5 : 0 ≤ (k : Int) := by omega
  clear hz0 hzk
  obtain ⟨j, hj⟩ : ∃ j, k - 1 = j := ⟨_, rfl⟩
  have hj1 : j + 1 ≤ k ∧ k ≤ j + 1 := by omega
  rw [hj] at hj0
  have j2 : (0 : Int) < (j : Int) := by omega
  obtain ⟨l, hl⟩ : ∃ l, l + 1 = j := ⟨j - 1, by omega⟩
  have wj : IntKind.i64.wrap ((j : Int) - 1) = (l : Int) := by rw [IntWalk.i64_in _ (by omega)]; omega
  have lj : l < j := by omega
  have l1 : 1 + l = k - 1 := by omega
  obtain ⟨zl, el⟩ : ∃ z, zs.getD (1 + l) 0 = z := ⟨_, rfl⟩
  rw [← l1] at hzl0
  rw [el] at hzl0
  clear l1 hl
  have q0 : (zl == 93) = true := by simp [hzl0]
  rw [hj] at ex
  have w2 : IntKind.i64.wrap ((j : Int) - 2) = (j : Int) - 2 := IntWalk.i64_in _ (by omega)
  clear hzl0
  rw [hj] at hx2
  have x1 : (0 : Int) < (q : Int) := by omega
  have x2 : (q : Int) ≤ ((cap - 1 : Nat) : Int) := by omega
  have x3 : q ≤ cap - 1 := by omega
  have x4 : q ≤ j := by omega
  have x5 : (0 : Int) ≤ (q : Int) := by omega
  have HC := Lib.hid hc
  have HZ := Lib.hid hz
  clear hc hz hmn e0 ek
  go_enter Try.func51, Try.ntmps51
  go_wp2
  go_quiet (fail)
  refine then_world (fun W => Cells W g zs ∧ W.cell? ⟨p, 20, none⟩ = some (.int .i64 L) ∧ W.cell? ⟨g, 0, none⟩ = some (.int .u8 z0) ∧ W.cell? ⟨g, k, none⟩ = some (.int .u8 zk) ∧ Below w.heap.size w W)
    ⟨HC.out.later (below_drewN (Below.refl _ _) _), c1, zc, kc, below_drewN (Below.refl _ _) _⟩ ?_
  clear c0 c1 zc kc HC
  rintro W ⟨hc, c1, zc, kc, BW⟩
  have hzl := HZ.out
  have cv := run_convert_bytes_arg (P := Try.prog) W 25 5 Try.underlying25 Try.underlying5 g 1 q (cap - 1) (sub zs 1 q) (sub_len _ _ _ (by omega)) (fun i hi => by rw [sub_get _ _ _ _ hi]; exact hc (1 + i) (by omega)) 9 Try.underlying9
  have lc : W.cell? ⟨g, 1 + l, none⟩ = some (.int .u8 zl) := by rw [← el]; exact hc (1 + l) (by omega)
  clear el
  have HX := indexByte g 1 j (cap - 1) (sub zs 1 j) 91 W (sub_len _ _ _ (by omega)) (fun i hi => by rw [sub_get _ _ _ _ hi]; exact hc (1 + i) (by omega))
  rw [ex] at HX
  clear ex
  have sz : (strOfNums (sub zs 1 q)).size ≤ 1099511627776 := by rw [strOfNums_size, sub_len _ _ _ (by omega)]; omega
  clear hzl
  have HC := Lib.hid hc
  clear hc
  clear hnk

  go_wp2_with (first | (go_at_call 54; refine (HI _).mono ?_; rintro e w' ⟨rfl, rfl⟩) | (go_at_call 55; refine HX.mono ?_; rintro e w' ⟨rfl, rfl⟩))
  refine (validName _ W sz).mono ?_
  rintro e w1 ⟨rfl, hb⟩
  have B := below_next BW hb
  clear hb BW
  go_wp2
  go_ret
  exact ⟨rfl, B⟩
end Go.Proofs.Ytccnpgmceoojmac.red
