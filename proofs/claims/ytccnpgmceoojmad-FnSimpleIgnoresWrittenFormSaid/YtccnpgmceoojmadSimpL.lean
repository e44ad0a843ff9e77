/-
  Whether a parameter expansion is written short or braced never changes the answer of simple: for every feature set.
-/
import Derived.Test.YtccnpgmceoojmadSimpB
namespace Go.Proofs.Ytccnpgmceoojmad.simp
open Go.RowKit
open Go.Proofs.Ytccnpgmceoojmad

def ansB (f sp gl rc nm : Int) : Bool := simB (bits .and .u32 f 1 != 0) (bits .and .u32 f 2 != 0) (bits .and .u32 f 4 != 0) (bits .and .u32 f 8 != 0) (bits .and .u32 f 16 != 0) (bits .and .u32 f 32 != 0) (bits .and .u32 f 64 != 0) (bits .and .u32 f 128 != 0) (bits .and .u32 f 256 != 0) (bits .and .u32 f 512 != 0) (bits .and .u32 f 1024 != 0) (bits .and .u32 f 2048 != 0) sp gl rc nm
theorem and_or (g k m : Int) (hg0 : 0 ≤ g) (hg1 : g ≤ 4294967295) (hk0 : 0 ≤ k) (hk1 : k ≤ 4294967295) (hm0 : 0 ≤ m) (hm1 : m ≤ 4294967295) (h : k.toNat &&& m.toNat = 0) : bits .and .u32 (bits .or .u32 g k) m = bits .and .u32 g m := by
  obtain ⟨a, rfl⟩ := Int.eq_ofNat_of_zero_le hg0
  obtain ⟨b, rfl⟩ := Int.eq_ofNat_of_zero_le hk0
  obtain ⟨c, rfl⟩ := Int.eq_ofNat_of_zero_le hm0
  have ho : a ||| b < 2 ^ 32 := Nat.or_lt_two_pow (by omega) (by omega)
  rw [u32_or _ _ (by omega) (by omega) (by omega) (by omega)]
  rw [u32_and _ _ (by omega) (by simp; omega) (by omega) (by omega), u32_and _ _ (by omega) (by omega) (by omega) (by omega)]
  simp only [Int.toNat_natCast] at *
  rw [Nat.and_or_distrib_right, h]
  simp
theorem ans_or (g k sp gl rc nm : Int) (hg0 : 0 ≤ g) (hg1 : g ≤ 4294967295) (hk0 : 0 ≤ k) (hk1 : k ≤ 4294967295) (h0 : k.toNat &&& 1 = 0) (h1 : k.toNat &&& 2 = 0) (h2 : k.toNat &&& 4 = 0) (h3 : k.toNat &&& 8 = 0) (h4 : k.toNat &&& 16 = 0) (h5 : k.toNat &&& 32 = 0) (h6 : k.toNat &&& 64 = 0) (h7 : k.toNat &&& 128 = 0) (h8 : k.toNat &&& 256 = 0) (h9 : k.toNat &&& 512 = 0) (h10 : k.toNat &&& 1024 = 0) (h11 : k.toNat &&& 2048 = 0) : ansB (bits .or .u32 g k) sp gl rc nm = ansB g sp gl rc nm := by
  unfold ansB
  rw [and_or g k 1 hg0 hg1 hk0 hk1 (by omega) (by omega) h0, and_or g k 2 hg0 hg1 hk0 hk1 (by omega) (by omega) h1, and_or g k 4 hg0 hg1 hk0 hk1 (by omega) (by omega) h2, and_or g k 8 hg0 hg1 hk0 hk1 (by omega) (by omega) h3, and_or g k 16 hg0 hg1 hk0 hk1 (by omega) (by omega) h4, and_or g k 32 hg0 hg1 hk0 hk1 (by omega) (by omega) h5, and_or g k 64 hg0 hg1 hk0 hk1 (by omega) (by omega) h6, and_or g k 128 hg0 hg1 hk0 hk1 (by omega) (by omega) h7, and_or g k 256 hg0 hg1 hk0 hk1 (by omega) (by omega) h8, and_or g k 512 hg0 hg1 hk0 hk1 (by omega) (by omega) h9, and_or g k 1024 hg0 hg1 hk0 hk1 (by omega) (by omega) h10, and_or g k 2048 hg0 hg1 hk0 hk1 (by omega) (by omega) h11]
theorem zS (f sp gl rc nm : Int) (w W : World) (e : Ending) (hB : Built f sp gl rc nm w e W) : ∃ p : Nat, e = .returned (.pointer (some ⟨p, 0, none⟩)) ∧ Below w.heap.size w W ∧ Calls Try.prog 7 #[.pointer (some ⟨p, 0, none⟩)] W fun e' w' => e' = .returned (.bool (ansB f sp gl rc nm)) ∧ W = w' := by
  obtain ⟨V, rfl, hR, hF, h10, h11, h12, h19⟩ := hB
  refine ⟨_, rfl, hR.bel, ?_⟩
  have HS := simple _ _ _ _ _ _ _ _ _ _ _ _ sp gl rc nm w.heap.size V W hF h10 h11 h12 h19 hR.cell
  go_enter Try.func7, Try.ntmps7
  go_wp2_with (go_at_call 23; refine HS.mono ?_; rintro e w' ⟨rfl, rfl⟩)
  go_ret
  exact ⟨rfl, rfl⟩
set_option maxRecDepth 100000 in
set_option maxHeartbeats 4000000 in
theorem law (f sp gl rc nm : Int) (w : World) (hf0 : 0 ≤ f) (hf1 : f ≤ 4294967295) : Calls Try.prog 3 #[.int .u32 f, .int .u8 sp, .int .u8 gl, .int .u8 rc, .int .u32 nm] w fun e w' => e = .returned (.bool true) ∧ Below w.heap.size w w' := by
  have hg : 0 ≤ bits .andNot .u32 f 28672 ∧ bits .andNot .u32 f 28672 ≤ 4294967295 := by
    obtain ⟨n, rfl⟩ := Int.eq_ofNat_of_zero_le hf0
    rw [show (28672 : Int) = ((28672 : Nat) : Int) from rfl, u32_andNot_nat n 28672 (by omega) (by omega)]
    have : n &&& (4294967295 - 28672) ≤ n := Nat.and_le_left
    omega
  go_enter Try.func3, Try.ntmps3
  go_wp2_with fail
  obtain ⟨g, eg⟩ : ∃ g, g = bits .andNot .u32 f 28672 := ⟨_, rfl⟩
  rw [← eg] at hg ⊢
  clear eg
  have x1 := ans_or g 4096 sp gl rc nm hg.1 hg.2 (by omega) (by omega) (by decide) (by decide) (by decide) (by decide) (by decide) (by decide) (by decide) (by decide) (by decide) (by decide) (by decide) (by decide)
  have x2 := ans_or g 8192 sp gl rc nm hg.1 hg.2 (by omega) (by omega) (by decide) (by decide) (by decide) (by decide) (by decide) (by decide) (by decide) (by decide) (by decide) (by decide) (by decide) (by decide)
  have x3 := ans_or g 12288 sp gl rc nm hg.1 hg.2 (by omega) (by omega) (by decide) (by decide) (by decide) (by decide) (by decide) (by decide) (by decide) (by decide) (by decide) (by decide) (by decide) (by decide)
  have x4 := ans_or g 16384 sp gl rc nm hg.1 hg.2 (by omega) (by omega) (by decide) (by decide) (by decide) (by decide) (by decide) (by decide) (by decide) (by decide) (by decide) (by decide) (by decide) (by decide)
  have x5 := ans_or g 20480 sp gl rc nm hg.1 hg.2 (by omega) (by omega) (by decide) (by decide) (by decide) (by decide) (by decide) (by decide) (by decide) (by decide) (by decide) (by decide) (by decide) (by decide)
  have x6 := ans_or g 24576 sp gl rc nm hg.1 hg.2 (by omega) (by omega) (by decide) (by decide) (by decide) (by decide) (by decide) (by decide) (by decide) (by decide) (by decide) (by decide) (by decide) (by decide)
  have x7 := ans_or g 28672 sp gl rc nm hg.1 hg.2 (by omega) (by omega) (by decide) (by decide) (by decide) (by decide) (by decide) (by decide) (by decide) (by decide) (by decide) (by decide) (by decide) (by decide)
  obtain ⟨a, ea⟩ : ∃ a, ansB g sp gl rc nm = a := ⟨_, rfl⟩
  rw [ea] at x1
  have X1 := Lib.hid x1
  clear x1
  rw [ea] at x2
  have X2 := Lib.hid x2
  clear x2
  rw [ea] at x3
  have X3 := Lib.hid x3
  clear x3
  rw [ea] at x4
  have X4 := Lib.hid x4
  clear x4
  rw [ea] at x5
  have X5 := Lib.hid x5
  clear x5
  rw [ea] at x6
  have X6 := Lib.hid x6
  clear x6
  rw [ea] at x7
  have X7 := Lib.hid x7
  clear x7
  have EA := Lib.hid ea
  clear ea
  refine (build g sp gl rc nm w).mono ?_
  intro e W hB
  obtain ⟨p, rfl, B, HC⟩ := zS g sp gl rc nm w W e hB
  rw [EA.out] at HC
  clear hB
  go_wp2_with (go_at_call 7; refine HC.mono ?_; rintro e w' ⟨rfl, rfl⟩)
  clear HC
  refine wp_loop_rounds 8 ?_
  rw [rounds_succ]
  go_wp2_with fail
  refine (build _ sp gl rc nm _).mono ?_
  intro e W1 hB
  obtain ⟨p1, rfl, B1, HC⟩ := zS _ sp gl rc nm _ W1 e hB
  rw [X1.out] at HC
  have B' := below_next B B1
  clear hB B B1
  have B := B'
  clear B'
  go_wp2_with (go_at_call 7; refine HC.mono ?_; rintro e w' ⟨rfl, rfl⟩)
  clear HC
  rw [rounds_succ]
  go_wp2_with fail
  refine (build _ sp gl rc nm _).mono ?_
  intro e W2 hB
  obtain ⟨p2, rfl, B2, HC⟩ := zS _ sp gl rc nm _ W2 e hB
  rw [X2.out] at HC
  have B' := below_next B B2
  clear hB B B2
  have B := B'
  clear B'
  go_wp2_with (go_at_call 7; refine HC.mono ?_; rintro e w' ⟨rfl, rfl⟩)
  clear HC
  rw [rounds_succ]
  go_wp2_with fail
  refine (build _ sp gl rc nm _).mono ?_
  intro e W3 hB
  obtain ⟨p3, rfl, B3, HC⟩ := zS _ sp gl rc nm _ W3 e hB
  rw [X3.out] at HC
  have B' := below_next B B3
  clear hB B B3
  have B := B'
  clear B'
  go_wp2_with (go_at_call 7; refine HC.mono ?_; rintro e w' ⟨rfl, rfl⟩)
  clear HC
  rw [rounds_succ]
  go_wp2_with fail
  refine (build _ sp gl rc nm _).mono ?_
  intro e W4 hB
  obtain ⟨p4, rfl, B4, HC⟩ := zS _ sp gl rc nm _ W4 e hB
  rw [X4.out] at HC
  have B' := below_next B B4
  clear hB B B4
  have B := B'
  clear B'
  go_wp2_with (go_at_call 7; refine HC.mono ?_; rintro e w' ⟨rfl, rfl⟩)
  clear HC
  rw [rounds_succ]
  go_wp2_with fail
  refine (build _ sp gl rc nm _).mono ?_
  intro e W5 hB
  obtain ⟨p5, rfl, B5, HC⟩ := zS _ sp gl rc nm _ W5 e hB
  rw [X5.out] at HC
  have B' := below_next B B5
  clear hB B B5
  have B := B'
  clear B'
  go_wp2_with (go_at_call 7; refine HC.mono ?_; rintro e w' ⟨rfl, rfl⟩)
  clear HC
  rw [rounds_succ]
  go_wp2_with fail
  refine (build _ sp gl rc nm _).mono ?_
  intro e W6 hB
  obtain ⟨p6, rfl, B6, HC⟩ := zS _ sp gl rc nm _ W6 e hB
  rw [X6.out] at HC
  have B' := below_next B B6
  clear hB B B6
  have B := B'
  clear B'
  go_wp2_with (go_at_call 7; refine HC.mono ?_; rintro e w' ⟨rfl, rfl⟩)
  clear HC
  rw [rounds_succ]
  go_wp2_with fail
  refine (build _ sp gl rc nm _).mono ?_
  intro e W7 hB
  obtain ⟨p7, rfl, B7, HC⟩ := zS _ sp gl rc nm _ W7 e hB
  rw [X7.out] at HC
  have B' := below_next B B7
  clear hB B B7
  have B := B'
  clear B'
  go_wp2_with (go_at_call 7; refine HC.mono ?_; rintro e w' ⟨rfl, rfl⟩)
  clear HC
  rw [rounds_succ]
  go_wp2
  go_ret
  exact ⟨rfl, B⟩
end Go.Proofs.Ytccnpgmceoojmad.simp
