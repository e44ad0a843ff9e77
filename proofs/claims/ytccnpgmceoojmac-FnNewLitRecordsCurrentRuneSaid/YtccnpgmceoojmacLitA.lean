/-
  The law's own helpers on slices of bytes (clone, join, compare, encode), utf8.RuneLen, and the parser's newLit and endLit: what they leave in memory.
-/
import Derived.Test.YtccnpgmceoojmacRedL
import Derived.Laws.BitsAllLaws
import Derived.Lib.JoinLaws
namespace Go.Proofs.Ytccnpgmceoojmac.lit
open Go.RowKit
open Go.Proofs.Ytccnpgmceoojmac
open Go.Proofs.Ytccnpgmceoojmac.red

structure Sl (w : World) (a : Option Addr) (n : Nat) (zs : List Int) : Prop where
  len : zs.length = n
  row : ∀ i, i < n → ∃ b off, a = some ⟨b, off, none⟩ ∧ w.cell? ⟨b, off + i, none⟩ = some (.int .u8 (zs.getD i 0))
theorem Sl.later {w wx : World} {a : Option Addr} {n : Nat} {zs : List Int} (h : Sl w a n zs) (hb : Below w.heap.size w wx) : Sl wx a n zs :=
  ⟨h.len, fun i hi => by obtain ⟨b, off, e, c⟩ := h.row i hi; exact ⟨b, off, e, cell_later hb c⟩⟩
theorem Sl.ofCells {w : World} {g n : Nat} {zs : List Int} (hn : zs.length = n) (h : Cells w g zs) : Sl w (some ⟨g, 0, none⟩) n zs :=
  ⟨hn, fun i hi => ⟨g, 0, rfl, by rw [Nat.zero_add]; exact h i (by omega)⟩⟩
theorem isRowB_later {w wx : World} {a : Option Addr} {n cap : Nat} {zs : List Int} (h : IsRowB .u8 w a n cap zs) (hb : Below w.heap.size w wx) : IsRowB .u8 wx a n cap zs := by
  rcases h with h | ⟨x, h1, h2, h3, h4, h5, h6⟩
  · exact Or.inl h
  · exact Or.inr ⟨x, h1, h2, h3, h4, fun i hi => cell_later hb (h5 i hi), h6⟩
def Cloned (n : Nat) (zs : List Int) (w : World) (e : Ending) (w' : World) : Prop := ∃ a c, e = .returned (.slice a n c) ∧ Sl w' a n (zs.take n) ∧ Below w.heap.size w w'
theorem clone (a : Option Addr) (n cap : Nat) (zs : List Int) (w : World) (hm : n ≤ 65536) (h : IsRowB .u8 w a n cap zs) : Calls Try.prog 12 #[.slice a n cap] w (Cloned n zs w) := by
  rcases h with ⟨rfl, rfl, rfl, rfl⟩ | ⟨x, rfl, hl, hx, hz, hcell, hwz⟩
  · exact (cp_nil w).mono fun e w' ⟨h1, h2⟩ => ⟨none, 0, h1, ⟨rfl, fun i hi => absurd hi (by omega)⟩, h2 ▸ Below.refl _ _⟩
  · by_cases h0 : n = 0
    · subst h0
      exact (cp_zero x cap zs w).mono fun e w' ⟨h1, h2⟩ => ⟨_, _, h1, ⟨by simp, fun i hi => absurd hi (by omega)⟩, h2 ▸ (Below.refl _ _).alloc (Nat.le_refl _) _⟩
    · obtain ⟨b, off, rfl, hc⟩ := row_at hcell (by omega)
      refine (cp_pos b off n cap zs w (by omega) (by omega) (fun i hi => hc i (by omega))).mono fun e w' ⟨h1, h2⟩ => ⟨_, _, h1, ⟨by simp; omega, fun i hi => ⟨w.heap.size, 0, rfl, ?_⟩⟩, h2 ▸ (Below.refl _ _).alloc (Nat.le_refl _) _⟩
      have h := RowAt.copy .u8 w 5 n zs i hi
      have e1 : (zs.take n).getD i 0 = zs.getD i 0 := by simp [List.getD_eq_getElem?_getD, List.getElem?_take, hi]
      rw [e1, Nat.zero_add, ← h2]
      exact h
theorem map_get (l : List Int) (i : Nat) (h : i < l.length) : (l.map (Value.int .u8))[i]? = some (.int .u8 (l.getD i 0)) := by
  simp [List.getD_eq_getElem?_getD, h]
theorem snoc_app (ps zs : List Int) (j : Nat) (h : j < zs.length) : (ps ++ zs.take (j + 1)).map (Value.int .u8) = (ps ++ zs.take j).map (Value.int .u8) ++ [.int .u8 (zs.getD j 0)] := by
  rw [List.map_append, List.map_append, take_snoc zs j h, List.append_assoc]
set_option maxRecDepth 100000 in
set_option maxHeartbeats 4000000 in
theorem join (a1 a2 a3 : Option Addr) (n1 n2 n3 c1 c2 c3 M : Nat) (z1 z2 z3 : List Int) (w : World) (S1 : Hid (Sl w a1 n1 z1)) (S2 : Hid (Sl w a2 n2 z2)) (S3 : Hid (Sl w a3 n3 z3)) (h1 : n1 ≤ 65536) (h2 : n2 ≤ 4) (h3 : n3 ≤ 65536) (hM : n1 + n2 + n3 ≤ M ∧ M ≤ n1 + n2 + n3) :
    Calls Try.prog 18 #[.slice a1 n1 c1, .slice a2 n2 c2, .slice a3 n3 c3] w fun e w' => e = .returned (.slice (some ⟨w.heap.size, 0, none⟩) (n1 + n2 + n3) M) ∧ Cells w' w.heap.size (z1 ++ z2 ++ z3) ∧ Below w.heap.size w w' := by
  obtain ⟨i0, hi, hz0, hz1, hz2⟩ := info_parts info5
  have y1 : IntKind.i64.wrap ((n1 : Int) + (n2 : Int)) = (n1 : Int) + (n2 : Int) := IntWalk.i64_in _ (by omega)
  have y2 : IntKind.i64.wrap ((n1 : Int) + (n2 : Int) + (n3 : Int)) = (M : Int) := by rw [IntWalk.i64_in _ (by omega)]; omega
  have y3 : (n1 : Int) + (n2 : Int) + (n3 : Int) = (M : Int) := by omega
  have hmk : (Instr.makeSlice 25 (.int .i64 0) (.int .i64 (M : Int))).run Try.prog w = .ok (.slice (some ⟨w.heap.size, 0, none⟩) 0 M) (w.alloc (.cells (madeCells #[.int .u8 0] M) 5)) := by
    have h := run_make (P := Try.prog) w 25 5 i0 (.int .u8 0) Try.underlying25 hi hz0 .i64 .i64 0 M (by omega) (by omega) (by rw [hz2]; omega) (by omega)
    rw [hz1] at h
    simpa [Value.cells] using h
  have ho0 := World.ownsRow_made (base := w.heap.size) (e := 5) (size := 1) w (madeCells #[.int .u8 0] M) M (Nat.le_refl _) (by unfold maxLen; omega) (by rw [size_madeCells]; omega)
  go_enter Try.func18, Try.ntmps18
  go_wp2
  clear hmk y1 y2 y3
  go_loopw [7, 8] (fun v i wr => ∃ j : Nat, j ≤ n1 ∧ i = .int .i64 j ∧ v = .slice (some ⟨w.heap.size, 0, none⟩) (j) M ∧ wr.ownsRow w.heap.size 5 1 (.slice (some ⟨w.heap.size, 0, none⟩) (j) M) (j) ((z1.take j).map (Value.int .u8)) ∧ Below w.heap.size w wr) (fun _ i _ => n1 - (intOf i).toNat)
  case atStart => exact ⟨0, by omega, rfl, rfl, by simpa using ho0, by go_grown⟩
  case round =>
    clear ho0
    obtain ⟨j, hj, rfl, rfl, hown, BW⟩ := hrel
    by_cases hlt : j < n1
    · obtain ⟨b, off, ea, cj⟩ := (S1.out.later BW).row j hlt
      have HS := Lib.hid (take_snoc z1 j (by rw [S1.out.len]; exact hlt))
      subst ea
      generalize z1.getD j 0 = zj at *
      have hroom : j + 1 ≤ M := by omega
      go_wp2_with (at_builtin; refine wpList_append_own_spare _ rfl _ _ 25 rfl w.heap.size 5 i0 1 Try.underlying25 hi hz1 w.heap.size j M _ rfl (hown.alloc _) ⟨wr.heap.size, 0, none⟩ 1 1 [.int .u8 zj] rfl rfl (cell_one_new _ _ _) (one1 _) hroom ?_; intro w1 hown1 hgrow1)
      have B1 := below_grown (BW.alloc BW.size _) hgrow1 (Nat.le_refl _)
      rw [← HS.out] at hown1
      clear hgrow1 hown BW cj
      go_wp2
      go_roundw
      case rel => exact ⟨j + 1, by omega, by go_num, rfl, hown1, B1⟩
      case measure => simp [intOf]; omega
    · obtain rfl : j = n1 := by omega
      have hf : z1.take j = z1 := by rw [← S1.out.len]; exact List.take_length
      rw [hf] at hown
      clear hf
      obtain ⟨n1, rfl⟩ : ∃ n1 : Nat, n1 = j := ⟨_, rfl⟩
      obtain ⟨w0e, rfl⟩ : ∃ x : World, x = wr := ⟨_, rfl⟩
      go_wp2
      go_loopw [7, 9] (fun v i wr => ∃ j : Nat, j ≤ n2 ∧ i = .int .i64 j ∧ v = .slice (some ⟨w.heap.size, 0, none⟩) (n1 + j) M ∧ wr.ownsRow w.heap.size 5 1 (.slice (some ⟨w.heap.size, 0, none⟩) (n1 + j) M) (n1 + j) ((z1 ++ z2.take j).map (Value.int .u8)) ∧ Below w.heap.size w wr) (fun _ i _ => n2 - (intOf i).toNat)
      case atStart => exact ⟨0, by omega, rfl, rfl, by simpa using hown, BW⟩
      case round =>
        clear hown BW
        obtain ⟨j, hj, rfl, rfl, hown, BW⟩ := hrel
        by_cases hlt : j < n2
        · obtain ⟨b, off, ea, cj⟩ := (S2.out.later BW).row j hlt
          have HS := Lib.hid (snoc_app z1 z2 j (by rw [S2.out.len]; exact hlt))
          subst ea
          generalize z2.getD j 0 = zj at *
          have hroom : n1 + j + 1 ≤ M := by omega
          go_wp2_with (at_builtin; refine wpList_append_own_spare _ rfl _ _ 25 rfl w.heap.size 5 i0 1 Try.underlying25 hi hz1 w.heap.size (n1 + j) M _ rfl (hown.alloc _) ⟨wr.heap.size, 0, none⟩ 1 1 [.int .u8 zj] rfl rfl (cell_one_new _ _ _) (one1 _) hroom ?_; intro w1 hown1 hgrow1)
          have B1 := below_grown (BW.alloc BW.size _) hgrow1 (Nat.le_refl _)
          rw [← HS.out] at hown1
          clear hgrow1 hown BW cj
          go_wp2
          go_roundw
          case rel => exact ⟨j + 1, by omega, by go_num, rfl, hown1, B1⟩
          case measure => simp [intOf]; omega
        · obtain rfl : j = n2 := by omega
          have hf : z2.take j = z2 := by rw [← S2.out.len]; exact List.take_length
          rw [hf] at hown
          clear hf
          obtain ⟨n2, rfl⟩ : ∃ n2 : Nat, n2 = j := ⟨_, rfl⟩
          obtain ⟨w1e, rfl⟩ : ∃ x : World, x = wr := ⟨_, rfl⟩
          go_wp2
          go_loopw [7, 10] (fun v i wr => ∃ j : Nat, j ≤ n3 ∧ i = .int .i64 j ∧ v = .slice (some ⟨w.heap.size, 0, none⟩) (n1 + n2 + j) M ∧ wr.ownsRow w.heap.size 5 1 (.slice (some ⟨w.heap.size, 0, none⟩) (n1 + n2 + j) M) (n1 + n2 + j) (((z1 ++ z2) ++ z3.take j).map (Value.int .u8)) ∧ Below w.heap.size w wr) (fun _ i _ => n3 - (intOf i).toNat)
          case atStart => exact ⟨0, by omega, rfl, rfl, by simpa using hown, BW⟩
          case round =>
            clear hown BW
            obtain ⟨j, hj, rfl, rfl, hown, BW⟩ := hrel
            by_cases hlt : j < n3
            · obtain ⟨b, off, ea, cj⟩ := (S3.out.later BW).row j hlt
              have HS := Lib.hid (snoc_app (z1 ++ z2) z3 j (by rw [S3.out.len]; exact hlt))
              subst ea
              generalize z3.getD j 0 = zj at *
              have hroom : n1 + n2 + j + 1 ≤ M := by omega
              go_wp2_with (at_builtin; refine wpList_append_own_spare _ rfl _ _ 25 rfl w.heap.size 5 i0 1 Try.underlying25 hi hz1 w.heap.size (n1 + n2 + j) M _ rfl (hown.alloc _) ⟨wr.heap.size, 0, none⟩ 1 1 [.int .u8 zj] rfl rfl (cell_one_new _ _ _) (one1 _) hroom ?_; intro w1 hown1 hgrow1)
              have B1 := below_grown (BW.alloc BW.size _) hgrow1 (Nat.le_refl _)
              rw [← HS.out] at hown1
              clear hgrow1 hown BW cj
              go_wp2
              go_roundw
              case rel => exact ⟨j + 1, by omega, by go_num, rfl, hown1, B1⟩
              case measure => simp [intOf]; omega
            · obtain rfl : j = n3 := by omega
              have hf : z3.take j = z3 := by rw [← S3.out.len]; exact List.take_length
              rw [hf] at hown
              clear hf
              obtain ⟨n3, rfl⟩ : ∃ n3 : Nat, n3 = j := ⟨_, rfl⟩
              obtain ⟨w2e, rfl⟩ : ∃ x : World, x = wr := ⟨_, rfl⟩
              go_wp2
              go_ret
              refine ⟨rfl, cells_of_own hown (fun i hi => map_get _ i hi), BW⟩
set_option maxRecDepth 100000 in
set_option maxHeartbeats 2000000 in
theorem equal (a b : Option Addr) (n c d : Nat) (zs : List Int) (w : World) (S1 : Hid (Sl w a n zs)) (S2 : Hid (Sl w b n zs)) (hm : n ≤ 1048576) :
    Calls Try.prog 24 #[.slice a n c, .slice b n d] w fun e w' => e = .returned (.bool true) ∧ Below w.heap.size w w' := by
  go_enter Try.func24, Try.ntmps24
  go_wp2
  go_loopw [5] (fun i wr => ∃ j : Nat, j ≤ n ∧ i = .int .i64 j ∧ Below w.heap.size w wr) (fun i _ => n - (intOf i).toNat)
  case atStart => exact ⟨0, by omega, rfl, Below.refl _ _⟩
  case round =>
    obtain ⟨j, hj, rfl, BW⟩ := hrel
    by_cases hlt : j < n
    · obtain ⟨b1, o1, e1, c1⟩ := (S1.out.later BW).row j hlt
      obtain ⟨b2, o2, e2, c2⟩ := (S2.out.later BW).row j hlt
      subst e1
      subst e2
      generalize zs.getD j 0 = zj at *
      have k1 : (0 : Int) ≤ (j : Int) := by omega
      have k2 : (j : Int) < (n : Int) := by omega
      have k3 : (zj != zj) = false := by simp
      go_wp2
      go_quiet (fail)
      go_wp2
      go_roundw
      case rel => exact ⟨j + 1, by omega, by go_num, below_drewN BW _⟩
      case measure => simp [intOf]; omega
    · obtain rfl : j = n := by omega
      go_wp2
      go_ret
      exact ⟨rfl, BW⟩
theorem sent (r : Int) (b : Bool) (w : World) (h : (decide (r = 1114112) || decide (r = 1114113)) = b) : Calls Try.prog 15 #[.int .i32 r] w fun e w' => e = .returned (.bool b) ∧ w = w' := by
  by_cases h1 : r = 1114112
  · subst h1
    subst h
    go_enter Try.func15, Try.ntmps15
    go_wp2
    go_ret
    exact ⟨rfl, rfl⟩
  by_cases h2 : r = 1114113
  · subst h2
    subst h
    go_enter Try.func15, Try.ntmps15
    go_wp2
    go_ret
    exact ⟨rfl, rfl⟩
  have g1 : (r == 1114112) = false := by simp [h1]
  have g2 : (r == 1114113) = false := by simp [h2]
  have hb : b = false := by rw [← h]; simp [h1, h2]
  subst hb
  clear h h1 h2
  go_enter Try.func15, Try.ntmps15
  go_wp2
  go_ret
  exact ⟨rfl, rfl⟩
def valB (r : Int) : Bool := decide (0 ≤ r ∧ r ≤ 1114111 ∧ ¬ (55296 ≤ r ∧ r ≤ 57343))
theorem valid (r : Int) (w : World) : Calls Try.prog 16 #[.int .i32 r] w fun e w' => e = .returned (.bool (valB r)) ∧ w = w' := by
  go_enter Try.func16, Try.ntmps16
  go_wp2
  all_goals
    go_ret
    refine ⟨ret_bool ?_, rfl⟩
    rw [Bool.eq_iff_iff]
    simp [valB] at *
    try omega
def rlen (r : Int) : Nat := if r < 128 then 1 else if r < 2048 then 2 else if r < 65536 then 3 else 4
def Enc (r : Int) (w : World) (e : Ending) (w' : World) : Prop := ∃ xs : List Int, e = .returned (.slice (some ⟨w.heap.size, 0, none⟩) (rlen r) (rlen r)) ∧ xs.length = rlen r ∧ Cells w' w.heap.size xs ∧ (r < 128 → xs = [r]) ∧ Below w.heap.size w w'
theorem cells_new (w : World) (xs : List Int) (T : TypeId) : Cells (w.alloc (.cells (xs.map (Value.int .u8)).toArray T)) w.heap.size xs := fun i hi => by
  rw [cell_new]
  simp [List.getD_eq_getElem?_getD, hi]
theorem enc1 (r : Int) (w : World) (h0 : 0 ≤ r) (h1 : r < 128) : Calls Try.prog 17 #[.int .i32 r] w (Enc r w) := by
  have HR := Lib.hid (show rlen r = 1 by unfold rlen; rw [if_pos h1])
  go_enter Try.func17, Try.ntmps17
  go_wp2
  go_ret
  unfold Enc
  rw [HR.out]
  refine ⟨[_], rfl, rfl, cells_new _ _ _, ?_, by go_grown⟩
  intro _; rfl
theorem enc2 (r : Int) (w : World) (h0 : 0 ≤ r) (h1 : ¬ r < 128) (h2 : r < 2048) : Calls Try.prog 17 #[.int .i32 r] w (Enc r w) := by
  have HR := Lib.hid (show rlen r = 2 by unfold rlen; rw [if_neg h1, if_pos h2])
  go_enter Try.func17, Try.ntmps17
  go_wp2
  go_ret
  unfold Enc
  rw [HR.out]
  refine ⟨[_, _], rfl, rfl, cells_new _ _ _, ?_, by go_grown⟩
  intro h; omega
theorem enc3 (r : Int) (w : World) (h0 : 0 ≤ r) (h1 : ¬ r < 128) (h2 : ¬ r < 2048) (h3 : r < 65536) : Calls Try.prog 17 #[.int .i32 r] w (Enc r w) := by
  have HR := Lib.hid (show rlen r = 3 by unfold rlen; rw [if_neg h1, if_neg h2, if_pos h3])
  go_enter Try.func17, Try.ntmps17
  go_wp2
  go_ret
  unfold Enc
  rw [HR.out]
  refine ⟨[_, _, _], rfl, rfl, cells_new _ _ _, ?_, by go_grown⟩
  intro h; omega
theorem enc4 (r : Int) (w : World) (h0 : 0 ≤ r) (h1 : ¬ r < 128) (h2 : ¬ r < 2048) (h3 : ¬ r < 65536) (h4 : r ≤ 1114111) : Calls Try.prog 17 #[.int .i32 r] w (Enc r w) := by
  have HR := Lib.hid (show rlen r = 4 by unfold rlen; rw [if_neg h1, if_neg h2, if_neg h3])
  go_enter Try.func17, Try.ntmps17
  go_wp2
  go_ret
  unfold Enc
  rw [HR.out]
  refine ⟨[_, _, _, _], rfl, rfl, cells_new _ _ _, ?_, by go_grown⟩
  intro h; omega
theorem encode (r : Int) (w : World) (h : valB r = true) : Calls Try.prog 17 #[.int .i32 r] w (Enc r w) := by
  have hv : 0 ≤ r ∧ r ≤ 1114111 := by simp [valB] at h; omega
  by_cases h1 : r < 128
  · exact enc1 r w hv.1 h1
  by_cases h2 : r < 2048
  · exact enc2 r w hv.1 h1 h2
  by_cases h3 : r < 65536
  · exact enc3 r w hv.1 h1 h2 h3
  · exact enc4 r w hv.1 h1 h2 h3 hv.2
theorem runeLen (r : Int) (w : World) (h : valB r = true) : Calls Try.prog 52 #[.int .i32 r] w fun e w' => e = .returned (.int .i64 (rlen r : Int)) ∧ w = w' := by
  have hv : 0 ≤ r ∧ r ≤ 1114111 ∧ ¬ (55296 ≤ r ∧ r ≤ 57343) := by simp [valB] at h; omega
  have g0 : ¬ r < 0 := by omega
  by_cases h1 : r < 128
  · have HR := Lib.hid (show rlen r = 1 by unfold rlen; rw [if_pos h1])
    have g1 : r ≤ 127 := by omega
    clear hv h
    go_enter Try.func52, Try.ntmps52
    go_wp2
    go_ret
    exact ⟨by rw [HR.out]; rfl, rfl⟩
  have g1 : ¬ r ≤ 127 := by omega
  by_cases h2 : r < 2048
  · have HR := Lib.hid (show rlen r = 2 by unfold rlen; rw [if_neg h1, if_pos h2])
    have g2 : r ≤ 2047 := by omega
    clear hv h
    go_enter Try.func52, Try.ntmps52
    go_wp2
    go_ret
    exact ⟨by rw [HR.out]; rfl, rfl⟩
  have g2 : ¬ r ≤ 2047 := by omega
  by_cases h3 : r < 65536
  · have HR := Lib.hid (show rlen r = 3 by unfold rlen; rw [if_neg h1, if_neg h2, if_pos h3])
    have g3 : r ≤ 65535 := by omega
    by_cases h5 : 55296 ≤ r
    · have h6 : ¬ r ≤ 57343 := by omega
      clear hv h
      go_enter Try.func52, Try.ntmps52
      go_wp2
      go_ret
      exact ⟨by rw [HR.out]; rfl, rfl⟩
    · clear hv h
      go_enter Try.func52, Try.ntmps52
      go_wp2
      go_ret
      exact ⟨by rw [HR.out]; rfl, rfl⟩
  · have HR := Lib.hid (show rlen r = 4 by unfold rlen; rw [if_neg h1, if_neg h2, if_neg h3])
    have g3 : ¬ r ≤ 65535 := by omega
    have h5 : 55296 ≤ r := by omega
    have h6 : ¬ r ≤ 57343 := by omega
    have h7 : r ≤ 1114111 := by omega
    clear hv h
    go_enter Try.func52, Try.ntmps52
    go_wp2
    go_ret
    exact ⟨by rw [HR.out]; rfl, rfl⟩
end Go.Proofs.Ytccnpgmceoojmac.lit
