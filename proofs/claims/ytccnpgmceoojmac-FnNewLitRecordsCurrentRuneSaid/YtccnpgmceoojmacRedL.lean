/-
  isLitRedir orders the languages: POSIX, mksh and zsh agree, Bash and Bats agree, what POSIX accepts Bash accepts.
-/
import Derived.Test.YtccnpgmceoojmacRedB
import Derived.Deep.DeepAppendRoom
import Derived.Maps.AppendAt
import Derived.OwnWalk
namespace Go.Proofs.Ytccnpgmceoojmac.red
open Go.RowKit
open Go.Proofs.Ytccnpgmceoojmac

def ix (zs : List Int) (k : Nat) : Int := Lib.indexByte (Lib.bytesOf (sub zs 1 (k - 1))) ((91 : Int).toNat.toUInt8)
/-- What isLitRedir answers on the bytes zs, the last at k. -/
def rd (b : Bool) (zs : List Int) (k : Nat) : Bool :=
  if zs.getD 0 0 = 123 ∧ zs.getD k 0 = 125 then
    (if b = true ∧ 0 < k - 1 ∧ zs.getD (k - 1) 0 = 93 ∧ 0 < ix zs k ∧ ix zs k < ((k - 1 : Nat) : Int) - 2 then vn (strOfNums (sub zs 1 (ix zs k).toNat)) else vn (strOfNums (sub zs 1 (k - 1))))
  else nm (strOfNums zs)
theorem lit (p g m n k cap : Nat) (L : Int) (zs : List Int) (w : World) (hz : zs.length = n) (hmn : n + 1 = m) (hnk : k + 1 = n) (hm : n ≤ 1048576) (hcap : m ≤ cap) (hcm : cap ≤ 2097152) (hc : Cells w g zs) (c0 : w.cell? ⟨p, 2087, none⟩ = some (.slice (some ⟨g, 0, none⟩) m cap)) (c1 : w.cell? ⟨p, 20, none⟩ = some (.int .i64 L)) (b : Bool) (HI : ∀ w' : World, Calls Try.prog 54 #[.int .i64 L, .int .i64 9] w' fun e w1 => e = .returned (.bool b) ∧ w' = w1) :
    Calls Try.prog 51 #[.pointer (some ⟨p, 0, none⟩)] w fun e w' => e = .returned (.bool (rd b zs k)) ∧ Below w.heap.size w w' := by
  unfold rd
  by_cases h0 : zs.getD 0 0 = 123
  rotate_left
  · rw [if_neg (fun h => h0 h.1)]
    exact litA0 p g m n k cap L zs w hz hmn hnk hm hcap hcm hc c0 c1 h0
  by_cases hk : zs.getD k 0 = 125
  rotate_left
  · rw [if_neg (fun h => hk h.2)]
    exact litA1 p g m n k cap L zs w hz hmn hnk hm hcap hcm hc c0 c1 h0 hk
  rw [if_pos ⟨h0, hk⟩]
  cases b
  · rw [if_neg (by simp)]
    exact litB p g m n k cap L zs w hz hmn hnk hm hcap hcm hc c0 c1 HI h0 hk
  by_cases hj : 0 < k - 1
  rotate_left
  · rw [if_neg (fun h => hj h.2.1)]
    exact litC0 p g m n k cap L zs w hz hmn hnk hm hcap hcm hc c0 c1 HI h0 hk (by omega)
  by_cases hl : zs.getD (k - 1) 0 = 93
  rotate_left
  · rw [if_neg (fun h => hl h.2.2.1)]
    exact litC1 p g m n k cap L zs w hz hmn hnk hm hcap hcm hc c0 c1 HI h0 hk hj hl
  by_cases hx : 0 < ix zs k
  rotate_left
  · rw [if_neg (fun h => hx h.2.2.2.1)]
    exact litD0 p g m n k cap L zs w hz hmn hnk hm hcap hcm hc c0 c1 (ix zs k) HI h0 hk hj hl rfl hx
  by_cases hy : ix zs k < ((k - 1 : Nat) : Int) - 2
  rotate_left
  · rw [if_neg (fun h => hy h.2.2.2.2)]
    exact litD1 p g m n k cap L zs w hz hmn hnk hm hcap hcm hc c0 c1 (ix zs k) HI h0 hk hj hl rfl hx hy
  · rw [if_pos ⟨rfl, hj, hl, hx, hy⟩]
    obtain ⟨q, hq⟩ : ∃ q : Nat, ix zs k = (q : Int) := ⟨(ix zs k).toNat, by omega⟩
    have e : (ix zs k).toNat = q := by omega
    rw [e]
    exact litD2 p g m n k cap L zs w hz hmn hnk hm hcap hcm hc c0 c1 q HI h0 hk hj hl hq (by omega) (by omega)
theorem byteI_of (xs : List Int) (i : Nat) (hi : i < xs.length) : byteI (strOfNums xs) i = (((xs.getD i 0).toNat % 256 : Nat) : Int) := by
  have hs : i < (strOfNums xs).size := by rw [strOfNums_size]; exact hi
  unfold byteI
  rw [dif_pos hs]
  have e : (strOfNums xs)[i]'hs = UInt8.ofNat (xs.getD i 0).toNat := by
    show (strOfNums xs).data[i]'hs = _
    have h1 : (strOfNums xs).data[i]? = some (UInt8.ofNat (xs.getD i 0).toNat) := by
      rw [← Array.getElem?_toList, strOfNums_data]
      simp [List.getD_eq_getElem?_getD, hi]
    have h2 := Array.getElem?_eq_getElem (xs := (strOfNums xs).data) hs
    rw [h2] at h1
    exact Option.some.inj h1
  rw [e]
  simp
/-- What POSIX accepts Bash accepts. -/
theorem rd_mono (zs : List Int) (n k : Nat) (hz : zs.length = n) (hnk : k + 1 = n) (h : rd false zs k = true) : rd true zs k = true := by
  unfold rd at *
  by_cases hb : zs.getD 0 0 = 123 ∧ zs.getD k 0 = 125
  · rw [if_pos hb] at h ⊢
    rw [if_neg (by simp)] at h
    by_cases hj : true = true ∧ 0 < k - 1 ∧ zs.getD (k - 1) 0 = 93 ∧ 0 < ix zs k ∧ ix zs k < ((k - 1 : Nat) : Int) - 2
    · exfalso
      obtain ⟨_, h1, h2, _⟩ := hj
      have hl : (sub zs 1 (k - 1)).length = k - 1 := sub_len _ _ _ (by omega)
      have hv : vn (strOfNums (sub zs 1 (k - 1))) = false := by
        refine vn_false _ (k - 1 - 1) (by rw [strOfNums_size, hl]; omega) ?_
        unfold okAt
        have e1 : 1 + (k - 1 - 1) = k - 1 := by omega
        rw [byteI_of _ _ (by omega), sub_get _ _ _ _ (by omega), e1, h2]
        simp [letB, digB]
      rw [hv] at h
      exact absurd h (by decide)
    · rw [if_neg hj]
      exact h
  · rw [if_neg hb] at h ⊢
    exact h
theorem state (g m c : Nat) (L : Int) (w : World) : Calls Try.prog 19 #[.slice none 0 0, .int .u64 0, .int .i32 0, .int .i64 0, .slice (some ⟨g, 0, none⟩) m c, .int .i64 L] w fun e w' => e = .returned (.pointer (some ⟨w.heap.size, 0, none⟩)) ∧ w'.cell? ⟨w.heap.size, 2087, none⟩ = some (.slice (some ⟨g, 0, none⟩) m c) ∧ w'.cell? ⟨w.heap.size, 20, none⟩ = some (.int .i64 L) ∧ Below w.heap.size w w' := by
  have c0 : (w.alloc (.cells (bigS Try.prog 92 [(1, .slice none 0 0), (2, .int .u64 0), (3, .int .i32 0), (4, .int .i64 0), (40, .slice (some ⟨g, 0, none⟩) m c), (19, .int .i64 L)]) 92)).cell? ⟨w.heap.size, 2087, none⟩ = some (.slice (some ⟨g, 0, none⟩) m c) := by rw [cell_new]; kernel_rfl
  have c1 : (w.alloc (.cells (bigS Try.prog 92 [(1, .slice none 0 0), (2, .int .u64 0), (3, .int .i32 0), (4, .int .i64 0), (40, .slice (some ⟨g, 0, none⟩) m c), (19, .int .i64 L)]) 92)).cell? ⟨w.heap.size, 20, none⟩ = some (.int .i64 L) := by rw [cell_new]; kernel_rfl
  have BB : Below w.heap.size w (w.alloc (.cells (bigS Try.prog 92 [(1, .slice none 0 0), (2, .int .u64 0), (3, .int .i32 0), (4, .int .i64 0), (40, .slice (some ⟨g, 0, none⟩) m c), (19, .int .i64 L)]) 92)) := by go_grown
  go_enter Try.func19, Try.ntmps19
  go_wp2_with (first | (refine wpList_value (o := ⟨some 19, _, _, _, _, _⟩) rfl (.agg (bigS Try.prog 92 [(1, .slice none 0 0), (2, .int .u64 0), (3, .int .i32 0), (4, .int .i64 0), (40, .slice (some ⟨g, 0, none⟩) m c), (19, .int .i64 L)])) w (by kernel_rfl) ?_) | (refine wpList_value (o := ⟨some 20, _, _, _, _, _⟩) rfl (.pointer (some ⟨w.heap.size, 0, none⟩)) (w.alloc (.cells (bigS Try.prog 92 [(1, .slice none 0 0), (2, .int .u64 0), (3, .int .i32 0), (4, .int .i64 0), (40, .slice (some ⟨g, 0, none⟩) m c), (19, .int .i64 L)]) 92)) (by kernel_rfl) ?_))
  go_ret
  exact ⟨rfl, c0, c1, BB⟩
theorem zIs (p g m n k cap : Nat) (L : Int) (zs : List Int) (w : World) (hz : zs.length = n) (hmn : n + 1 = m) (hnk : k + 1 = n) (hm : n ≤ 1048576) (hcap : m ≤ cap) (hcm : cap ≤ 2097152) (hc : Cells w g zs) (c0 : w.cell? ⟨p, 2087, none⟩ = some (.slice (some ⟨g, 0, none⟩) m cap)) (c1 : w.cell? ⟨p, 20, none⟩ = some (.int .i64 L)) (b : Bool) (HI : ∀ w' : World, Calls Try.prog 54 #[.int .i64 L, .int .i64 9] w' fun e w1 => e = .returned (.bool b) ∧ w' = w1) :
    Calls Try.prog 41 #[.pointer (some ⟨p, 0, none⟩)] w fun e w' => e = .returned (.bool (rd b zs k)) ∧ Below w.heap.size w w' := by
  have HL := lit p g m n k cap L zs w hz hmn hnk hm hcap hcm hc c0 c1 b HI
  clear hz hmn hnk hc c0 c1
  go_enter Try.func41, Try.ntmps41
  go_wp2_with fail
  refine HL.mono ?_
  rintro e w1 ⟨rfl, hb⟩
  go_wp2
  go_ret
  exact ⟨rfl, hb⟩
theorem info5 : (Try.prog.info? 5).map (fun i => (i.zero, i.size, i.bytes)) = some (some (.int .u8 0), 1, 1) := by kernel_rfl
theorem below_grown {G : Nat} {w W W' : World} (h : Below w.heap.size w W) (hg : W.grownBy W' (some G)) (hG : w.heap.size ≤ G) : Below w.heap.size w W' :=
  ⟨hg.os.trans h.os, hg.tape.trans h.tape, hg.output.trans h.output, Nat.le_trans h.size hg.size, fun k hk => (hg.block k (Nat.lt_of_lt_of_le hk h.size) (fun e => by have := Option.some.inj e; omega)).trans (h.block k hk)⟩
theorem one1 (x : Int) : ∀ u ∈ [Value.int .u8 x], u.oneCell' = true := by intro u hu; simp at hu; subst hu; rfl
theorem take_snoc (zs : List Int) (j : Nat) (h : j < zs.length) : (zs.take (j + 1)).map (Value.int .u8) = (zs.take j).map (Value.int .u8) ++ [.int .u8 (zs.getD j 0)] := by
  rw [List.take_succ_eq_append_getElem h, List.map_append]
  have e : zs[j] = zs.getD j 0 := by simp [List.getD_eq_getElem?_getD, h]
  rw [e]
  rfl
theorem cells_of_own {w : World} {B g n cap : Nat} {zs : List Int} {xs : List Value} (h : w.ownsRow B 5 1 (.slice (some ⟨g, 0, none⟩) n cap) n xs) (hx : ∀ i, i < zs.length → xs[i]? = some (.int .u8 (zs.getD i 0))) : Cells w g zs := fun i hi => by
  have := h.cells (g := g) rfl i _ (hx i hi)
  have e : (⟨g, 0, none⟩ : Addr).add i = ⟨g, i, none⟩ := by unfold Addr.add; split <;> simp_all
  rw [e] at this
  exact this
set_option maxRecDepth 100000 in
set_option maxHeartbeats 4000000 in
theorem redir (g n k : Nat) (last L : Int) (zs : List Int) (w : World) (hz : zs.length = n) (hnk : k + 1 = n) (hm : n ≤ 65536) (hc : Cells w g zs) (b : Bool) (HI : ∀ w' : World, Calls Try.prog 54 #[.int .i64 L, .int .i64 9] w' fun e w1 => e = .returned (.bool b) ∧ w' = w1) :
    Calls Try.prog 13 #[.slice (some ⟨g, 0, none⟩) n n, .int .u8 last, .int .i64 L] w fun e w' => e = .returned (.bool (rd b zs k)) ∧ Below w.heap.size w w' := by
  obtain ⟨i0, hi, hz0, hz1, hz2⟩ := info_parts info5
  have w1' : IntKind.i64.wrap ((n : Int) + 1) = ((n + 1 : Nat) : Int) := by rw [IntWalk.i64_in _ (by omega)]; omega
  obtain ⟨m, em⟩ : ∃ m, n + 1 = m := ⟨_, rfl⟩
  rw [em] at w1'
  have hmk : (Instr.makeSlice 25 (.int .i64 0) (.int .i64 (m : Int))).run Try.prog w = .ok (.slice (some ⟨w.heap.size, 0, none⟩) 0 m) (w.alloc (.cells (madeCells #[.int .u8 0] m) 5)) := by
    have h := run_make (P := Try.prog) w 25 5 i0 (.int .u8 0) Try.underlying25 hi hz0 .i64 .i64 0 m (by omega) (by omega) (by rw [hz2]; omega) (by omega)
    rw [hz1] at h
    simpa [Value.cells] using h
  have ho0 := World.ownsRow_made (base := w.heap.size) (e := 5) (size := 1) w (madeCells #[.int .u8 0] m) m (Nat.le_refl _) (by unfold maxLen; omega) (by rw [size_madeCells]; omega)
  have HC := Lib.hid hc
  have HZ := Lib.hid hz
  have HK := Lib.hid hnk
  have HM := Lib.hid em
  have hmn : n < m ∧ m ≤ 65537 := by omega
  have hlt := lt_of_cell (hc 0 (by omega))
  have hn0 : 0 < n := by omega
  clear hc hz hnk em
  go_enter Try.func13, Try.ntmps13
  go_wp2
  clear hmk w1'
  go_loopw [7, 8] (fun v i wr => ∃ j : Nat, j ≤ n ∧ i = .int .i64 j ∧ v = .slice (some ⟨w.heap.size, 0, none⟩) j m ∧ wr.ownsRow w.heap.size 5 1 (.slice (some ⟨w.heap.size, 0, none⟩) j m) j ((zs.take j).map (Value.int .u8)) ∧ Below w.heap.size w wr) (fun _ i _ => n - (intOf i).toNat)
  case atStart => exact ⟨0, by omega, rfl, rfl, by simpa using ho0, by go_grown⟩
  case round =>
    obtain ⟨j, hj, rfl, rfl, hown, BW⟩ := hrel
    clear ho0
    by_cases hlt2 : j < n
    · have cj := (HC.out.later BW) j (by rw [HZ.out]; exact hlt2)
      have HS := Lib.hid (take_snoc zs j (by rw [HZ.out]; exact hlt2))
      generalize zs.getD j 0 = zj at *
      have hroom : j + 1 ≤ m := by omega
      go_wp2_with (at_builtin; refine wpList_append_own_spare _ rfl _ _ 25 rfl w.heap.size 5 i0 1 Try.underlying25 hi hz1 w.heap.size j m _ rfl (hown.alloc _) ⟨wr.heap.size, 0, none⟩ 1 1 [.int .u8 zj] rfl rfl (cell_one_new _ _ _) (one1 _) hroom ?_; intro w1 hown1 hgrow1)
      have B1 := below_grown (BW.alloc BW.size _) hgrow1 (Nat.le_refl _)
      rw [← HS.out] at hown1
      clear hgrow1 hown BW cj
      go_wp2
      go_roundw
      case rel => exact ⟨j + 1, by omega, by go_num, rfl, hown1, B1⟩
      case measure => simp [intOf]; omega
    · obtain rfl : j = n := by omega
      have hroom : j + 1 ≤ m := by omega
      go_wp2_with (at_builtin; refine wpList_append_own_spare _ rfl _ _ 25 rfl w.heap.size 5 i0 1 Try.underlying25 hi hz1 w.heap.size j m _ rfl (hown.alloc _) ⟨wr.heap.size, 0, none⟩ 1 1 [.int .u8 last] rfl rfl (cell_one_new _ _ _) (one1 _) hroom ?_; intro w1 hown1 hgrow1)
      have B1 := below_grown (BW.alloc BW.size _) hgrow1 (Nat.le_refl _)
      have hcl : Cells w1 w.heap.size zs := cells_of_own hown1 (fun i hi => by
        have hzz := HZ.out
        rw [List.getElem?_append_left (by simp; omega)]
        have : i < j := by omega
        simp [List.getD_eq_getElem?_getD, List.getElem?_take, this]
        rw [List.getElem?_eq_getElem hi]
        simp)
      clear hgrow1 hown BW hown1
      go_wp2_with fail
      refine (state w.heap.size (j + 1) m L w1).mono ?_
      rintro e w2 ⟨rfl, c0, c1, hb2⟩
      have hc2 := hcl.later hb2
      have B2 := below_next B1 hb2
      have HL := zIs w1.heap.size w.heap.size (j + 1) j k m L zs w2 HZ.out rfl HK.out (by omega) (by omega) (by omega) hc2 c0 c1 b HI
      clear B1 hb2 hc2 hcl c0 c1
      go_wp2_with fail
      refine HL.mono ?_
      rintro e w3 ⟨rfl, hb3⟩
      have B3 := below_next B2 hb3
      clear hb3 B2 HL
      go_wp2
      go_ret
      exact ⟨rfl, B3⟩
theorem cp_nil (w : World) : Calls Try.prog 12 #[.slice none 0 0] w fun e w' => e = .returned (.slice none 0 0) ∧ w = w' := by
  have hn := fun (w' : World) => Lib.run_eql_slice_nil (P := Try.prog) w' 25 5 none 0 0 0 0 Try.underlying25
  go_enter Try.func12, Try.ntmps12
  go_wp2
  go_ret
  exact ⟨rfl, rfl⟩
theorem cp_zero (x : Addr) (cap : Nat) (zs : List Int) (w : World) : Calls Try.prog 12 #[.slice (some x) 0 cap] w fun e w' => e = .returned (.slice (some ⟨w.heap.size, 0, none⟩) 0 0) ∧ w.alloc (.cells (cpL .u8 zs 0 0) 5) = w' := by
  have hn := fun (w' : World) => Lib.run_eql_slice_nil (P := Try.prog) w' 25 5 (some x) 0 cap 0 0 Try.underlying25
  have hmk : ∀ w' : World, (Instr.makeSlice 25 (.int .i64 0) (.int .i64 0)).run Try.prog w' = .ok (.slice (some ⟨w'.heap.size, 0, none⟩) 0 0) (w'.alloc (.cells (cpL .u8 zs 0 0) 5)) := fun w' => by
    have h := run_make_row' (P := Try.prog) 25 5 (.int .u8 0) 1 Try.underlying25 (by kernel_rfl) rfl .i64 .i64 0 (by omega) (by omega) w'
    rw [cpL_zero .u8 zs] at h
    exact h
  go_enter Try.func12, Try.ntmps12
  go_wp2
  refine wp_loop_rounds 1 ?_
  rw [rounds_succ]
  go_wp2
  go_ret
  exact ⟨rfl, rfl⟩
theorem cp_pos (b off len cap : Nat) (zs : List Int) (w : World) (hl : 0 < len) (hm : len ≤ 1048576) (hc : ∀ i, i < len → w.cell? ⟨b, off + i, none⟩ = some (.int .u8 (zs.getD i 0))) :
    Calls Try.prog 12 #[.slice (some ⟨b, off, none⟩) len cap] w fun e w' => e = .returned (.slice (some ⟨w.heap.size, 0, none⟩) len len) ∧ w.alloc (.cells (cpL .u8 zs len len) 5) = w' := by
  have hn := fun (w' : World) => Lib.run_eql_slice_nil (P := Try.prog) w' 25 5 (some ⟨b, off, none⟩) len cap 0 0 Try.underlying25
  have hmk : ∀ w' : World, (Instr.makeSlice 25 (.int .i64 (len : Int)) (.int .i64 (len : Int))).run Try.prog w' = .ok (.slice (some ⟨w'.heap.size, 0, none⟩) len len) (w'.alloc (.cells (cpL .u8 zs len 0) 5)) := fun w' => by
    have h := run_make_row' (P := Try.prog) 25 5 (.int .u8 0) 1 Try.underlying25 (by kernel_rfl) rfl .i64 .i64 len (by omega) (by omega) w'
    rw [cpL_zero .u8 zs] at h
    exact h
  have hlt := lt_of_cell (hc 0 hl)
  have HC := Lib.hid hc
  clear hc
  go_enter Try.func12, Try.ntmps12
  go_wp2
  clear hmk hn
  go_loopw [4] (fun i wr => ∃ j : Nat, j ≤ len ∧ i = .int .i64 j ∧ wr = w.alloc (.cells (cpL .u8 zs len j) 5)) (fun i _ => len - (intOf i).toNat)
  case atStart => exact ⟨0, by omega, rfl, rfl⟩
  case round =>
    obtain ⟨j, hj, rfl, rfl⟩ := hrel
    by_cases hjl : j < len
    · have c1 := HC.out j hjl
      have c2 : (cpL .u8 zs len j)[j]? = some (.int .u8 0) := by rw [cpL_get .u8 zs len j j hjl]; simp
      have HS := Lib.hid (cpL_set .u8 zs len j hjl)
      generalize zs.getD j 0 = zj at *
      go_wp2
      go_roundw
      case rel => exact ⟨j + 1, by omega, by go_num, by rw [← HS.out]⟩
      case measure => simp [intOf]; omega
    · obtain rfl : j = len := by omega
      go_wp2
      go_ret
      exact ⟨rfl, rfl⟩
set_option maxRecDepth 100000 in
set_option maxHeartbeats 2000000 in
theorem law_pos (c1 c2 : Int) (b off n cap : Nat) (zs : List Int) (w : World) (hl : 0 < n) (hm : n ≤ 65536) (hz : n ≤ zs.length) (hc : ∀ i, i < n → w.cell? ⟨b, off + i, none⟩ = some (.int .u8 (zs.getD i 0))) :
    Calls Try.prog 4 #[.slice (some ⟨b, off, none⟩) n cap, .int .u8 c1, .int .u8 c2] w fun e w' => e = .returned (.bool true) ∧ Below w.heap.size w w' := by
  have g2 : ¬ (1048576 : Int) < (n : Int) := by omega
  have g3 : ¬ (65536 : Int) < (n : Int) := by omega
  have g4 : ((n : Int) == 0) = false := by simp; omega
  obtain ⟨k, hk⟩ : ∃ k, k + 1 = n := ⟨n - 1, by omega⟩
  have HK := Lib.hid hk
  have hzl : (zs.take n).length = n := by simp; omega
  have HZ := Lib.hid hzl
  have HC := Lib.hid hc
  have HR := Lib.hid (show Cells (w.alloc (.cells (cpL .u8 zs n n) 5)) w.heap.size (zs.take n) from fun i hi => by
    have h := RowAt.copy .u8 w 5 n zs i (by omega)
    have e : (zs.take n).getD i 0 = zs.getD i 0 := by simp [List.getD_eq_getElem?_getD, List.getElem?_take, show i < n by omega]
    rw [e]
    exact h)
  have HMO := Lib.hid (rd_mono (zs.take n) n k hzl hk)
  clear hc hk hzl hz
  obtain ⟨P, hP⟩ : ∃ P, rd false (zs.take n) k = P := ⟨_, rfl⟩
  obtain ⟨B, hB⟩ : ∃ B, rd true (zs.take n) k = B := ⟨_, rfl⟩
  have HPB := Lib.hid (show P = true → B = true from fun h => by rw [← hB]; exact HMO.out (hP.trans h))
  have HP := Lib.hid hP
  have HB := Lib.hid hB
  clear hP hB HMO
  go_enter Try.func4, Try.ntmps4
  go_wp2_with (first | (go_at_call 11; go_in) | (go_at_call 12; refine (cp_pos b off n cap zs _ hl (by omega) HC.out).mono ?_; rintro e w' ⟨rfl, rfl⟩) | (go_at_call 13; fail))
  refine calls_world (fun W => Cells W w.heap.size (zs.take n) ∧ Below w.heap.size w W) ⟨HR.out, by go_grown⟩ ?_
  rintro W0 ⟨C0, B0⟩
  clear HR
  have R0 := redir w.heap.size n k c1 2 (zs.take n) W0 HZ.out HK.out hm C0 false (fun w' => inL 2 false (by decide) w')
  rw [HP.out] at R0
  refine R0.mono ?_
  rintro e W1 ⟨rfl, hb⟩
  have C1 := C0.later hb
  have B1 := below_next B0 hb
  clear hb R0 B0
  have H1 := Lib.hid C1
  clear C0 C1
  go_wp2_with (go_at_call 13; fail)
  have C1 := H1.out
  clear H1
  have R1 := redir w.heap.size n k c2 4 (zs.take n) W1 HZ.out HK.out hm C1 false (fun w' => inL 4 false (by decide) w')
  rw [HP.out] at R1
  refine R1.mono ?_
  rintro e W2 ⟨rfl, hb⟩
  have C2 := C1.later hb
  have B2 := below_next B1 hb
  clear hb R1 B1
  have H2 := Lib.hid C2
  clear C1 C2
  go_wp2_with (go_at_call 13; fail)
  have C2 := H2.out
  clear H2
  have R2 := redir w.heap.size n k c1 16 (zs.take n) W2 HZ.out HK.out hm C2 false (fun w' => inL 16 false (by decide) w')
  rw [HP.out] at R2
  refine R2.mono ?_
  rintro e W3 ⟨rfl, hb⟩
  have C3 := C2.later hb
  have B3 := below_next B2 hb
  clear hb R2 B2
  have H3 := Lib.hid C3
  clear C2 C3
  go_wp2_with (go_at_call 13; fail)
  have C3 := H3.out
  clear H3
  have R3 := redir w.heap.size n k c2 1 (zs.take n) W3 HZ.out HK.out hm C3 true (fun w' => inL 1 true (by decide) w')
  rw [HB.out] at R3
  refine R3.mono ?_
  rintro e W4 ⟨rfl, hb⟩
  have C4 := C3.later hb
  have B4 := below_next B3 hb
  clear hb R3 B3
  have H4 := Lib.hid C4
  clear C3 C4
  go_wp2_with (go_at_call 13; fail)
  have C4 := H4.out
  clear H4
  have R4 := redir w.heap.size n k c1 8 (zs.take n) W4 HZ.out HK.out hm C4 true (fun w' => inL 8 true (by decide) w')
  rw [HB.out] at R4
  refine R4.mono ?_
  rintro e W5 ⟨rfl, hb⟩
  have B5 := below_next B4 hb
  clear hb R4 B4 C4
  have hpb := HPB.out
  clear HPB HP HB
  cases P <;> cases B
  · go_wp2
    go_ret
    exact ⟨rfl, B5⟩
  · go_wp2
    go_ret
    exact ⟨rfl, B5⟩
  · exact absurd (hpb rfl) (by decide)
  · clear hpb
    go_wp2
    go_ret
    exact ⟨rfl, B5⟩
theorem early (c1 c2 : Int) (a : Option Addr) (n cap : Nat) (w : World) (hM : n ≤ 9223372036854775807) (h : 65536 < n ∨ n = 0) :
    Calls Try.prog 4 #[.slice a n cap, .int .u8 c1, .int .u8 c2] w fun e w' => e = .returned (.bool true) ∧ Below w.heap.size w w' := by
  by_cases g1 : 1048576 < n
  · have g2 : (1048576 : Int) < (n : Int) := by omega
    go_enter Try.func4, Try.ntmps4
    go_wp2
    go_ret
    exact ⟨rfl, Below.refl _ _⟩
  have g2 : ¬ (1048576 : Int) < (n : Int) := by omega
  rcases h with h | rfl
  · have g3 : (65536 : Int) < (n : Int) := by omega
    go_enter Try.func4, Try.ntmps4
    go_wp2
    go_ret
    exact ⟨rfl, Below.refl _ _⟩
  · go_enter Try.func4, Try.ntmps4
    go_wp2
    go_ret
    exact ⟨rfl, Below.refl _ _⟩
theorem law (c1 c2 : Int) (a : Option Addr) (n cap : Nat) (zs : List Int) (w : World) (h : IsRowB .u8 w a n cap zs) :
    Calls Try.prog 4 #[.slice a n cap, .int .u8 c1, .int .u8 c2] w fun e w' => e = .returned (.bool true) ∧ Below w.heap.size w w' := by
  by_cases hb : 65536 < n ∨ n = 0
  · refine early c1 c2 a n cap w ?_ hb
    rcases h with ⟨rfl, rfl, rfl, rfl⟩ | ⟨x, rfl, hl, hm, hz, hcell, hwz⟩
    · omega
    · unfold maxLen at hm; omega
  · rcases h with ⟨rfl, rfl, rfl, rfl⟩ | ⟨x, rfl, hl, hm, hz, hcell, hwz⟩
    · omega
    · obtain ⟨b, off, rfl, hc⟩ := row_at hcell (by omega)
      exact law_pos c1 c2 b off n cap zs w (by omega) (by omega) (by omega) (fun i hi => hc i (by omega))
end Go.Proofs.Ytccnpgmceoojmac.red
