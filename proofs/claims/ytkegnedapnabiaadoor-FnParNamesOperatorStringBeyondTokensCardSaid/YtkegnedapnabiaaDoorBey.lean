/-
  zzUtoa gives the decimal digits of its number; token.String beyond the table gives them inside its brackets: for every uint32 beyond the table.
-/
import Derived.Test.YtkegnedapnabiaaDoorBase
import Derived.Test.YtkegnedapnabiaaDoorShelf
import Derived.Laws.BytesArg
import Derived.Lib.ItoaNum
namespace Go.Proofs.YtkegnedapnabiaaDoor.bey
open Go.RowKit

def decD (y : Nat) : List UInt8 := if y = 0 then [] else Lib.decDigits y
theorem decD_step (y : Nat) (h : 0 < y) : decD y = decD (y / 10) ++ [UInt8.ofNat (48 + y % 10)] := by
  unfold decD
  rw [if_neg (by omega)]
  by_cases h10 : y < 10
  · rw [Lib.decDigits, dif_pos h10, if_pos (by omega)]
    have e : y % 10 = y := Nat.mod_eq_of_lt h10
    rw [e]
    rfl
  · conv => lhs; rw [Lib.decDigits, dif_neg h10]
    rw [if_neg (by omega)]
def pad (k : Nat) (ds : List UInt8) : Array Value := (List.replicate k (Value.int .u8 0) ++ ds.map fun d => Value.int .u8 (d.toNat : Int)).toArray
theorem pad_set (k : Nat) (ds : List UInt8) (d : UInt8) : (pad (k + 1) ds).setIfInBounds k (.int .u8 (d.toNat : Int)) = pad k (d :: ds) := by
  unfold pad
  apply Array.ext
  · simp; omega
  · intro i h1 h2
    simp only [List.setIfInBounds_toArray, List.getElem_toArray]
    rw [List.getElem_set]
    by_cases e : k = i
    · subst e
      simp
    · rw [if_neg e]
      by_cases l : i < k
      · rw [List.getElem_append_left (by simp; omega), List.getElem_append_left (by simp; omega)]
        simp
      · rw [List.getElem_append_right (by simp; omega), List.getElem_append_right (by simp; omega)]
        simp only [List.length_replicate, List.map_cons]
        rw [List.getElem_cons, dif_neg (by omega)]
        congr 1
theorem pad_at (k : Nat) (ds : List UInt8) (h : ds.length = 10 - k) (hk : k ≤ 10) (i : Nat) (hi : i < 10) : ∃ v, (pad k ds)[i]? = some (.int .u8 v) := by
  unfold pad
  simp only [List.getElem?_toArray]
  by_cases l : i < k
  · rw [List.getElem?_append_left (by simpa using l)]
    exact ⟨0, by simp [l]⟩
  · rw [List.getElem?_append_right (by simp; omega)]
    simp only [List.length_replicate, List.getElem?_map]
    rw [List.getElem?_eq_getElem (by omega)]
    exact ⟨_, rfl⟩
theorem pad_digit (k : Nat) (ds : List UInt8) (i : Nat) (hi : i < ds.length) : (pad k ds)[k + i]? = some (.int .u8 ((ds.map fun d => (d.toNat : Int)).getD i 0)) := by
  unfold pad
  simp only [List.getElem?_toArray]
  rw [List.getElem?_append_right (by simp)]
  simp [List.getElem?_eq_getElem hi]
theorem back (ds : List UInt8) : strOfNums (ds.map fun d => (d.toNat : Int)) = ⟨ds.toArray⟩ := by
  unfold strOfNums
  congr 1
  have e : ((fun n : Int => UInt8.ofNat n.toNat) ∘ fun d : UInt8 => (d.toNat : Int)) = id := by
    funext d
    simp
  rw [List.map_map, e, List.map_id]

set_option maxRecDepth 100000 in
theorem utoa (x : Nat) (w : World) (h0 : 0 < x) (h1 : x ≤ 4294967295) :
    Calls Tryd.prog 13 #[.int .u32 (x : Int)] w fun e w' => e = .returned (.string ⟨(Lib.decDigits x).toArray⟩) ∧ Below w.heap.size w w' := by
  have g0 : ((x : Int) == 0) = false := by simp; omega
  have hx : decD x = Lib.decDigits x := by unfold decD; rw [if_neg (by omega)]
  have HX := Lib.hid hx
  clear hx
  go_enter Tryd.func13, Tryd.ntmps13
  go_wp2
  go_loopw [0, 4] (fun v i wr => ∃ (y k : Nat) (ds : List UInt8), k ≤ 10 ∧ y < 10 ^ k ∧ y ≤ 4294967295 ∧ v = .int .u32 (y : Int) ∧ i = .int .i64 (k : Int) ∧ ds.length = 10 - k ∧ decD y ++ ds = Lib.decDigits x ∧ wr = w.alloc (.cells (pad k ds) 34)) (fun v _ _ => (intOf v).toNat)
  case atStart => exact ⟨x, 10, [], by omega, by omega, h1, rfl, rfl, rfl, by rw [HX.out]; simp, rfl⟩
  case round =>
    obtain ⟨y, k, ds, hk, hp, hy, rfl, rfl, hl, hd, rfl⟩ := hrel
    have HD := Lib.hid hd
    have HL := Lib.hid hl
    have HP := Lib.hid hp
    clear hd hl hp HX g0
    by_cases hyp : 0 < y
    · cases k with
      | zero =>
        have := HP.out
        simp at this
        omega
      | succ k =>
        have HS := Lib.hid (decD_step y hyp)
        obtain ⟨v0, hv0⟩ := pad_at (k + 1) ds HL.out hk k (by omega)
        have HT := Lib.hid (pad_set k ds (UInt8.ofNat (48 + y % 10)))
        have q1 : IntKind.u8.wrap (48 + ((y : Int) % 10)) = 48 + ((y : Int) % 10) := IntWalk.u8_in _ (by omega)
        have q2 : IntKind.i64.wrap (((k + 1 : Nat) : Int) - 1) = (k : Int) := by rw [IntWalk.i64_in _ (by omega)]; omega
        have q3 : ((k + 1 : Nat) : Int) - 1 = (k : Int) := by omega
        go_wp2
        go_roundw
        case rel =>
          refine ⟨y / 10, k, UInt8.ofNat (48 + y % 10) :: ds, by omega, ?_, by omega, by go_num, by go_num, ?_, ?_, ?_⟩
          · have := HP.out
            rw [Nat.pow_succ] at this
            omega
          · have := HL.out
            simp
            omega
          · have h1 := HS.out
            have h2 := HD.out
            rw [h1] at h2
            simpa using h2
          · have h1 := HT.out
            have h2 : (48 + ((y : Int) % 10)) = (((UInt8.ofNat (48 + y % 10)).toNat : Nat) : Int) := by
              rw [UInt8.toNat_ofNat']
              omega
            rw [← h1, ← h2]
        case measure => simp [intOf]; omega
    · have g9 : ¬ (0 : Int) < (y : Int) := by omega
      have hcv := fun (i : Nat) (hi : i < 10 - k) => show (w.alloc (.cells (pad k ds) 34)).cell? ⟨w.heap.size, k + i, none⟩ = some (.int .u8 ((ds.map fun d => (d.toNat : Int)).getD i 0)) by
        rw [cell_new]
        exact pad_digit k ds i (by have := HL.out; omega)
      have hrun := run_convert_bytes_arg (P := Tryd.prog) (w.alloc (.cells (pad k ds) 34)) 35 5 Tryd.underlying35 Tryd.underlying5 w.heap.size k (10 - k) (10 - k) (ds.map fun d => (d.toNat : Int)) (by simpa using HL.out) hcv 9 Tryd.underlying9
      rw [back] at hrun
      have hE : ds = Lib.decDigits x := by
        have h2 := HD.out
        have h3 : y = 0 := by omega
        rw [h3] at h2
        simpa [decD] using h2
      have HE := Lib.hid hE
      clear hE
      have hk10 : k < 10 := by
        have h1 := HE.out
        have h2 := HL.out
        have h3 : 0 < (Lib.decDigits x).length := by
          rw [Lib.decDigits]
          split <;> simp
        rw [← h1] at h3
        omega
      have hsl : (Instr.sliceAt 34 (.pointer (some ⟨w.heap.size, 0, none⟩)) (some (.int .i64 (k : Int))) none none).run Tryd.prog (w.alloc (.cells (pad k ds) 34)) = .ok (.slice (some ⟨w.heap.size, k, none⟩) (10 - k) (10 - k)) (w.alloc (.cells (pad k ds) 34)) := by
        have hu : Tryd.prog.underlying 34 = some (.array (Tryd.prog.arrayLen 34) (Tryd.prog.elem 34)) := by kernel_rfl
        have hlen : Tryd.prog.arrayLen 34 = 10 := by kernel_rfl
        have hel : Tryd.prog.elem 34 = 5 := by kernel_rfl
        have hso : (sizeOf 5).run Tryd.prog (w.alloc (.cells (pad k ds) 34)) = .ok 1 (w.alloc (.cells (pad k ds) 34)) := by kernel_rfl
        rw [run_sliceAt_array_l _ 34 _ hu .i64 (k : Int) (by omega) (by rw [hlen]; omega), hel, hso, hlen]
        have hne : ¬ 10 = k := by omega
        simp [Result.andThen, slicedAt, hne, Addr.add]
        exact fun h => h.symm
      clear hcv hyp
      go_wp2
      go_ret
      exact ⟨by rw [HE.out]; rfl, by go_grown⟩

theorem dec_len : ∀ (k y : Nat), y < 10 ^ (k + 1) → (Lib.decDigits y).length ≤ k + 1
  | 0, y, h => by
    rw [Lib.decDigits, dif_pos (by simpa using h)]
    simp
  | k + 1, y, h => by
    rw [Lib.decDigits]
    split
    · simp
    · have := dec_len k (y / 10) (by rw [Nat.pow_succ] at h; omega)
      simp
      omega
def txt (x : Nat) : ByteArray := (⟨#[116, 111, 107, 101, 110, 40]⟩ : ByteArray) ++ ⟨(Lib.decDigits x).toArray⟩ ++ ⟨#[41]⟩
theorem beyT (x : Nat) (w : World) (h0 : 0 < x) (h1 : x ≤ 4294967295) :
    Calls Tryd.prog 8 #[.int .u32 (x : Int)] w fun e w' => e = .returned (.string (txt x)) ∧ Below w.heap.size w w' := by
  go_enter Tryd.func8, Tryd.ntmps8
  go_wp2_with fail
  refine (utoa x w h0 h1).mono ?_
  rintro e w1 ⟨rfl, hb⟩
  obtain ⟨D, hD⟩ : ∃ D : ByteArray, D = ⟨(Lib.decDigits x).toArray⟩ := ⟨_, rfl⟩
  have HD := Lib.hid hD
  have hs : D.size ≤ 10 := by rw [hD]; exact dec_len 9 x (by omega)
  rw [← hD]
  clear hD
  go_wp2
  go_ret
  refine ⟨?_, hb⟩
  rw [HD.out]
  rfl
theorem grow_below (w : World) (k : Nat) (os : _) : Below w.heap.size w (Sort.grow (w.drewN k) os) := by
  refine ⟨rfl, rfl, rfl, ?_, fun b hb => ?_⟩
  · simp [Sort.grow]
  · show (w.heap ++ os)[b]? = w.heap[b]?
    rw [Array.getElem?_append_left hb]
set_option maxRecDepth 100000 in
theorem tokT (x : Nat) (w : World) (h0 : 144 ≤ x) (h1 : x ≤ 4294967295) (htab : Lib.TabIs Tryd.prog w "internal/strconv.uint64pow10" .u64 Lib.pow10Tab) :
    Calls Tryd.prog 12 #[.int .u32 (x : Int)] w fun e w' => e = .returned (.string (txt x)) ∧ Below w.heap.size w w' := by
  have q1 : IntKind.i64.wrap (x : Int) = x := IntWalk.i64_in _ (by omega)
  have q2 : IntKind.i64.wrap ((x : Int) - 0) = x := by rw [IntWalk.i64_in _ (by omega)]; omega
  have g1 : ¬ (x : Int) < 0 := by omega
  have g2 : (144 : Int) ≤ (x : Int) := by omega
  have e1 : Lib.itoa (x : Int) = Lib.decDigits x := by unfold Lib.itoa; rw [if_neg (by omega)]; simp
  have HT := Lib.hid htab
  have E1 := Lib.hid e1
  clear htab e1
  go_enter Tryd.func12, Tryd.ntmps12
  go_wp2_with fail
  refine (Tryd.strconv_FormatInt_10 (x : Int) (by omega) (by omega) w HT.out).mono ?_
  rintro e w1 ⟨rfl, k, os, rfl⟩
  have hb := Lib.hid (grow_below w k os)
  rw [E1.out]
  generalize Sort.grow (w.drewN k) os = W at *
  obtain ⟨D, hD⟩ : ∃ D : ByteArray, D = ⟨(Lib.decDigits x).toArray⟩ := ⟨_, rfl⟩
  have HD := Lib.hid hD
  have hs : D.size ≤ 10 := by rw [hD]; exact dec_len 9 x (by omega)
  rw [← hD]
  clear hD
  go_wp2
  go_ret
  refine ⟨?_, hb.out⟩
  rw [HD.out]
  rfl
theorem str_bin (x : Nat) (w : World) (h0 : 144 ≤ x) (h1 : x ≤ 4294967295) (htab : Lib.TabIs Tryd.prog w "internal/strconv.uint64pow10" .u64 Lib.pow10Tab) :
    Calls Tryd.prog 7 #[.int .u32 (x : Int)] w fun e w' => e = .returned (.string (txt x)) ∧ Below w.heap.size w w' := by
  have HT := Lib.hid htab
  clear htab
  go_enter Tryd.func7, Tryd.ntmps7
  go_wp2_with fail
  refine (tokT x w h0 h1 HT.out).mono ?_
  rintro e w1 ⟨rfl, hb⟩
  go_wp2
  go_ret
  exact ⟨rfl, hb⟩
theorem law_bin (x : Int) (w : World) (hx : 0 ≤ x ∧ x ≤ 4294967295) (htab : Lib.TabIs Tryd.prog w "internal/strconv.uint64pow10" .u64 Lib.pow10Tab) :
    Calls Tryd.prog 3 #[.int .u32 x] w fun e w' => e = .returned (.bool true) ∧ Below w.heap.size w w' := by
  have HT := Lib.hid htab
  clear htab
  by_cases g : x ≤ 143
  · go_enter Tryd.func3, Tryd.ntmps3
    go_wp2
    go_ret
    exact ⟨rfl, Below.refl _ _⟩
  · obtain ⟨n, rfl⟩ := Int.eq_ofNat_of_zero_le hx.1
    have g2 : ¬ (n : Int) ≤ 143 := g
    clear g
    go_enter Tryd.func3, Tryd.ntmps3
    go_wp2_with fail
    refine (str_bin n w (by omega) (by omega) HT.out).mono ?_
    rintro e w1 ⟨rfl, hb⟩
    go_wp2_with fail
    refine (beyT n w1 (by omega) (by omega)).mono ?_
    rintro e w2 ⟨rfl, hb2⟩
    generalize txt n = D
    go_wp2
    go_ret
    exact ⟨rfl, Below.trans hb (Below.mono hb2 hb.size)⟩
theorem str_cas (x : Nat) (w : World) (h0 : 144 ≤ x) (h1 : x ≤ 4294967295) (htab : Lib.TabIs Tryd.prog w "internal/strconv.uint64pow10" .u64 Lib.pow10Tab) :
    Calls Tryd.prog 9 #[.int .u32 (x : Int)] w fun e w' => e = .returned (.string (txt x)) ∧ Below w.heap.size w w' := by
  have HT := Lib.hid htab
  clear htab
  go_enter Tryd.func9, Tryd.ntmps9
  go_wp2_with fail
  refine (tokT x w h0 h1 HT.out).mono ?_
  rintro e w1 ⟨rfl, hb⟩
  go_wp2
  go_ret
  exact ⟨rfl, hb⟩
theorem law_cas (x : Int) (w : World) (hx : 0 ≤ x ∧ x ≤ 4294967295) (htab : Lib.TabIs Tryd.prog w "internal/strconv.uint64pow10" .u64 Lib.pow10Tab) :
    Calls Tryd.prog 4 #[.int .u32 x] w fun e w' => e = .returned (.bool true) ∧ Below w.heap.size w w' := by
  have HT := Lib.hid htab
  clear htab
  by_cases g : x ≤ 143
  · go_enter Tryd.func4, Tryd.ntmps4
    go_wp2
    go_ret
    exact ⟨rfl, Below.refl _ _⟩
  · obtain ⟨n, rfl⟩ := Int.eq_ofNat_of_zero_le hx.1
    have g2 : ¬ (n : Int) ≤ 143 := g
    clear g
    go_enter Tryd.func4, Tryd.ntmps4
    go_wp2_with fail
    refine (str_cas n w (by omega) (by omega) HT.out).mono ?_
    rintro e w1 ⟨rfl, hb⟩
    go_wp2_with fail
    refine (beyT n w1 (by omega) (by omega)).mono ?_
    rintro e w2 ⟨rfl, hb2⟩
    generalize txt n = D
    go_wp2
    go_ret
    exact ⟨rfl, Below.trans hb (Below.mono hb2 hb.size)⟩
theorem str_pex (x : Nat) (w : World) (h0 : 144 ≤ x) (h1 : x ≤ 4294967295) (htab : Lib.TabIs Tryd.prog w "internal/strconv.uint64pow10" .u64 Lib.pow10Tab) :
    Calls Tryd.prog 10 #[.int .u32 (x : Int)] w fun e w' => e = .returned (.string (txt x)) ∧ Below w.heap.size w w' := by
  have HT := Lib.hid htab
  clear htab
  go_enter Tryd.func10, Tryd.ntmps10
  go_wp2_with fail
  refine (tokT x w h0 h1 HT.out).mono ?_
  rintro e w1 ⟨rfl, hb⟩
  go_wp2
  go_ret
  exact ⟨rfl, hb⟩
theorem law_pex (x : Int) (w : World) (hx : 0 ≤ x ∧ x ≤ 4294967295) (htab : Lib.TabIs Tryd.prog w "internal/strconv.uint64pow10" .u64 Lib.pow10Tab) :
    Calls Tryd.prog 5 #[.int .u32 x] w fun e w' => e = .returned (.bool true) ∧ Below w.heap.size w w' := by
  have HT := Lib.hid htab
  clear htab
  by_cases g : x ≤ 143
  · go_enter Tryd.func5, Tryd.ntmps5
    go_wp2
    go_ret
    exact ⟨rfl, Below.refl _ _⟩
  · obtain ⟨n, rfl⟩ := Int.eq_ofNat_of_zero_le hx.1
    have g2 : ¬ (n : Int) ≤ 143 := g
    clear g
    go_enter Tryd.func5, Tryd.ntmps5
    go_wp2_with fail
    refine (str_pex n w (by omega) (by omega) HT.out).mono ?_
    rintro e w1 ⟨rfl, hb⟩
    go_wp2_with fail
    refine (beyT n w1 (by omega) (by omega)).mono ?_
    rintro e w2 ⟨rfl, hb2⟩
    generalize txt n = D
    go_wp2
    go_ret
    exact ⟨rfl, Below.trans hb (Below.mono hb2 hb.size)⟩
theorem str_pnm (x : Nat) (w : World) (h0 : 144 ≤ x) (h1 : x ≤ 4294967295) (htab : Lib.TabIs Tryd.prog w "internal/strconv.uint64pow10" .u64 Lib.pow10Tab) :
    Calls Tryd.prog 11 #[.int .u32 (x : Int)] w fun e w' => e = .returned (.string (txt x)) ∧ Below w.heap.size w w' := by
  have HT := Lib.hid htab
  clear htab
  go_enter Tryd.func11, Tryd.ntmps11
  go_wp2_with fail
  refine (tokT x w h0 h1 HT.out).mono ?_
  rintro e w1 ⟨rfl, hb⟩
  go_wp2
  go_ret
  exact ⟨rfl, hb⟩
theorem law_pnm (x : Int) (w : World) (hx : 0 ≤ x ∧ x ≤ 4294967295) (htab : Lib.TabIs Tryd.prog w "internal/strconv.uint64pow10" .u64 Lib.pow10Tab) :
    Calls Tryd.prog 6 #[.int .u32 x] w fun e w' => e = .returned (.bool true) ∧ Below w.heap.size w w' := by
  have HT := Lib.hid htab
  clear htab
  by_cases g : x ≤ 143
  · go_enter Tryd.func6, Tryd.ntmps6
    go_wp2
    go_ret
    exact ⟨rfl, Below.refl _ _⟩
  · obtain ⟨n, rfl⟩ := Int.eq_ofNat_of_zero_le hx.1
    have g2 : ¬ (n : Int) ≤ 143 := g
    clear g
    go_enter Tryd.func6, Tryd.ntmps6
    go_wp2_with fail
    refine (str_pnm n w (by omega) (by omega) HT.out).mono ?_
    rintro e w1 ⟨rfl, hb⟩
    go_wp2_with fail
    refine (beyT n w1 (by omega) (by omega)).mono ?_
    rintro e w2 ⟨rfl, hb2⟩
    generalize txt n = D
    go_wp2
    go_ret
    exact ⟨rfl, Below.trans hb (Below.mono hb2 hb.size)⟩
end Go.Proofs.YtkegnedapnabiaaDoor.bey
