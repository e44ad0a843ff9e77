/-
  ValidName of the letter a followed by the text of one rune answers the ASCII test on that rune: for every integer.
-/
import Derived.Test.YtccibpckfnhenaaValid
import Derived.Below
namespace Go.Proofs.Ytccibpckfnhenaa
open Go.RowKit

theorem enc_size (x : Int) : 1 ≤ (Utf8.encode x).size ∧ (Utf8.encode x).size ≤ 4 := by
  unfold Utf8.encode
  generalize (if Utf8.valid x then x.toNat else Utf8.runeError) = c
  dsimp only
  repeat' split
  · exact ⟨by show 1 ≤ 1; omega, by show 1 ≤ 4; omega⟩
  · exact ⟨by show 1 ≤ 2; omega, by show 2 ≤ 4; omega⟩
  · exact ⟨by show 1 ≤ 3; omega, by show 3 ≤ 4; omega⟩
  · exact ⟨by show 1 ≤ 4; omega, by show 4 ≤ 4; omega⟩

theorem enc_ascii (x : Int) (h0 : 0 ≤ x) (h1 : x ≤ 127) : Utf8.encode x = ⟨#[UInt8.ofNat x.toNat]⟩ := by
  have hv : Utf8.valid x = true := by unfold Utf8.valid; simp; omega
  have hc : x.toNat < 128 := by omega
  unfold Utf8.encode
  simp only [hv, if_true, hc]

theorem enc_high (x : Int) (hx : ¬ (0 ≤ x ∧ x ≤ 127)) (h : 0 < (Utf8.encode x).size) : 128 ≤ ((Utf8.encode x)[0]'h).toNat := by
  have hc : 128 ≤ (if Utf8.valid x then x.toNat else Utf8.runeError) ∧ (if Utf8.valid x then x.toNat else Utf8.runeError) ≤ 1114111 := by
    split
    · rename_i hv
      unfold Utf8.valid at hv
      simp at hv
      omega
    · decide
  revert h
  unfold Utf8.encode
  revert hc
  generalize (if Utf8.valid x then x.toNat else Utf8.runeError) = c
  intro hc
  have h1 : ¬ c < 128 := by omega
  simp only [h1, if_false]
  split
  · intro h
    show 128 ≤ (UInt8.ofNat (192 + c / 64)).toNat
    simp
    omega
  · split
    · intro h
      show 128 ≤ (UInt8.ofNat (224 + c / 4096)).toNat
      simp
      omega
    · intro h
      show 128 ≤ (UInt8.ofNat (240 + c / 262144)).toNat
      simp
      omega

theorem app_zero (t : ByteArray) (h : 0 < ((⟨#[97]⟩ : ByteArray) ++ t).size) : ((⟨#[97]⟩ : ByteArray) ++ t)[0]'h = 97 := by
  rw [ByteArray.getElem_append_left (by decide)]
  rfl
theorem app_one (t : ByteArray) (ht : 0 < t.size) (h : 1 < ((⟨#[97]⟩ : ByteArray) ++ t).size) : ((⟨#[97]⟩ : ByteArray) ++ t)[1]'h = t[0]'ht := by
  rw [ByteArray.getElem_append_right (by decide)]
  rfl
theorem app_size (t : ByteArray) : ((⟨#[97]⟩ : ByteArray) ++ t).size = 1 + t.size := by
  rw [ByteArray.size_append]; rfl

theorem valid_a (x : Int) (w : World) : Calls Try.prog 6 #[.string ((⟨#[97]⟩ : ByteArray) ++ Utf8.encode x)] w fun e w' => e = .returned (.bool (namB x)) ∧ Below w.heap.size w w' := by
  have hsz := enc_size x
  have hs := app_size (Utf8.encode x)
  have i0 : 0 < ((⟨#[97]⟩ : ByteArray) ++ Utf8.encode x).size := by omega
  have i1 : 1 < ((⟨#[97]⟩ : ByteArray) ++ Utf8.encode x).size := by omega
  have e0 := app_zero (Utf8.encode x) i0
  have e1 := app_one (Utf8.encode x) (by omega) i1
  have n0 : ∀ ty, (Instr.next (.pointer (some ⟨w.heap.size, 0, none⟩)) true ty).run Try.prog (w.iter ((⟨#[97]⟩ : ByteArray) ++ Utf8.encode x) 0) = .ok (.tuple #[.bool true, .int .i64 0, .int .i32 97]) (w.iter ((⟨#[97]⟩ : ByteArray) ++ Utf8.encode x) 1) := by
    intro ty
    rw [run_next_ascii w _ 0 ty i0 (by rw [e0]; decide), e0]
    rfl
  by_cases hx : 0 ≤ x ∧ x ≤ 127
  · have ea := enc_ascii x hx.1 hx.2
    have eb : (((⟨#[97]⟩ : ByteArray) ++ Utf8.encode x)[1]'i1).toNat = x.toNat := by
      rw [e1]
      simp only [ea]
      show (UInt8.ofNat x.toNat).toNat = _
      simp
      omega
    refine (valid_step _ w x 2 (by omega) n0 ?_ ?_).mono fun e w' h => ⟨h.1, ?_⟩
    · intro ty
      rw [run_next_ascii w _ 1 ty i1 (by rw [eb]; omega), eb]
      have : ((x.toNat : Nat) : Int) = x := by omega
      rw [this]
      rfl
    · intro _ ty
      refine run_next_end w _ 2 ty ?_
      have : (Utf8.encode x).size = 1 := by rw [ea]; rfl
      omega
    · rw [← h.2]
      exact (Below.refl _ _).alloc (Nat.le_refl _) _
  · have eh := enc_high x hx (by omega)
    rw [← e1] at eh
    have hd := decode_high _ 1 i1 eh
    have hn : namB x = namB ((Utf8.decode ((⟨#[97]⟩ : ByteArray) ++ Utf8.encode x) 1).1 : Nat) := by
      rw [Bool.eq_iff_iff]
      simp [namB]
      omega
    have hf : namB ((Utf8.decode ((⟨#[97]⟩ : ByteArray) ++ Utf8.encode x) 1).1 : Nat) = false := by
      simp [namB]
      omega
    rw [hn]
    refine (valid_step _ w _ _ (by omega) n0 (fun ty => run_next_any w _ 1 ty i1) ?_).mono fun e w' h => ⟨h.1, ?_⟩
    · intro h
      rw [hf] at h
      exact absurd h (by decide)
    · rw [← h.2]
      exact (Below.refl _ _).alloc (Nat.le_refl _) _

theorem law3 (x : Int) (w : World) : Calls Try.prog 3 #[.int .i32 x] w fun e w' => e = .returned (.bool true) ∧ Below w.heap.size w w' := by
  have hsz := (enc_size x).2
  go_enter Try.func3, Try.ntmps3
  go_wp2_with fail
  refine (valid_a _ _).mono ?_
  rintro e w' ⟨rfl, hg⟩
  go_wp2_with (go_at_call 7; refine (zNamR _ _).mono ?_; rintro e w' ⟨rfl, rfl⟩)
  go_ret
  exact ⟨by simp, hg⟩
end Go.Proofs.Ytccibpckfnhenaa
