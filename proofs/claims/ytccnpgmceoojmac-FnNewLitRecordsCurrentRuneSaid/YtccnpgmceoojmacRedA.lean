/-
  ValidName, numberLiteral and bytes.IndexByte, for every text; and what isLitRedir answers.
-/
import Derived.Test.YtccnpgmceoojmacBaseF
import Derived.Laws.RangeAny
import Derived.Laws.BytesArg
import Derived.Lib.BytesEntry
import Derived.Lib.Strings
namespace Go.Proofs.Ytccnpgmceoojmac.red
open Go.RowKit
open Go.Proofs.Ytccnpgmceoojmac

def digB (a : Int) : Bool := decide (48 ≤ a ∧ a ≤ 57)
def letB (a : Int) : Bool := decide ((97 ≤ a ∧ a ≤ 122) ∨ (65 ≤ a ∧ a ≤ 90))
theorem letR (a : Int) (w : World) : Calls Try.prog 59 #[.int .i32 a] w fun e w' => e = .returned (.bool (letB a)) ∧ w = w' := by
  go_enter Try.func59, Try.ntmps59
  go_wp2
  all_goals
    go_ret
    refine ⟨ret_bool ?_, rfl⟩
    rw [Bool.eq_iff_iff]
    simp [letB] at *
    try omega
theorem digR (a : Int) (w : World) : Calls Try.prog 60 #[.int .i32 a] w fun e w' => e = .returned (.bool (digB a)) ∧ w = w' := by
  go_enter Try.func60, Try.ntmps60
  go_wp2
  all_goals
    go_ret
    refine ⟨ret_bool ?_, rfl⟩
    rw [Bool.eq_iff_iff]
    simp [digB] at *
    try omega
def byteI (s : ByteArray) (i : Nat) : Int := if h : i < s.size then ((s[i]'h).toNat : Int) else 0
def okAt (s : ByteArray) (i : Nat) : Bool := letB (byteI s i) || (byteI s i == 95) || (decide (0 < i) && digB (byteI s i))
def nmAt (s : ByteArray) (i : Nat) : Bool := digB (byteI s i)
def AllAt (f : Nat → Bool) (p : Nat) : Prop := ∀ i, i < p → f i = true
def vn (s : ByteArray) : Bool := decide (0 < s.size) && (List.range s.size).all (okAt s)
def nm (s : ByteArray) : Bool := (List.range s.size).all (nmAt s)
theorem AllAt.succ {f : Nat → Bool} {p : Nat} (h : AllAt f p) (hp : f p = true) : AllAt f (p + 1) := fun i hi => by
  by_cases e : i = p
  · subst e; exact hp
  · exact h i (by omega)
theorem vn_true (s : ByteArray) (h0 : 0 < s.size) (h : AllAt (okAt s) s.size) : vn s = true := by
  unfold vn
  rw [decide_eq_true h0, List.all_eq_true.2 (fun i hi => h i (by simpa using hi))]
  rfl
theorem vn_false (s : ByteArray) (i : Nat) (hi : i < s.size) (h : okAt s i = false) : vn s = false := by
  unfold vn
  cases e : (List.range s.size).all (okAt s)
  · simp
  · have := List.all_eq_true.1 e i (by simpa using hi)
    rw [h] at this
    exact absurd this (by decide)
theorem nm_true (s : ByteArray) (h : AllAt (nmAt s) s.size) : nm s = true := List.all_eq_true.2 (fun i hi => h i (by simpa using hi))
theorem nm_false (s : ByteArray) (i : Nat) (hi : i < s.size) (h : nmAt s i = false) : nm s = false := by
  unfold nm
  cases e : (List.range s.size).all (nmAt s)
  · rfl
  · have := List.all_eq_true.1 e i (by simpa using hi)
    rw [h] at this
    exact absurd this (by decide)
theorem nonempty (s : ByteArray) (hs : 0 < s.size) : s.toList.isEmpty = false := by
  cases h : s.toList with
  | nil => exfalso; rw [Lib.toList_data] at h; have e : s.data.toList.length = 0 := by rw [h]; rfl
           have : s.size = s.data.toList.length := rfl
           omega
  | cons a b => rfl
theorem isempty (s : ByteArray) (hs : s.size = 0) : s.toList.isEmpty = true := by
  cases h : s.toList with
  | nil => rfl
  | cons a b => exfalso; rw [Lib.toList_data] at h; have e : s.data.toList.length = b.length + 1 := by rw [h]; rfl
                have : s.size = s.data.toList.length := rfl
                omega
theorem below_iter (w : World) (s : ByteArray) (p : Nat) : Below w.heap.size w (w.iter s p) := by
  unfold World.iter
  exact (Below.refl _ _).alloc (Nat.le_refl _) _
set_option maxRecDepth 100000 in
set_option maxHeartbeats 2000000 in
theorem validName (s : ByteArray) (w : World) (hm : s.size ≤ 1099511627776) : Calls Try.prog 56 #[.string s] w fun e w' => e = .returned (.bool (vn s)) ∧ Below w.heap.size w w' := by
  by_cases h0 : 0 < s.size
  · have he := nonempty s h0
    have H0 := Lib.hid h0
    clear h0
    go_enter Try.func56, Try.ntmps56
    go_wp2
    go_loopw [] (fun wr => ∃ p : Nat, p ≤ s.size ∧ wr = w.iter s p ∧ Hid (AllAt (okAt s) p)) (fun wr => s.size - wr.iterPos w.heap.size)
    case atStart => exact ⟨0, by omega, rfl, Lib.hid (fun i hi => absurd hi (by omega))⟩
    case round =>
      obtain ⟨p, hp, rfl, HO⟩ := hrel
      by_cases hlt : p < s.size
      · by_cases ha : (s[p]'hlt).toNat < 128
        · have nx := fun ty => run_next_ascii (P := Try.prog) w s p ty hlt ha
          obtain ⟨c, hc⟩ : ∃ c : Int, ((s[p]'hlt).toNat : Int) = c := ⟨_, rfl⟩
          have eb : byteI s p = c := by unfold byteI; rw [dif_pos hlt]; exact hc
          have eo : okAt s p = (letB c || (c == 95) || (decide (0 < p) && digB c)) := by unfold okAt; rw [eb]
          have EO := Lib.hid eo
          rw [hc] at nx
          clear eo eb hc ha
          cases hl : letB c with
          | true =>
            have HO' := HO.out.succ (by rw [EO.out, hl]; rfl)
            have HQ := Lib.hid HO'
            clear HO'
            go_wp2_with (first | (go_at_call 59; refine (letR _ _).mono ?_; rintro e w' ⟨rfl, rfl⟩) | (go_at_call 60; refine (digR _ _).mono ?_; rintro e w' ⟨rfl, rfl⟩))
            go_roundw
            case rel => exact ⟨p + 1, by omega, rfl, HQ⟩
            case measure => simp; omega
          | false =>
            cases hu : (c == 95) with
            | true =>
              have HO' := HO.out.succ (by rw [EO.out, hl, hu]; rfl)
              have HQ := Lib.hid HO'
              clear HO'
              go_wp2_with (first | (go_at_call 59; refine (letR _ _).mono ?_; rintro e w' ⟨rfl, rfl⟩) | (go_at_call 60; refine (digR _ _).mono ?_; rintro e w' ⟨rfl, rfl⟩))
              go_roundw
              case rel => exact ⟨p + 1, by omega, rfl, HQ⟩
              case measure => simp; omega
            | false =>
              by_cases p0 : 0 < p
              · have p1 : (0 : Int) < (p : Int) := by omega
                cases hd : digB c with
                | true =>
                  have HO' := HO.out.succ (by rw [EO.out, hl, hu, hd]; simp [p0])
                  have HQ := Lib.hid HO'
                  clear HO'
                  go_wp2_with (first | (go_at_call 59; refine (letR _ _).mono ?_; rintro e w' ⟨rfl, rfl⟩) | (go_at_call 60; refine (digR _ _).mono ?_; rintro e w' ⟨rfl, rfl⟩))
                  go_roundw
                  case rel => exact ⟨p + 1, by omega, rfl, HQ⟩
                  case measure => simp; omega
                | false =>
                  go_wp2_with (first | (go_at_call 59; refine (letR _ _).mono ?_; rintro e w' ⟨rfl, rfl⟩) | (go_at_call 60; refine (digR _ _).mono ?_; rintro e w' ⟨rfl, rfl⟩))
                  go_ret
                  exact ⟨ret_bool (vn_false s _ hlt (by rw [EO.out, hl, hu, hd]; simp)).symm, below_iter _ _ _⟩
              · obtain rfl : p = 0 := by omega
                go_wp2_with (first | (go_at_call 59; refine (letR _ _).mono ?_; rintro e w' ⟨rfl, rfl⟩) | (go_at_call 60; refine (digR _ _).mono ?_; rintro e w' ⟨rfl, rfl⟩))
                go_ret
                exact ⟨ret_bool (vn_false s _ hlt (by rw [EO.out, hl, hu]; simp)).symm, below_iter _ _ _⟩
        · have nx := fun ty => run_next_any (P := Try.prog) w s p ty hlt
          have hg := (decode_high s p hlt (by omega)).1
          obtain ⟨c, hc⟩ : ∃ c : Int, (s[p]'hlt).toNat = c := ⟨_, rfl⟩
          have eb : byteI s p = c := by unfold byteI; rw [dif_pos hlt]; exact hc
          have eo : okAt s p = false := by
            unfold okAt
            rw [eb]
            simp [letB, digB]
            omega
          have EO := Lib.hid eo
          clear eo eb hc ha
          generalize Utf8.decode s p = D at *
          obtain ⟨r, z⟩ := D
          have hg' : 128 ≤ (r : Int) := by simp at hg; omega
          have hl : letB (r : Int) = false := by simp [letB]; omega
          have hd : digB (r : Int) = false := by simp [digB]; omega
          have hu : ((r : Int) == 95) = false := by simp; omega
          clear hg
          dsimp only at nx
          by_cases p0 : 0 < p
          · have p1 : (0 : Int) < (p : Int) := by omega
            go_wp2_with (first | (go_at_call 59; refine (letR _ _).mono ?_; rintro e w' ⟨rfl, rfl⟩) | (go_at_call 60; refine (digR _ _).mono ?_; rintro e w' ⟨rfl, rfl⟩))
            go_ret
            exact ⟨ret_bool (vn_false s _ hlt EO.out).symm, below_iter _ _ _⟩
          · obtain rfl : p = 0 := by omega
            go_wp2_with (first | (go_at_call 59; refine (letR _ _).mono ?_; rintro e w' ⟨rfl, rfl⟩) | (go_at_call 60; refine (digR _ _).mono ?_; rintro e w' ⟨rfl, rfl⟩))
            go_ret
            exact ⟨ret_bool (vn_false s _ hlt EO.out).symm, below_iter _ _ _⟩
      · obtain rfl : p = s.size := by omega
        have nx := fun ty => run_next_end (P := Try.prog) w s s.size ty hlt
        go_wp2
        go_ret
        exact ⟨ret_bool (vn_true s H0.out HO.out).symm, below_iter _ _ _⟩
  · have he := isempty s (by omega)
    go_enter Try.func56, Try.ntmps56
    go_wp2
    go_ret
    exact ⟨ret_bool (by unfold vn; rw [decide_eq_false h0]; rfl), Below.refl _ _⟩
end Go.Proofs.Ytccnpgmceoojmac.red
