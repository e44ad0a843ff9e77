/-
  What testUnaryOp and testBinaryOp answer: the code of the word in their tables, zero for every other string.
-/
import Derived.Test.YtkegnedapnabiacBase
import Derived.PlainAid
import Derived.Lib.Strings
namespace Go.Proofs.Ytkegnedapnabiac
open Go.RowKit Go.PlainAid

theorem of_list (s : ByteArray) (l : List UInt8) (h : s.toList = l) : s = ⟨l.toArray⟩ := by
  rw [Lib.toList_data] at h
  cases s with
  | mk d => subst h; simp

def uLetters : List UInt8 := [101, 102, 100, 99, 98, 112, 83, 76, 107, 103, 117, 71, 79, 78, 114, 119, 120, 115, 116, 122, 110, 111, 118, 82]
def uLet (c : UInt8) : Int := if c = 97 then 105 else if c = 104 then 112 else match uLetters.findIdx? (· == c) with | some i => 105 + (i : Int) | none => 0
def uOp (l : List UInt8) : Int := match l with | [33] => 39 | [45, c] => uLet c | _ => 0
def bPairs : List (UInt8 × UInt8) := [(110, 116), (111, 116), (101, 102), (101, 113), (110, 101), (108, 101), (103, 101), (108, 116), (103, 116)]
def bPair (c d : UInt8) : Int := match bPairs.findIdx? (· == (c, d)) with | some i => 130 + (i : Int) | none => 0
def bOp (l : List UInt8) : Int := match l with | [61] => 87 | [61, 61] => 45 | [33, 61] => 46 | [61, 126] => 129 | [45, c, d] => bPair c d | _ => 0
def unW0 : List (List UInt8) := [[33], [45, 101], [45, 97], [45, 102], [45, 100], [45, 99], [45, 98], [45, 112], [45, 83], [45, 76], [45, 107], [45, 103], [45, 117], [45, 71], [45, 79], [45, 78], [45, 114], [45, 119], [45, 120], [45, 115], [45, 116], [45, 122], [45, 110], [45, 111], [45, 118], [45, 82], [45, 104]]
def biW0 : List (List UInt8) := [[61], [61, 61], [33, 61], [61, 126], [45, 110, 116], [45, 111, 116], [45, 101, 102], [45, 101, 113], [45, 110, 101], [45, 108, 101], [45, 103, 101], [45, 108, 116], [45, 103, 116]]
theorem uLet_all : ∀ n : Fin 256, unW0.contains [45, UInt8.ofNat n.1] = false → uLet (UInt8.ofNat n.1) = 0 := by decide +kernel
theorem uLet_zero (c : UInt8) (h : unW0.contains [45, c] = false) : uLet c = 0 := by
  have hc : UInt8.ofNat c.toNat = c := by simp
  have := uLet_all ⟨c.toNat, c.toNat_lt⟩
  simp only [hc] at this
  exact this h
theorem uOp_zero (l : List UInt8) (h : unW0.contains l = false) : uOp l = 0 := by
  unfold uOp
  split
  · exact absurd h (by decide)
  · exact uLet_zero _ h
  · rfl
theorem find_none {α : Type} [BEq α] [LawfulBEq α] (l : List α) (a : α) (h : a ∉ l) : l.findIdx? (· == a) = none := by
  rw [List.findIdx?_eq_none_iff]
  intro x hx
  simp
  rintro rfl
  exact h hx
theorem bPair_zero (c d : UInt8) (h : biW0.contains [45, c, d] = false) : bPair c d = 0 := by
  have hn : (c, d) ∉ bPairs := by
    intro hm
    simp [bPairs] at hm
    rcases hm with ⟨rfl, rfl⟩ | ⟨rfl, rfl⟩ | ⟨rfl, rfl⟩ | ⟨rfl, rfl⟩ | ⟨rfl, rfl⟩ | ⟨rfl, rfl⟩ | ⟨rfl, rfl⟩ | ⟨rfl, rfl⟩ | ⟨rfl, rfl⟩ <;> exact absurd h (by decide)
  unfold bPair
  rw [find_none _ _ hn]
theorem bOp_zero (l : List UInt8) (h : biW0.contains l = false) : bOp l = 0 := by
  unfold bOp
  split
  · exact absurd h (by decide)
  · exact absurd h (by decide)
  · exact absurd h (by decide)
  · exact absurd h (by decide)
  · exact bPair_zero _ _ h
  · rfl

theorem un_c0 (w : World) : Calls Try.prog 24 #[.string ⟨#[33]⟩] w fun e w' => e = .returned (.int .u32 39) ∧ w = w' := by
  go_enter Try.func24, Try.ntmps24
  go_wp2
  go_ret
  exact ⟨rfl, rfl⟩
theorem un_c1 (w : World) : Calls Try.prog 24 #[.string ⟨#[45, 101]⟩] w fun e w' => e = .returned (.int .u32 105) ∧ w = w' := by
  go_enter Try.func24, Try.ntmps24
  go_wp2
  go_ret
  exact ⟨rfl, rfl⟩
theorem un_c2 (w : World) : Calls Try.prog 24 #[.string ⟨#[45, 97]⟩] w fun e w' => e = .returned (.int .u32 105) ∧ w = w' := by
  go_enter Try.func24, Try.ntmps24
  go_wp2
  go_ret
  exact ⟨rfl, rfl⟩
theorem un_c3 (w : World) : Calls Try.prog 24 #[.string ⟨#[45, 102]⟩] w fun e w' => e = .returned (.int .u32 106) ∧ w = w' := by
  go_enter Try.func24, Try.ntmps24
  go_wp2
  go_ret
  exact ⟨rfl, rfl⟩
theorem un_c4 (w : World) : Calls Try.prog 24 #[.string ⟨#[45, 100]⟩] w fun e w' => e = .returned (.int .u32 107) ∧ w = w' := by
  go_enter Try.func24, Try.ntmps24
  go_wp2
  go_ret
  exact ⟨rfl, rfl⟩
theorem un_c5 (w : World) : Calls Try.prog 24 #[.string ⟨#[45, 99]⟩] w fun e w' => e = .returned (.int .u32 108) ∧ w = w' := by
  go_enter Try.func24, Try.ntmps24
  go_wp2
  go_ret
  exact ⟨rfl, rfl⟩
theorem un_c6 (w : World) : Calls Try.prog 24 #[.string ⟨#[45, 98]⟩] w fun e w' => e = .returned (.int .u32 109) ∧ w = w' := by
  go_enter Try.func24, Try.ntmps24
  go_wp2
  go_ret
  exact ⟨rfl, rfl⟩
theorem un_c7 (w : World) : Calls Try.prog 24 #[.string ⟨#[45, 112]⟩] w fun e w' => e = .returned (.int .u32 110) ∧ w = w' := by
  go_enter Try.func24, Try.ntmps24
  go_wp2
  go_ret
  exact ⟨rfl, rfl⟩
theorem un_c8 (w : World) : Calls Try.prog 24 #[.string ⟨#[45, 83]⟩] w fun e w' => e = .returned (.int .u32 111) ∧ w = w' := by
  go_enter Try.func24, Try.ntmps24
  go_wp2
  go_ret
  exact ⟨rfl, rfl⟩
theorem un_c9 (w : World) : Calls Try.prog 24 #[.string ⟨#[45, 76]⟩] w fun e w' => e = .returned (.int .u32 112) ∧ w = w' := by
  go_enter Try.func24, Try.ntmps24
  go_wp2
  go_ret
  exact ⟨rfl, rfl⟩
theorem un_c10 (w : World) : Calls Try.prog 24 #[.string ⟨#[45, 107]⟩] w fun e w' => e = .returned (.int .u32 113) ∧ w = w' := by
  go_enter Try.func24, Try.ntmps24
  go_wp2
  go_ret
  exact ⟨rfl, rfl⟩
theorem un_c11 (w : World) : Calls Try.prog 24 #[.string ⟨#[45, 103]⟩] w fun e w' => e = .returned (.int .u32 114) ∧ w = w' := by
  go_enter Try.func24, Try.ntmps24
  go_wp2
  go_ret
  exact ⟨rfl, rfl⟩
theorem un_c12 (w : World) : Calls Try.prog 24 #[.string ⟨#[45, 117]⟩] w fun e w' => e = .returned (.int .u32 115) ∧ w = w' := by
  go_enter Try.func24, Try.ntmps24
  go_wp2
  go_ret
  exact ⟨rfl, rfl⟩
theorem un_c13 (w : World) : Calls Try.prog 24 #[.string ⟨#[45, 71]⟩] w fun e w' => e = .returned (.int .u32 116) ∧ w = w' := by
  go_enter Try.func24, Try.ntmps24
  go_wp2
  go_ret
  exact ⟨rfl, rfl⟩
theorem un_c14 (w : World) : Calls Try.prog 24 #[.string ⟨#[45, 79]⟩] w fun e w' => e = .returned (.int .u32 117) ∧ w = w' := by
  go_enter Try.func24, Try.ntmps24
  go_wp2
  go_ret
  exact ⟨rfl, rfl⟩
theorem un_c15 (w : World) : Calls Try.prog 24 #[.string ⟨#[45, 78]⟩] w fun e w' => e = .returned (.int .u32 118) ∧ w = w' := by
  go_enter Try.func24, Try.ntmps24
  go_wp2
  go_ret
  exact ⟨rfl, rfl⟩
theorem un_c16 (w : World) : Calls Try.prog 24 #[.string ⟨#[45, 114]⟩] w fun e w' => e = .returned (.int .u32 119) ∧ w = w' := by
  go_enter Try.func24, Try.ntmps24
  go_wp2
  go_ret
  exact ⟨rfl, rfl⟩
theorem un_c17 (w : World) : Calls Try.prog 24 #[.string ⟨#[45, 119]⟩] w fun e w' => e = .returned (.int .u32 120) ∧ w = w' := by
  go_enter Try.func24, Try.ntmps24
  go_wp2
  go_ret
  exact ⟨rfl, rfl⟩
theorem un_c18 (w : World) : Calls Try.prog 24 #[.string ⟨#[45, 120]⟩] w fun e w' => e = .returned (.int .u32 121) ∧ w = w' := by
  go_enter Try.func24, Try.ntmps24
  go_wp2
  go_ret
  exact ⟨rfl, rfl⟩
theorem un_c19 (w : World) : Calls Try.prog 24 #[.string ⟨#[45, 115]⟩] w fun e w' => e = .returned (.int .u32 122) ∧ w = w' := by
  go_enter Try.func24, Try.ntmps24
  go_wp2
  go_ret
  exact ⟨rfl, rfl⟩
theorem un_c20 (w : World) : Calls Try.prog 24 #[.string ⟨#[45, 116]⟩] w fun e w' => e = .returned (.int .u32 123) ∧ w = w' := by
  go_enter Try.func24, Try.ntmps24
  go_wp2
  go_ret
  exact ⟨rfl, rfl⟩
theorem un_c21 (w : World) : Calls Try.prog 24 #[.string ⟨#[45, 122]⟩] w fun e w' => e = .returned (.int .u32 124) ∧ w = w' := by
  go_enter Try.func24, Try.ntmps24
  go_wp2
  go_ret
  exact ⟨rfl, rfl⟩
theorem un_c22 (w : World) : Calls Try.prog 24 #[.string ⟨#[45, 110]⟩] w fun e w' => e = .returned (.int .u32 125) ∧ w = w' := by
  go_enter Try.func24, Try.ntmps24
  go_wp2
  go_ret
  exact ⟨rfl, rfl⟩
theorem un_c23 (w : World) : Calls Try.prog 24 #[.string ⟨#[45, 111]⟩] w fun e w' => e = .returned (.int .u32 126) ∧ w = w' := by
  go_enter Try.func24, Try.ntmps24
  go_wp2
  go_ret
  exact ⟨rfl, rfl⟩
theorem un_c24 (w : World) : Calls Try.prog 24 #[.string ⟨#[45, 118]⟩] w fun e w' => e = .returned (.int .u32 127) ∧ w = w' := by
  go_enter Try.func24, Try.ntmps24
  go_wp2
  go_ret
  exact ⟨rfl, rfl⟩
theorem un_c25 (w : World) : Calls Try.prog 24 #[.string ⟨#[45, 82]⟩] w fun e w' => e = .returned (.int .u32 128) ∧ w = w' := by
  go_enter Try.func24, Try.ntmps24
  go_wp2
  go_ret
  exact ⟨rfl, rfl⟩
theorem un_c26 (w : World) : Calls Try.prog 24 #[.string ⟨#[45, 104]⟩] w fun e w' => e = .returned (.int .u32 112) ∧ w = w' := by
  go_enter Try.func24, Try.ntmps24
  go_wp2
  go_ret
  exact ⟨rfl, rfl⟩
theorem un_no (s : ByteArray) (w : World) (e0 : (s.toList == [33]) = false) (e1 : (s.toList == [45, 101]) = false) (e2 : (s.toList == [45, 97]) = false) (e3 : (s.toList == [45, 102]) = false) (e4 : (s.toList == [45, 100]) = false) (e5 : (s.toList == [45, 99]) = false) (e6 : (s.toList == [45, 98]) = false) (e7 : (s.toList == [45, 112]) = false) (e8 : (s.toList == [45, 83]) = false) (e9 : (s.toList == [45, 76]) = false) (e10 : (s.toList == [45, 107]) = false) (e11 : (s.toList == [45, 103]) = false) (e12 : (s.toList == [45, 117]) = false) (e13 : (s.toList == [45, 71]) = false) (e14 : (s.toList == [45, 79]) = false) (e15 : (s.toList == [45, 78]) = false) (e16 : (s.toList == [45, 114]) = false) (e17 : (s.toList == [45, 119]) = false) (e18 : (s.toList == [45, 120]) = false) (e19 : (s.toList == [45, 115]) = false) (e20 : (s.toList == [45, 116]) = false) (e21 : (s.toList == [45, 122]) = false) (e22 : (s.toList == [45, 110]) = false) (e23 : (s.toList == [45, 111]) = false) (e24 : (s.toList == [45, 118]) = false) (e25 : (s.toList == [45, 82]) = false) (e26 : (s.toList == [45, 104]) = false) : Calls Try.prog 24 #[.string s] w fun e w' => e = .returned (.int .u32 0) ∧ w = w' := by
  go_enter Try.func24, Try.ntmps24
  go_wp2
  go_ret
  exact ⟨rfl, rfl⟩
theorem un_any (s : ByteArray) (w : World) : Calls Try.prog 24 #[.string s] w fun e w' => e = .returned (.int .u32 (uOp s.toList)) ∧ w = w' := by
  by_cases h0 : s.toList = [33]
  · have e : uOp s.toList = 39 := by rw [h0]; decide +kernel
    rw [e]
    obtain rfl := of_list s _ h0
    exact un_c0 w
  by_cases h1 : s.toList = [45, 101]
  · have e : uOp s.toList = 105 := by rw [h1]; decide +kernel
    rw [e]
    obtain rfl := of_list s _ h1
    exact un_c1 w
  by_cases h2 : s.toList = [45, 97]
  · have e : uOp s.toList = 105 := by rw [h2]; decide +kernel
    rw [e]
    obtain rfl := of_list s _ h2
    exact un_c2 w
  by_cases h3 : s.toList = [45, 102]
  · have e : uOp s.toList = 106 := by rw [h3]; decide +kernel
    rw [e]
    obtain rfl := of_list s _ h3
    exact un_c3 w
  by_cases h4 : s.toList = [45, 100]
  · have e : uOp s.toList = 107 := by rw [h4]; decide +kernel
    rw [e]
    obtain rfl := of_list s _ h4
    exact un_c4 w
  by_cases h5 : s.toList = [45, 99]
  · have e : uOp s.toList = 108 := by rw [h5]; decide +kernel
    rw [e]
    obtain rfl := of_list s _ h5
    exact un_c5 w
  by_cases h6 : s.toList = [45, 98]
  · have e : uOp s.toList = 109 := by rw [h6]; decide +kernel
    rw [e]
    obtain rfl := of_list s _ h6
    exact un_c6 w
  by_cases h7 : s.toList = [45, 112]
  · have e : uOp s.toList = 110 := by rw [h7]; decide +kernel
    rw [e]
    obtain rfl := of_list s _ h7
    exact un_c7 w
  by_cases h8 : s.toList = [45, 83]
  · have e : uOp s.toList = 111 := by rw [h8]; decide +kernel
    rw [e]
    obtain rfl := of_list s _ h8
    exact un_c8 w
  by_cases h9 : s.toList = [45, 76]
  · have e : uOp s.toList = 112 := by rw [h9]; decide +kernel
    rw [e]
    obtain rfl := of_list s _ h9
    exact un_c9 w
  by_cases h10 : s.toList = [45, 107]
  · have e : uOp s.toList = 113 := by rw [h10]; decide +kernel
    rw [e]
    obtain rfl := of_list s _ h10
    exact un_c10 w
  by_cases h11 : s.toList = [45, 103]
  · have e : uOp s.toList = 114 := by rw [h11]; decide +kernel
    rw [e]
    obtain rfl := of_list s _ h11
    exact un_c11 w
  by_cases h12 : s.toList = [45, 117]
  · have e : uOp s.toList = 115 := by rw [h12]; decide +kernel
    rw [e]
    obtain rfl := of_list s _ h12
    exact un_c12 w
  by_cases h13 : s.toList = [45, 71]
  · have e : uOp s.toList = 116 := by rw [h13]; decide +kernel
    rw [e]
    obtain rfl := of_list s _ h13
    exact un_c13 w
  by_cases h14 : s.toList = [45, 79]
  · have e : uOp s.toList = 117 := by rw [h14]; decide +kernel
    rw [e]
    obtain rfl := of_list s _ h14
    exact un_c14 w
  by_cases h15 : s.toList = [45, 78]
  · have e : uOp s.toList = 118 := by rw [h15]; decide +kernel
    rw [e]
    obtain rfl := of_list s _ h15
    exact un_c15 w
  by_cases h16 : s.toList = [45, 114]
  · have e : uOp s.toList = 119 := by rw [h16]; decide +kernel
    rw [e]
    obtain rfl := of_list s _ h16
    exact un_c16 w
  by_cases h17 : s.toList = [45, 119]
  · have e : uOp s.toList = 120 := by rw [h17]; decide +kernel
    rw [e]
    obtain rfl := of_list s _ h17
    exact un_c17 w
  by_cases h18 : s.toList = [45, 120]
  · have e : uOp s.toList = 121 := by rw [h18]; decide +kernel
    rw [e]
    obtain rfl := of_list s _ h18
    exact un_c18 w
  by_cases h19 : s.toList = [45, 115]
  · have e : uOp s.toList = 122 := by rw [h19]; decide +kernel
    rw [e]
    obtain rfl := of_list s _ h19
    exact un_c19 w
  by_cases h20 : s.toList = [45, 116]
  · have e : uOp s.toList = 123 := by rw [h20]; decide +kernel
    rw [e]
    obtain rfl := of_list s _ h20
    exact un_c20 w
  by_cases h21 : s.toList = [45, 122]
  · have e : uOp s.toList = 124 := by rw [h21]; decide +kernel
    rw [e]
    obtain rfl := of_list s _ h21
    exact un_c21 w
  by_cases h22 : s.toList = [45, 110]
  · have e : uOp s.toList = 125 := by rw [h22]; decide +kernel
    rw [e]
    obtain rfl := of_list s _ h22
    exact un_c22 w
  by_cases h23 : s.toList = [45, 111]
  · have e : uOp s.toList = 126 := by rw [h23]; decide +kernel
    rw [e]
    obtain rfl := of_list s _ h23
    exact un_c23 w
  by_cases h24 : s.toList = [45, 118]
  · have e : uOp s.toList = 127 := by rw [h24]; decide +kernel
    rw [e]
    obtain rfl := of_list s _ h24
    exact un_c24 w
  by_cases h25 : s.toList = [45, 82]
  · have e : uOp s.toList = 128 := by rw [h25]; decide +kernel
    rw [e]
    obtain rfl := of_list s _ h25
    exact un_c25 w
  by_cases h26 : s.toList = [45, 104]
  · have e : uOp s.toList = 112 := by rw [h26]; decide +kernel
    rw [e]
    obtain rfl := of_list s _ h26
    exact un_c26 w
  have hz : uOp s.toList = 0 := uOp_zero _ (by simp [unW0, h0, h1, h2, h3, h4, h5, h6, h7, h8, h9, h10, h11, h12, h13, h14, h15, h16, h17, h18, h19, h20, h21, h22, h23, h24, h25, h26])
  rw [hz]
  exact un_no s w (by simp [h0]) (by simp [h1]) (by simp [h2]) (by simp [h3]) (by simp [h4]) (by simp [h5]) (by simp [h6]) (by simp [h7]) (by simp [h8]) (by simp [h9]) (by simp [h10]) (by simp [h11]) (by simp [h12]) (by simp [h13]) (by simp [h14]) (by simp [h15]) (by simp [h16]) (by simp [h17]) (by simp [h18]) (by simp [h19]) (by simp [h20]) (by simp [h21]) (by simp [h22]) (by simp [h23]) (by simp [h24]) (by simp [h25]) (by simp [h26])

theorem bi_c0 (w : World) : Calls Try.prog 25 #[.string ⟨#[61]⟩] w fun e w' => e = .returned (.int .u32 87) ∧ w = w' := by
  go_enter Try.func25, Try.ntmps25
  go_wp2
  go_ret
  exact ⟨rfl, rfl⟩
theorem bi_c1 (w : World) : Calls Try.prog 25 #[.string ⟨#[61, 61]⟩] w fun e w' => e = .returned (.int .u32 45) ∧ w = w' := by
  go_enter Try.func25, Try.ntmps25
  go_wp2
  go_ret
  exact ⟨rfl, rfl⟩
theorem bi_c2 (w : World) : Calls Try.prog 25 #[.string ⟨#[33, 61]⟩] w fun e w' => e = .returned (.int .u32 46) ∧ w = w' := by
  go_enter Try.func25, Try.ntmps25
  go_wp2
  go_ret
  exact ⟨rfl, rfl⟩
theorem bi_c3 (w : World) : Calls Try.prog 25 #[.string ⟨#[61, 126]⟩] w fun e w' => e = .returned (.int .u32 129) ∧ w = w' := by
  go_enter Try.func25, Try.ntmps25
  go_wp2
  go_ret
  exact ⟨rfl, rfl⟩
theorem bi_c4 (w : World) : Calls Try.prog 25 #[.string ⟨#[45, 110, 116]⟩] w fun e w' => e = .returned (.int .u32 130) ∧ w = w' := by
  go_enter Try.func25, Try.ntmps25
  go_wp2
  go_ret
  exact ⟨rfl, rfl⟩
theorem bi_c5 (w : World) : Calls Try.prog 25 #[.string ⟨#[45, 111, 116]⟩] w fun e w' => e = .returned (.int .u32 131) ∧ w = w' := by
  go_enter Try.func25, Try.ntmps25
  go_wp2
  go_ret
  exact ⟨rfl, rfl⟩
theorem bi_c6 (w : World) : Calls Try.prog 25 #[.string ⟨#[45, 101, 102]⟩] w fun e w' => e = .returned (.int .u32 132) ∧ w = w' := by
  go_enter Try.func25, Try.ntmps25
  go_wp2
  go_ret
  exact ⟨rfl, rfl⟩
theorem bi_c7 (w : World) : Calls Try.prog 25 #[.string ⟨#[45, 101, 113]⟩] w fun e w' => e = .returned (.int .u32 133) ∧ w = w' := by
  go_enter Try.func25, Try.ntmps25
  go_wp2
  go_ret
  exact ⟨rfl, rfl⟩
theorem bi_c8 (w : World) : Calls Try.prog 25 #[.string ⟨#[45, 110, 101]⟩] w fun e w' => e = .returned (.int .u32 134) ∧ w = w' := by
  go_enter Try.func25, Try.ntmps25
  go_wp2
  go_ret
  exact ⟨rfl, rfl⟩
theorem bi_c9 (w : World) : Calls Try.prog 25 #[.string ⟨#[45, 108, 101]⟩] w fun e w' => e = .returned (.int .u32 135) ∧ w = w' := by
  go_enter Try.func25, Try.ntmps25
  go_wp2
  go_ret
  exact ⟨rfl, rfl⟩
theorem bi_c10 (w : World) : Calls Try.prog 25 #[.string ⟨#[45, 103, 101]⟩] w fun e w' => e = .returned (.int .u32 136) ∧ w = w' := by
  go_enter Try.func25, Try.ntmps25
  go_wp2
  go_ret
  exact ⟨rfl, rfl⟩
theorem bi_c11 (w : World) : Calls Try.prog 25 #[.string ⟨#[45, 108, 116]⟩] w fun e w' => e = .returned (.int .u32 137) ∧ w = w' := by
  go_enter Try.func25, Try.ntmps25
  go_wp2
  go_ret
  exact ⟨rfl, rfl⟩
theorem bi_c12 (w : World) : Calls Try.prog 25 #[.string ⟨#[45, 103, 116]⟩] w fun e w' => e = .returned (.int .u32 138) ∧ w = w' := by
  go_enter Try.func25, Try.ntmps25
  go_wp2
  go_ret
  exact ⟨rfl, rfl⟩
theorem bi_no (s : ByteArray) (w : World) (e0 : (s.toList == [61]) = false) (e1 : (s.toList == [61, 61]) = false) (e2 : (s.toList == [33, 61]) = false) (e3 : (s.toList == [61, 126]) = false) (e4 : (s.toList == [45, 110, 116]) = false) (e5 : (s.toList == [45, 111, 116]) = false) (e6 : (s.toList == [45, 101, 102]) = false) (e7 : (s.toList == [45, 101, 113]) = false) (e8 : (s.toList == [45, 110, 101]) = false) (e9 : (s.toList == [45, 108, 101]) = false) (e10 : (s.toList == [45, 103, 101]) = false) (e11 : (s.toList == [45, 108, 116]) = false) (e12 : (s.toList == [45, 103, 116]) = false) : Calls Try.prog 25 #[.string s] w fun e w' => e = .returned (.int .u32 0) ∧ w = w' := by
  go_enter Try.func25, Try.ntmps25
  go_wp2
  go_ret
  exact ⟨rfl, rfl⟩
theorem bi_any (s : ByteArray) (w : World) : Calls Try.prog 25 #[.string s] w fun e w' => e = .returned (.int .u32 (bOp s.toList)) ∧ w = w' := by
  by_cases h0 : s.toList = [61]
  · have e : bOp s.toList = 87 := by rw [h0]; decide +kernel
    rw [e]
    obtain rfl := of_list s _ h0
    exact bi_c0 w
  by_cases h1 : s.toList = [61, 61]
  · have e : bOp s.toList = 45 := by rw [h1]; decide +kernel
    rw [e]
    obtain rfl := of_list s _ h1
    exact bi_c1 w
  by_cases h2 : s.toList = [33, 61]
  · have e : bOp s.toList = 46 := by rw [h2]; decide +kernel
    rw [e]
    obtain rfl := of_list s _ h2
    exact bi_c2 w
  by_cases h3 : s.toList = [61, 126]
  · have e : bOp s.toList = 129 := by rw [h3]; decide +kernel
    rw [e]
    obtain rfl := of_list s _ h3
    exact bi_c3 w
  by_cases h4 : s.toList = [45, 110, 116]
  · have e : bOp s.toList = 130 := by rw [h4]; decide +kernel
    rw [e]
    obtain rfl := of_list s _ h4
    exact bi_c4 w
  by_cases h5 : s.toList = [45, 111, 116]
  · have e : bOp s.toList = 131 := by rw [h5]; decide +kernel
    rw [e]
    obtain rfl := of_list s _ h5
    exact bi_c5 w
  by_cases h6 : s.toList = [45, 101, 102]
  · have e : bOp s.toList = 132 := by rw [h6]; decide +kernel
    rw [e]
    obtain rfl := of_list s _ h6
    exact bi_c6 w
  by_cases h7 : s.toList = [45, 101, 113]
  · have e : bOp s.toList = 133 := by rw [h7]; decide +kernel
    rw [e]
    obtain rfl := of_list s _ h7
    exact bi_c7 w
  by_cases h8 : s.toList = [45, 110, 101]
  · have e : bOp s.toList = 134 := by rw [h8]; decide +kernel
    rw [e]
    obtain rfl := of_list s _ h8
    exact bi_c8 w
  by_cases h9 : s.toList = [45, 108, 101]
  · have e : bOp s.toList = 135 := by rw [h9]; decide +kernel
    rw [e]
    obtain rfl := of_list s _ h9
    exact bi_c9 w
  by_cases h10 : s.toList = [45, 103, 101]
  · have e : bOp s.toList = 136 := by rw [h10]; decide +kernel
    rw [e]
    obtain rfl := of_list s _ h10
    exact bi_c10 w
  by_cases h11 : s.toList = [45, 108, 116]
  · have e : bOp s.toList = 137 := by rw [h11]; decide +kernel
    rw [e]
    obtain rfl := of_list s _ h11
    exact bi_c11 w
  by_cases h12 : s.toList = [45, 103, 116]
  · have e : bOp s.toList = 138 := by rw [h12]; decide +kernel
    rw [e]
    obtain rfl := of_list s _ h12
    exact bi_c12 w
  have hz : bOp s.toList = 0 := bOp_zero _ (by simp [biW0, h0, h1, h2, h3, h4, h5, h6, h7, h8, h9, h10, h11, h12])
  rw [hz]
  exact bi_no s w (by simp [h0]) (by simp [h1]) (by simp [h2]) (by simp [h3]) (by simp [h4]) (by simp [h5]) (by simp [h6]) (by simp [h7]) (by simp [h8]) (by simp [h9]) (by simp [h10]) (by simp [h11]) (by simp [h12])

end Go.Proofs.Ytkegnedapnabiac
