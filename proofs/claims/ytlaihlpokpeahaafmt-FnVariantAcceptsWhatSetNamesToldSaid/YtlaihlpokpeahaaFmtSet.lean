/-
  LangVariant.Set at every string, and a parser built with what it names.
-/
import Derived.Test.YtlaihlpokpeahaaFmtKeep
import Derived.Stop.CallBack
import Derived.Stop.IfaceNil
import Derived.Stop.FmtTextLaws
import Derived.Lib.Strings
namespace Go.Proofs.YtlaihlpokpeahaaFmt.setv
open Go.RowKit
open Go.Proofs.YtlaihlpokpeahaaFmt
open Go.Proofs.YtlaihlpokpeahaaFmt.keep
open Go.Extern.Stop Go.Stop Go.Extern

theorem call19 (args : Array Value) (w : World) : (callFunc 19 args).run Tryf.prog w = ((FmtStop.errorf #[9, 61] #[35] args).run Tryf.prog w).andThen fun v w' => .ok (.value v) w' :=
  run_callFunc_extern Tryf.func19 (by kernel_rfl) (by kernel_rfl) (by kernel_rfl) (by kernel_rfl) args w
theorem guardF (name : String) (w : World) : (FmtStop.guard name).run Tryf.prog w = .ok () w := by kernel_rfl
theorem fmt0r (w : World) : (FmtDoors.printed ⟨#[117, 110, 107, 110, 111, 119, 110, 32, 115, 104, 101, 108, 108, 32, 108, 97, 110, 103, 117, 97, 103, 101, 32, 118, 97, 114, 105, 97, 110, 116, 58, 32, 37, 113]⟩ 1).run Tryf.prog w = .ok [(0, 113, false)] w := by kernel_rfl
def shape9 : List UInt8 := [12, 6, 0, 0, 0, 0, 0, 0, 0, 115, 116, 114, 105, 110, 103]
theorem op9 (name : String) (x : ByteArray) (w : World) : (FmtStop.operand name true 113 false (.iface 9 (.string x))).run Tryf.prog w = .ok (shape9, FmtStop.pack x.data.toList) w := by kernel_rfl
theorem ptr63 (w : World) : (FmtStop.ptrTo "errors.errorString").run Tryf.prog w = .ok 63 w := by kernel_rfl
theorem elem63 (w : World) : (elemOf 63).run Tryf.prog w = .ok 65 w := by kernel_rfl
set_option maxRecDepth 100000 in
theorem errF (b : Nat) (s : ByteArray) (w : World) (c : w.cell? ⟨b, 0, none⟩ = some (.iface 9 (.string s))) : Calls Tryf.prog 18 #[.string ⟨#[117, 110, 107, 110, 111, 119, 110, 32, 115, 104, 101, 108, 108, 32, 108, 97, 110, 103, 117, 97, 103, 101, 32, 118, 97, 114, 105, 97, 110, 116, 58, 32, 37, 113]⟩, .slice (some ⟨b, 0, none⟩) 1 1] w fun e w' => (∃ p, e = .returned (.iface 63 (.pointer p))) ∧ Below w.heap.size w w' := by
  have h1 := call19
  have h2 := guardF
  have h3 := fmt0r
  have h4 := op9
  have h5 := ptr63
  have h6 := elem63
  go_enter Tryf.func18, Tryf.ntmps18
  go_wp2
  go_ret
  exact ⟨⟨_, rfl⟩, by go_grown⟩
theorem of_list (s : ByteArray) (l : List UInt8) (h : s.toList = l) : s = ⟨l.toArray⟩ := by
  rw [Lib.toList_data] at h
  apply ByteArray.ext
  rw [← h]
theorem set0 (b : Nat) (x : Int) (w : World) (c : w.cell? ⟨b, 0, none⟩ = some (.int .i64 x)) (cf : w.frozen? ⟨b, 0, none⟩ = false) : Calls Tryf.prog 12 #[.pointer (some ⟨b, 0, none⟩), .string ⟨#[98, 97, 115, 104]⟩] w fun e w' => e = .returned .nilIface ∧ w.setCell ⟨b, 0, none⟩ (.int .i64 1) = w' := by
  go_enter Tryf.func12, Tryf.ntmps12
  go_wp2
  go_ret
  exact ⟨rfl, rfl⟩
theorem set1 (b : Nat) (x : Int) (w : World) (c : w.cell? ⟨b, 0, none⟩ = some (.int .i64 x)) (cf : w.frozen? ⟨b, 0, none⟩ = false) : Calls Tryf.prog 12 #[.pointer (some ⟨b, 0, none⟩), .string ⟨#[112, 111, 115, 105, 120]⟩] w fun e w' => e = .returned .nilIface ∧ w.setCell ⟨b, 0, none⟩ (.int .i64 2) = w' := by
  go_enter Tryf.func12, Tryf.ntmps12
  go_wp2
  go_ret
  exact ⟨rfl, rfl⟩
theorem set2 (b : Nat) (x : Int) (w : World) (c : w.cell? ⟨b, 0, none⟩ = some (.int .i64 x)) (cf : w.frozen? ⟨b, 0, none⟩ = false) : Calls Tryf.prog 12 #[.pointer (some ⟨b, 0, none⟩), .string ⟨#[115, 104]⟩] w fun e w' => e = .returned .nilIface ∧ w.setCell ⟨b, 0, none⟩ (.int .i64 2) = w' := by
  go_enter Tryf.func12, Tryf.ntmps12
  go_wp2
  go_ret
  exact ⟨rfl, rfl⟩
theorem set3 (b : Nat) (x : Int) (w : World) (c : w.cell? ⟨b, 0, none⟩ = some (.int .i64 x)) (cf : w.frozen? ⟨b, 0, none⟩ = false) : Calls Tryf.prog 12 #[.pointer (some ⟨b, 0, none⟩), .string ⟨#[100, 97, 115, 104]⟩] w fun e w' => e = .returned .nilIface ∧ w.setCell ⟨b, 0, none⟩ (.int .i64 2) = w' := by
  go_enter Tryf.func12, Tryf.ntmps12
  go_wp2
  go_ret
  exact ⟨rfl, rfl⟩
theorem set4 (b : Nat) (x : Int) (w : World) (c : w.cell? ⟨b, 0, none⟩ = some (.int .i64 x)) (cf : w.frozen? ⟨b, 0, none⟩ = false) : Calls Tryf.prog 12 #[.pointer (some ⟨b, 0, none⟩), .string ⟨#[109, 107, 115, 104]⟩] w fun e w' => e = .returned .nilIface ∧ w.setCell ⟨b, 0, none⟩ (.int .i64 4) = w' := by
  go_enter Tryf.func12, Tryf.ntmps12
  go_wp2
  go_ret
  exact ⟨rfl, rfl⟩
theorem set5 (b : Nat) (x : Int) (w : World) (c : w.cell? ⟨b, 0, none⟩ = some (.int .i64 x)) (cf : w.frozen? ⟨b, 0, none⟩ = false) : Calls Tryf.prog 12 #[.pointer (some ⟨b, 0, none⟩), .string ⟨#[98, 97, 116, 115]⟩] w fun e w' => e = .returned .nilIface ∧ w.setCell ⟨b, 0, none⟩ (.int .i64 8) = w' := by
  go_enter Tryf.func12, Tryf.ntmps12
  go_wp2
  go_ret
  exact ⟨rfl, rfl⟩
theorem set6 (b : Nat) (x : Int) (w : World) (c : w.cell? ⟨b, 0, none⟩ = some (.int .i64 x)) (cf : w.frozen? ⟨b, 0, none⟩ = false) : Calls Tryf.prog 12 #[.pointer (some ⟨b, 0, none⟩), .string ⟨#[122, 115, 104]⟩] w fun e w' => e = .returned .nilIface ∧ w.setCell ⟨b, 0, none⟩ (.int .i64 16) = w' := by
  go_enter Tryf.func12, Tryf.ntmps12
  go_wp2
  go_ret
  exact ⟨rfl, rfl⟩
theorem set7 (b : Nat) (x : Int) (w : World) (c : w.cell? ⟨b, 0, none⟩ = some (.int .i64 x)) (cf : w.frozen? ⟨b, 0, none⟩ = false) : Calls Tryf.prog 12 #[.pointer (some ⟨b, 0, none⟩), .string ⟨#[97, 117, 116, 111]⟩] w fun e w' => e = .returned .nilIface ∧ w.setCell ⟨b, 0, none⟩ (.int .i64 32) = w' := by
  go_enter Tryf.func12, Tryf.ntmps12
  go_wp2
  go_ret
  exact ⟨rfl, rfl⟩
set_option maxRecDepth 100000 in
theorem setN (b : Nat) (s : ByteArray) (w : World) (e0 : (s.toList == [98, 97, 115, 104]) = false) (e1 : (s.toList == [112, 111, 115, 105, 120]) = false) (e2 : (s.toList == [115, 104]) = false) (e3 : (s.toList == [100, 97, 115, 104]) = false) (e4 : (s.toList == [109, 107, 115, 104]) = false) (e5 : (s.toList == [98, 97, 116, 115]) = false) (e6 : (s.toList == [122, 115, 104]) = false) (e7 : (s.toList == [97, 117, 116, 111]) = false) : Calls Tryf.prog 12 #[.pointer (some ⟨b, 0, none⟩), .string s] w fun e w' => (∃ p, e = .returned (.iface 63 (.pointer p))) ∧ Below w.heap.size w w' := by
  go_enter Tryf.func12, Tryf.ntmps12
  go_wp2_with (go_at_call 18; fail)
  refine (errF w.heap.size s _ (by simp [go_sem])).mono ?_
  rintro e w1 ⟨⟨p, rfl⟩, hb⟩
  have B1 : Below w.heap.size w w1 := Below.trans (by go_grown) (hb.mono (by simp))
  clear hb
  go_wp2
  go_ret
  exact ⟨⟨_, rfl⟩, B1⟩
theorem early (s : ByteArray) (w : World) (hm : s.size ≤ 9223372036854775807) (h : 1048576 < (s.size : Int)) : Calls Tryf.prog 4 #[.string s] w fun e w' => e = .returned (.bool true) ∧ Below w.heap.size w w' := by
  go_enter Tryf.func4, Tryf.ntmps4
  go_wp2
  go_ret
  exact ⟨rfl, Below.refl _ _⟩
set_option maxRecDepth 100000 in
theorem m0 (w : World) : Calls Tryf.prog 4 #[.string ⟨#[98, 97, 115, 104]⟩] w fun e w' => e = .returned (.bool true) ∧ Below w.heap.size w w' := by
  go_enter Tryf.func4, Tryf.ntmps4
  go_wp2_with (first | (go_at_call 11; go_in) | (go_at_call 12; fail))
  refine (set0 w.heap.size 0 _ (by simp [go_sem]) (by simp [go_sem])).mono ?_
  rintro e w' ⟨rfl, rfl⟩
  go_wp2_with (first | (go_at_call 8; refine (variant1 _).mono ?_; rintro e w' ⟨rfl, rfl⟩) | (go_at_call 6; fail))
  refine (newV 1 (w.heap.size + 1 + 1) (w.heap.size + 1) _ (by simp [go_sem]) (by simp [go_sem])).mono ?_
  rintro e w1 ⟨rfl, k1, l1, hb⟩
  have c0 : w1.cell? ⟨w.heap.size, 0, none⟩ = some (.int .i64 1) := cell_later hb (by simp [go_sem])
  simp only [World.size_alloc, World.size_setCell] at k1 l1
  have B1 : Below w.heap.size w w1 := Below.trans (by go_grown) (hb.mono (by simp; omega))
  clear hb k1
  go_wp2_with (first | (go_at_call 13; go_in) | (go_at_call 10; refine (zLang _ 1 _ l1).mono ?_; rintro e w' ⟨rfl, rfl⟩))
  go_ret
  exact ⟨rfl, B1⟩
set_option maxRecDepth 100000 in
theorem m1 (w : World) : Calls Tryf.prog 4 #[.string ⟨#[112, 111, 115, 105, 120]⟩] w fun e w' => e = .returned (.bool true) ∧ Below w.heap.size w w' := by
  go_enter Tryf.func4, Tryf.ntmps4
  go_wp2_with (first | (go_at_call 11; go_in) | (go_at_call 12; fail))
  refine (set1 w.heap.size 0 _ (by simp [go_sem]) (by simp [go_sem])).mono ?_
  rintro e w' ⟨rfl, rfl⟩
  go_wp2_with (first | (go_at_call 8; refine (variant2 _).mono ?_; rintro e w' ⟨rfl, rfl⟩) | (go_at_call 6; fail))
  refine (newV 2 (w.heap.size + 1 + 1) (w.heap.size + 1) _ (by simp [go_sem]) (by simp [go_sem])).mono ?_
  rintro e w1 ⟨rfl, k1, l1, hb⟩
  have c0 : w1.cell? ⟨w.heap.size, 0, none⟩ = some (.int .i64 2) := cell_later hb (by simp [go_sem])
  simp only [World.size_alloc, World.size_setCell] at k1 l1
  have B1 : Below w.heap.size w w1 := Below.trans (by go_grown) (hb.mono (by simp; omega))
  clear hb k1
  go_wp2_with (first | (go_at_call 13; go_in) | (go_at_call 10; refine (zLang _ 2 _ l1).mono ?_; rintro e w' ⟨rfl, rfl⟩))
  go_ret
  exact ⟨rfl, B1⟩
set_option maxRecDepth 100000 in
theorem m2 (w : World) : Calls Tryf.prog 4 #[.string ⟨#[115, 104]⟩] w fun e w' => e = .returned (.bool true) ∧ Below w.heap.size w w' := by
  go_enter Tryf.func4, Tryf.ntmps4
  go_wp2_with (first | (go_at_call 11; go_in) | (go_at_call 12; fail))
  refine (set2 w.heap.size 0 _ (by simp [go_sem]) (by simp [go_sem])).mono ?_
  rintro e w' ⟨rfl, rfl⟩
  go_wp2_with (first | (go_at_call 8; refine (variant2 _).mono ?_; rintro e w' ⟨rfl, rfl⟩) | (go_at_call 6; fail))
  refine (newV 2 (w.heap.size + 1 + 1) (w.heap.size + 1) _ (by simp [go_sem]) (by simp [go_sem])).mono ?_
  rintro e w1 ⟨rfl, k1, l1, hb⟩
  have c0 : w1.cell? ⟨w.heap.size, 0, none⟩ = some (.int .i64 2) := cell_later hb (by simp [go_sem])
  simp only [World.size_alloc, World.size_setCell] at k1 l1
  have B1 : Below w.heap.size w w1 := Below.trans (by go_grown) (hb.mono (by simp; omega))
  clear hb k1
  go_wp2_with (first | (go_at_call 13; go_in) | (go_at_call 10; refine (zLang _ 2 _ l1).mono ?_; rintro e w' ⟨rfl, rfl⟩))
  go_ret
  exact ⟨rfl, B1⟩
set_option maxRecDepth 100000 in
theorem m3 (w : World) : Calls Tryf.prog 4 #[.string ⟨#[100, 97, 115, 104]⟩] w fun e w' => e = .returned (.bool true) ∧ Below w.heap.size w w' := by
  go_enter Tryf.func4, Tryf.ntmps4
  go_wp2_with (first | (go_at_call 11; go_in) | (go_at_call 12; fail))
  refine (set3 w.heap.size 0 _ (by simp [go_sem]) (by simp [go_sem])).mono ?_
  rintro e w' ⟨rfl, rfl⟩
  go_wp2_with (first | (go_at_call 8; refine (variant2 _).mono ?_; rintro e w' ⟨rfl, rfl⟩) | (go_at_call 6; fail))
  refine (newV 2 (w.heap.size + 1 + 1) (w.heap.size + 1) _ (by simp [go_sem]) (by simp [go_sem])).mono ?_
  rintro e w1 ⟨rfl, k1, l1, hb⟩
  have c0 : w1.cell? ⟨w.heap.size, 0, none⟩ = some (.int .i64 2) := cell_later hb (by simp [go_sem])
  simp only [World.size_alloc, World.size_setCell] at k1 l1
  have B1 : Below w.heap.size w w1 := Below.trans (by go_grown) (hb.mono (by simp; omega))
  clear hb k1
  go_wp2_with (first | (go_at_call 13; go_in) | (go_at_call 10; refine (zLang _ 2 _ l1).mono ?_; rintro e w' ⟨rfl, rfl⟩))
  go_ret
  exact ⟨rfl, B1⟩
set_option maxRecDepth 100000 in
theorem m4 (w : World) : Calls Tryf.prog 4 #[.string ⟨#[109, 107, 115, 104]⟩] w fun e w' => e = .returned (.bool true) ∧ Below w.heap.size w w' := by
  go_enter Tryf.func4, Tryf.ntmps4
  go_wp2_with (first | (go_at_call 11; go_in) | (go_at_call 12; fail))
  refine (set4 w.heap.size 0 _ (by simp [go_sem]) (by simp [go_sem])).mono ?_
  rintro e w' ⟨rfl, rfl⟩
  go_wp2_with (first | (go_at_call 8; refine (variant4 _).mono ?_; rintro e w' ⟨rfl, rfl⟩) | (go_at_call 6; fail))
  refine (newV 4 (w.heap.size + 1 + 1) (w.heap.size + 1) _ (by simp [go_sem]) (by simp [go_sem])).mono ?_
  rintro e w1 ⟨rfl, k1, l1, hb⟩
  have c0 : w1.cell? ⟨w.heap.size, 0, none⟩ = some (.int .i64 4) := cell_later hb (by simp [go_sem])
  simp only [World.size_alloc, World.size_setCell] at k1 l1
  have B1 : Below w.heap.size w w1 := Below.trans (by go_grown) (hb.mono (by simp; omega))
  clear hb k1
  go_wp2_with (first | (go_at_call 13; go_in) | (go_at_call 10; refine (zLang _ 4 _ l1).mono ?_; rintro e w' ⟨rfl, rfl⟩))
  go_ret
  exact ⟨rfl, B1⟩
set_option maxRecDepth 100000 in
theorem m5 (w : World) : Calls Tryf.prog 4 #[.string ⟨#[98, 97, 116, 115]⟩] w fun e w' => e = .returned (.bool true) ∧ Below w.heap.size w w' := by
  go_enter Tryf.func4, Tryf.ntmps4
  go_wp2_with (first | (go_at_call 11; go_in) | (go_at_call 12; fail))
  refine (set5 w.heap.size 0 _ (by simp [go_sem]) (by simp [go_sem])).mono ?_
  rintro e w' ⟨rfl, rfl⟩
  go_wp2_with (first | (go_at_call 8; refine (variant8 _).mono ?_; rintro e w' ⟨rfl, rfl⟩) | (go_at_call 6; fail))
  refine (newV 8 (w.heap.size + 1 + 1) (w.heap.size + 1) _ (by simp [go_sem]) (by simp [go_sem])).mono ?_
  rintro e w1 ⟨rfl, k1, l1, hb⟩
  have c0 : w1.cell? ⟨w.heap.size, 0, none⟩ = some (.int .i64 8) := cell_later hb (by simp [go_sem])
  simp only [World.size_alloc, World.size_setCell] at k1 l1
  have B1 : Below w.heap.size w w1 := Below.trans (by go_grown) (hb.mono (by simp; omega))
  clear hb k1
  go_wp2_with (first | (go_at_call 13; go_in) | (go_at_call 10; refine (zLang _ 8 _ l1).mono ?_; rintro e w' ⟨rfl, rfl⟩))
  go_ret
  exact ⟨rfl, B1⟩
set_option maxRecDepth 100000 in
theorem m6 (w : World) : Calls Tryf.prog 4 #[.string ⟨#[122, 115, 104]⟩] w fun e w' => e = .returned (.bool true) ∧ Below w.heap.size w w' := by
  go_enter Tryf.func4, Tryf.ntmps4
  go_wp2_with (first | (go_at_call 11; go_in) | (go_at_call 12; fail))
  refine (set6 w.heap.size 0 _ (by simp [go_sem]) (by simp [go_sem])).mono ?_
  rintro e w' ⟨rfl, rfl⟩
  go_wp2_with (first | (go_at_call 8; refine (variant16 _).mono ?_; rintro e w' ⟨rfl, rfl⟩) | (go_at_call 6; fail))
  refine (newV 16 (w.heap.size + 1 + 1) (w.heap.size + 1) _ (by simp [go_sem]) (by simp [go_sem])).mono ?_
  rintro e w1 ⟨rfl, k1, l1, hb⟩
  have c0 : w1.cell? ⟨w.heap.size, 0, none⟩ = some (.int .i64 16) := cell_later hb (by simp [go_sem])
  simp only [World.size_alloc, World.size_setCell] at k1 l1
  have B1 : Below w.heap.size w w1 := Below.trans (by go_grown) (hb.mono (by simp; omega))
  clear hb k1
  go_wp2_with (first | (go_at_call 13; go_in) | (go_at_call 10; refine (zLang _ 16 _ l1).mono ?_; rintro e w' ⟨rfl, rfl⟩))
  go_ret
  exact ⟨rfl, B1⟩
theorem m7 (w : World) : Calls Tryf.prog 4 #[.string ⟨#[97, 117, 116, 111]⟩] w fun e w' => e = .returned (.bool true) ∧ Below w.heap.size w w' := by
  go_enter Tryf.func4, Tryf.ntmps4
  go_wp2_with (first | (go_at_call 11; go_in) | (go_at_call 12; fail))
  refine (set7 w.heap.size 0 _ (by simp [go_sem]) (by simp [go_sem])).mono ?_
  rintro e w' ⟨rfl, rfl⟩
  go_wp2
  go_ret
  exact ⟨rfl, by go_grown⟩
theorem mN (s : ByteArray) (w : World) (h : ¬ 1048576 < (s.size : Int)) (e0 : (s.toList == [98, 97, 115, 104]) = false) (e1 : (s.toList == [112, 111, 115, 105, 120]) = false) (e2 : (s.toList == [115, 104]) = false) (e3 : (s.toList == [100, 97, 115, 104]) = false) (e4 : (s.toList == [109, 107, 115, 104]) = false) (e5 : (s.toList == [98, 97, 116, 115]) = false) (e6 : (s.toList == [122, 115, 104]) = false) (e7 : (s.toList == [97, 117, 116, 111]) = false) : Calls Tryf.prog 4 #[.string s] w fun e w' => e = .returned (.bool true) ∧ Below w.heap.size w w' := by
  have HS := setN w.heap.size s (w.alloc (.cells #[.int .i64 0] 23)) e0 e1 e2 e3 e4 e5 e6 e7
  clear e0 e1 e2 e3 e4 e5 e6 e7
  go_enter Tryf.func4, Tryf.ntmps4
  go_wp2_with (first | (go_at_call 11; go_in) | (go_at_call 12; fail))
  refine HS.mono ?_
  rintro e w1 ⟨⟨p, rfl⟩, hb⟩
  have B1 : Below w.heap.size w w1 := Below.trans (by go_grown) (hb.mono (by simp))
  clear hb HS
  go_wp2
  go_ret
  exact ⟨rfl, B1⟩
theorem law30 (s : ByteArray) (w : World) (hm : s.size ≤ maxLen) : Calls Tryf.prog 4 #[.string s] w fun e w' => e = .returned (.bool true) ∧ Below w.heap.size w w' := by
  by_cases h : 1048576 < (s.size : Int)
  · exact early s w (by unfold maxLen at hm; omega) h
  by_cases h0 : s.toList = [98, 97, 115, 104]
  · obtain rfl := of_list s _ h0
    exact m0 w
  by_cases h1 : s.toList = [112, 111, 115, 105, 120]
  · obtain rfl := of_list s _ h1
    exact m1 w
  by_cases h2 : s.toList = [115, 104]
  · obtain rfl := of_list s _ h2
    exact m2 w
  by_cases h3 : s.toList = [100, 97, 115, 104]
  · obtain rfl := of_list s _ h3
    exact m3 w
  by_cases h4 : s.toList = [109, 107, 115, 104]
  · obtain rfl := of_list s _ h4
    exact m4 w
  by_cases h5 : s.toList = [98, 97, 116, 115]
  · obtain rfl := of_list s _ h5
    exact m5 w
  by_cases h6 : s.toList = [122, 115, 104]
  · obtain rfl := of_list s _ h6
    exact m6 w
  by_cases h7 : s.toList = [97, 117, 116, 111]
  · obtain rfl := of_list s _ h7
    exact m7 w
  exact mN s w h (by simp [h0]) (by simp [h1]) (by simp [h2]) (by simp [h3]) (by simp [h4]) (by simp [h5]) (by simp [h6]) (by simp [h7])
end Go.Proofs.YtlaihlpokpeahaaFmt.setv
