/-
  Parsers built with KeepComments and Variant options, in any order: what they keep and which language they have.
-/
import Derived.Test.YtlaihlpokpeahaaFmtBaseF
import Derived.Laws.EntriesVeiled
namespace Go.Proofs.YtlaihlpokpeahaaFmt.keep
open Go.RowKit
open Go.Proofs.YtlaihlpokpeahaaFmt

theorem keepC (b : Bool) (w : World) : Calls Tryf.prog 7 #[.bool b] w fun e w' => e = .returned (.func (.func 14) #[] #[.pointer (some ⟨w.heap.size, 0, none⟩)]) ∧ w.alloc (.cells #[.bool b] 4) = w' := by
  go_enter Tryf.func7, Tryf.ntmps7
  go_wp2
  go_ret
  exact ⟨rfl, rfl⟩
theorem variant0 (w : World) : Calls Tryf.prog 8 #[.int .i64 0] w fun e w' => e = .returned (.func (.func 16) #[] #[.pointer (some ⟨w.heap.size, 0, none⟩)]) ∧ w.alloc (.cells #[.int .i64 1] 23) = w' := by
  go_enter Tryf.func8, Tryf.ntmps8
  go_wp2
  go_ret
  exact ⟨rfl, rfl⟩
theorem variant1 (w : World) : Calls Tryf.prog 8 #[.int .i64 1] w fun e w' => e = .returned (.func (.func 16) #[] #[.pointer (some ⟨w.heap.size, 0, none⟩)]) ∧ w.alloc (.cells #[.int .i64 1] 23) = w' := by
  go_enter Tryf.func8, Tryf.ntmps8
  go_wp2
  go_ret
  exact ⟨rfl, rfl⟩
theorem variant2 (w : World) : Calls Tryf.prog 8 #[.int .i64 2] w fun e w' => e = .returned (.func (.func 16) #[] #[.pointer (some ⟨w.heap.size, 0, none⟩)]) ∧ w.alloc (.cells #[.int .i64 2] 23) = w' := by
  go_enter Tryf.func8, Tryf.ntmps8
  go_wp2
  go_ret
  exact ⟨rfl, rfl⟩
theorem variant4 (w : World) : Calls Tryf.prog 8 #[.int .i64 4] w fun e w' => e = .returned (.func (.func 16) #[] #[.pointer (some ⟨w.heap.size, 0, none⟩)]) ∧ w.alloc (.cells #[.int .i64 4] 23) = w' := by
  go_enter Tryf.func8, Tryf.ntmps8
  go_wp2
  go_ret
  exact ⟨rfl, rfl⟩
theorem variant8 (w : World) : Calls Tryf.prog 8 #[.int .i64 8] w fun e w' => e = .returned (.func (.func 16) #[] #[.pointer (some ⟨w.heap.size, 0, none⟩)]) ∧ w.alloc (.cells #[.int .i64 8] 23) = w' := by
  go_enter Tryf.func8, Tryf.ntmps8
  go_wp2
  go_ret
  exact ⟨rfl, rfl⟩
theorem variant16 (w : World) : Calls Tryf.prog 8 #[.int .i64 16] w fun e w' => e = .returned (.func (.func 16) #[] #[.pointer (some ⟨w.heap.size, 0, none⟩)]) ∧ w.alloc (.cells #[.int .i64 16] 23) = w' := by
  go_enter Tryf.func8, Tryf.ntmps8
  go_wp2
  go_ret
  exact ⟨rfl, rfl⟩
/-- The values that Variant accepts, and the language that a parser then has. -/
def accB (l : Int) : Bool := decide (l = 0 ∨ l = 1 ∨ l = 2 ∨ l = 4 ∨ l = 8 ∨ l = 16)
def lvI (l : Int) : Int := if l = 0 then 1 else l
theorem variant (l lv : Int) (w : World) (h : accB l = true) (hv : lvI l = lv) : Calls Tryf.prog 8 #[.int .i64 l] w fun e w' => e = .returned (.func (.func 16) #[] #[.pointer (some ⟨w.heap.size, 0, none⟩)]) ∧ w.alloc (.cells #[.int .i64 lv] 23) = w' := by
  have h' : l = 0 ∨ l = 1 ∨ l = 2 ∨ l = 4 ∨ l = 8 ∨ l = 16 := by simpa [accB] using h
  subst hv
  rcases h' with rfl | rfl | rfl | rfl | rfl | rfl
  · exact variant0 w
  · exact variant1 w
  · exact variant2 w
  · exact variant4 w
  · exact variant8 w
  · exact variant16 w
theorem acc (l : Int) (w : World) : Calls Tryf.prog 5 #[.int .i64 l] w fun e w' => e = .returned (.bool (accB l)) ∧ w = w' := by
  by_cases h0 : 0 ≤ l
  · by_cases h1 : l < 32
    · have : l = 0 ∨ l = 1 ∨ l = 2 ∨ l = 3 ∨ l = 4 ∨ l = 5 ∨ l = 6 ∨ l = 7 ∨ l = 8 ∨ l = 9 ∨ l = 10 ∨ l = 11 ∨ l = 12 ∨ l = 13 ∨ l = 14 ∨ l = 15 ∨ l = 16 ∨ l = 17 ∨ l = 18 ∨ l = 19 ∨ l = 20 ∨ l = 21 ∨ l = 22 ∨ l = 23 ∨ l = 24 ∨ l = 25 ∨ l = 26 ∨ l = 27 ∨ l = 28 ∨ l = 29 ∨ l = 30 ∨ l = 31 := by omega
      clear h0 h1
      rcases this with rfl | rfl | rfl | rfl | rfl | rfl | rfl | rfl | rfl | rfl | rfl | rfl | rfl | rfl | rfl | rfl | rfl | rfl | rfl | rfl | rfl | rfl | rfl | rfl | rfl | rfl | rfl | rfl | rfl | rfl | rfl | rfl
      all_goals
        go_enter Tryf.func5, Tryf.ntmps5
        go_wp2
        go_ret
        exact ⟨rfl, rfl⟩
    · have e : accB l = false := by simp [accB]; omega
      rw [e]
      go_enter Tryf.func5, Tryf.ntmps5
      go_wp2
      go_ret
      exact ⟨rfl, rfl⟩
  · have e : accB l = false := by simp [accB]; omega
    rw [e]
    go_enter Tryf.func5, Tryf.ntmps5
    go_wp2
    go_ret
    exact ⟨rfl, rfl⟩
theorem cloK (b x : Bool) (p q : Nat) (w : World) (c : w.cell? ⟨q, 0, none⟩ = some (.bool b)) (cp : w.cell? ⟨p, 19, none⟩ = some (.bool x)) (cf : w.frozen? ⟨p, 19, none⟩ = false) : Calls Tryf.prog 14 #[.pointer (some ⟨p, 0, none⟩), .pointer (some ⟨q, 0, none⟩)] w fun e w' => e = .returned (.tuple #[]) ∧ w.setCell ⟨p, 19, none⟩ (.bool b) = w' := by
  go_enter Tryf.func14, Tryf.ntmps14
  go_wp2
  go_end0
  exact ⟨rfl, rfl⟩
theorem cloV (l x : Int) (p q : Nat) (w : World) (c : w.cell? ⟨q, 0, none⟩ = some (.int .i64 l)) (cp : w.cell? ⟨p, 20, none⟩ = some (.int .i64 x)) (cf : w.frozen? ⟨p, 20, none⟩ = false) : Calls Tryf.prog 16 #[.pointer (some ⟨p, 0, none⟩), .pointer (some ⟨q, 0, none⟩)] w fun e w' => e = .returned (.tuple #[]) ∧ w.setCell ⟨p, 20, none⟩ (.int .i64 l) = w' := by
  go_enter Tryf.func16, Tryf.ntmps16
  go_wp2
  go_end0
  exact ⟨rfl, rfl⟩
/-- The parser behind some of its options. -/
structure Ps (p : Nat) (k : Bool) (l : Int) (w w' : World) : Prop where
  c19 : w'.cell? ⟨p, 19, none⟩ = some (.bool k)
  c20 : w'.cell? ⟨p, 20, none⟩ = some (.int .i64 l)
  f19 : w'.frozen? ⟨p, 19, none⟩ = false
  f20 : w'.frozen? ⟨p, 20, none⟩ = false
  oth : ∀ b o v, b < p → w.cell? ⟨b, o, none⟩ = some v → w'.cell? ⟨b, o, none⟩ = some v
  bel : Below p w w'
theorem Ps.setK {p : Nat} {k : Bool} {l : Int} {w w' : World} (h : Ps p k l w w') (b : Bool) : Ps p b l w (w'.setCell ⟨p, 19, none⟩ (.bool b)) := by
  have c19 := h.c19
  have c20 := h.c20
  have f19 := h.f19
  have f20 := h.f20
  refine ⟨by simp [go_sem, *], by simp [go_sem, *], by simp [go_sem, *], by simp [go_sem, *], fun b' o v hb hv => ?_, ?_⟩
  · have hn : ¬ p = b' := by omega
    have := h.oth b' o v hb hv
    simp [go_sem, hn, this]
  · refine Below.setCell h.bel ?_ _
    exact Nat.le_refl p
theorem Ps.setV {p : Nat} {k : Bool} {l : Int} {w w' : World} (h : Ps p k l w w') (b : Int) : Ps p k b w (w'.setCell ⟨p, 20, none⟩ (.int .i64 b)) := by
  have c19 := h.c19
  have c20 := h.c20
  have f19 := h.f19
  have f20 := h.f20
  refine ⟨by simp [go_sem, *], by simp [go_sem, *], by simp [go_sem, *], by simp [go_sem, *], fun b' o v hb hv => ?_, ?_⟩
  · have hn : ¬ p = b' := by omega
    have := h.oth b' o v hb hv
    simp [go_sem, hn, this]
  · refine Below.setCell h.bel ?_ _
    exact Nat.le_refl p
theorem ps0 (w : World) : Ps w.heap.size false 1 w (w.alloc (.cells (bigS Tryf.prog 56 [(19, .int .i64 1)]) 56)) := by
  refine ⟨by rw [cell_new]; kernel_rfl, by rw [cell_new]; kernel_rfl, frozen_new w (bigS Tryf.prog 56 [(19, .int .i64 1)]) 56 19, frozen_new w (bigS Tryf.prog 56 [(19, .int .i64 1)]) 56 20, fun b o v _ hv => ?_, by go_grown⟩
  exact cell_later (by go_grown) hv
theorem zKeep (p : Nat) (b : Bool) (w : World) (c : w.cell? ⟨p, 19, none⟩ = some (.bool b)) : Calls Tryf.prog 9 #[.pointer (some ⟨p, 0, none⟩)] w fun e w' => e = .returned (.bool b) ∧ w = w' := by
  go_enter Tryf.func9, Tryf.ntmps9
  go_wp2
  go_ret
  exact ⟨rfl, rfl⟩
theorem zLang (p : Nat) (l : Int) (w : World) (c : w.cell? ⟨p, 20, none⟩ = some (.int .i64 l)) : Calls Tryf.prog 10 #[.pointer (some ⟨p, 0, none⟩)] w fun e w' => e = .returned (.int .i64 l) ∧ w = w' := by
  go_enter Tryf.func10, Tryf.ntmps10
  go_wp2
  go_ret
  exact ⟨rfl, rfl⟩
set_option maxRecDepth 100000 in
theorem newKVK (v0 : Bool) (v1 : Int) (v2 : Bool) (sb q0 q1 q2 : Nat) (w : World) (d0 : w.cell? ⟨sb, 0, none⟩ = some (.func (.func 14) #[] #[.pointer (some ⟨q0, 0, none⟩)])) (e0 : w.cell? ⟨q0, 0, none⟩ = some (.bool v0)) (d1 : w.cell? ⟨sb, 1, none⟩ = some (.func (.func 16) #[] #[.pointer (some ⟨q1, 0, none⟩)])) (e1 : w.cell? ⟨q1, 0, none⟩ = some (.int .i64 v1)) (d2 : w.cell? ⟨sb, 2, none⟩ = some (.func (.func 14) #[] #[.pointer (some ⟨q2, 0, none⟩)])) (e2 : w.cell? ⟨q2, 0, none⟩ = some (.bool v2)) :
    Calls Tryf.prog 6 #[.slice (some ⟨sb, 0, none⟩) 3 3] w fun e w' => e = .returned (.pointer (some ⟨w.heap.size, 0, none⟩)) ∧ w'.cell? ⟨w.heap.size, 19, none⟩ = some (.bool v2) ∧ w'.cell? ⟨w.heap.size, 20, none⟩ = some (.int .i64 v1) ∧ Below w.heap.size w w' := by
  have h0 := ps0 w
  have l0 := lt_of_cell d0
  have m0 := lt_of_cell e0
  have l1 := lt_of_cell d1
  have m1 := lt_of_cell e1
  have l2 := lt_of_cell d2
  have m2 := lt_of_cell e2
  have D0 := Lib.hid d0
  have E0 := Lib.hid e0
  have D1 := Lib.hid d1
  have E1 := Lib.hid e1
  have D2 := Lib.hid d2
  have E2 := Lib.hid e2
  have x0 := h0.oth _ _ _ l0 d0
  have x1 := h0.oth _ _ _ l1 d1
  have x2 := h0.oth _ _ _ l2 d2
  go_enter Tryf.func6, Tryf.ntmps6
  go_wp2_with (first | (refine wpList_value (o := ⟨some 6, _, _, _, _, _⟩) rfl (.agg (bigS Tryf.prog 56 [(19, .int .i64 1)])) w (by kernel_rfl) ?_) | (refine wpList_value (o := ⟨some 7, _, _, _, _, _⟩) rfl (.pointer (some ⟨w.heap.size, 0, none⟩)) (w.alloc (.cells (bigS Tryf.prog 56 [(19, .int .i64 1)]) 56)) (by kernel_rfl) ?_))
  generalize w.alloc (.cells (bigS Tryf.prog 56 [(19, .int .i64 1)]) 56) = W at *
  refine wp_loop_rounds 4 ?_
  rw [rounds_succ]
  go_wp2_with fail
  refine (cloK v0 false w.heap.size q0 _ (h0.oth _ _ _ m0 E0.out) h0.c19 h0.f19).mono ?_
  rintro e w1 ⟨rfl, rfl⟩
  have h1 := h0.setK v0
  clear h0
  clear x0
  clear x1
  clear x2
  have x0 := h1.oth _ _ _ l0 D0.out
  have x1 := h1.oth _ _ _ l1 D1.out
  have x2 := h1.oth _ _ _ l2 D2.out
  go_wp2_with fail
  rw [rounds_succ]
  go_wp2_with fail
  refine (cloV v1 1 w.heap.size q1 _ (h1.oth _ _ _ m1 E1.out) h1.c20 h1.f20).mono ?_
  rintro e w2 ⟨rfl, rfl⟩
  have h2 := h1.setV v1
  clear h1
  clear x0
  clear x1
  clear x2
  have x0 := h2.oth _ _ _ l0 D0.out
  have x1 := h2.oth _ _ _ l1 D1.out
  have x2 := h2.oth _ _ _ l2 D2.out
  go_wp2_with fail
  rw [rounds_succ]
  go_wp2_with fail
  refine (cloK v2 v0 w.heap.size q2 _ (h2.oth _ _ _ m2 E2.out) h2.c19 h2.f19).mono ?_
  rintro e w3 ⟨rfl, rfl⟩
  have h3 := h2.setK v2
  clear h2
  clear x0
  clear x1
  clear x2
  have x0 := h3.oth _ _ _ l0 D0.out
  have x1 := h3.oth _ _ _ l1 D1.out
  have x2 := h3.oth _ _ _ l2 D2.out
  go_wp2_with fail
  rw [rounds_succ]
  go_wp2
  go_ret
  exact ⟨rfl, h3.c19, h3.c20, h3.bel⟩
set_option maxRecDepth 100000 in
theorem newVK (v0 : Int) (v1 : Bool) (sb q0 q1 : Nat) (w : World) (d0 : w.cell? ⟨sb, 0, none⟩ = some (.func (.func 16) #[] #[.pointer (some ⟨q0, 0, none⟩)])) (e0 : w.cell? ⟨q0, 0, none⟩ = some (.int .i64 v0)) (d1 : w.cell? ⟨sb, 1, none⟩ = some (.func (.func 14) #[] #[.pointer (some ⟨q1, 0, none⟩)])) (e1 : w.cell? ⟨q1, 0, none⟩ = some (.bool v1)) :
    Calls Tryf.prog 6 #[.slice (some ⟨sb, 0, none⟩) 2 2] w fun e w' => e = .returned (.pointer (some ⟨w.heap.size, 0, none⟩)) ∧ w'.cell? ⟨w.heap.size, 19, none⟩ = some (.bool v1) ∧ w'.cell? ⟨w.heap.size, 20, none⟩ = some (.int .i64 v0) ∧ Below w.heap.size w w' := by
  have h0 := ps0 w
  have l0 := lt_of_cell d0
  have m0 := lt_of_cell e0
  have l1 := lt_of_cell d1
  have m1 := lt_of_cell e1
  have D0 := Lib.hid d0
  have E0 := Lib.hid e0
  have D1 := Lib.hid d1
  have E1 := Lib.hid e1
  have x0 := h0.oth _ _ _ l0 d0
  have x1 := h0.oth _ _ _ l1 d1
  go_enter Tryf.func6, Tryf.ntmps6
  go_wp2_with (first | (refine wpList_value (o := ⟨some 6, _, _, _, _, _⟩) rfl (.agg (bigS Tryf.prog 56 [(19, .int .i64 1)])) w (by kernel_rfl) ?_) | (refine wpList_value (o := ⟨some 7, _, _, _, _, _⟩) rfl (.pointer (some ⟨w.heap.size, 0, none⟩)) (w.alloc (.cells (bigS Tryf.prog 56 [(19, .int .i64 1)]) 56)) (by kernel_rfl) ?_))
  generalize w.alloc (.cells (bigS Tryf.prog 56 [(19, .int .i64 1)]) 56) = W at *
  refine wp_loop_rounds 3 ?_
  rw [rounds_succ]
  go_wp2_with fail
  refine (cloV v0 1 w.heap.size q0 _ (h0.oth _ _ _ m0 E0.out) h0.c20 h0.f20).mono ?_
  rintro e w1 ⟨rfl, rfl⟩
  have h1 := h0.setV v0
  clear h0
  clear x0
  clear x1
  have x0 := h1.oth _ _ _ l0 D0.out
  have x1 := h1.oth _ _ _ l1 D1.out
  go_wp2_with fail
  rw [rounds_succ]
  go_wp2_with fail
  refine (cloK v1 false w.heap.size q1 _ (h1.oth _ _ _ m1 E1.out) h1.c19 h1.f19).mono ?_
  rintro e w2 ⟨rfl, rfl⟩
  have h2 := h1.setK v1
  clear h1
  clear x0
  clear x1
  have x0 := h2.oth _ _ _ l0 D0.out
  have x1 := h2.oth _ _ _ l1 D1.out
  go_wp2_with fail
  rw [rounds_succ]
  go_wp2
  go_ret
  exact ⟨rfl, h2.c19, h2.c20, h2.bel⟩
set_option maxRecDepth 100000 in
theorem newKV (v0 : Bool) (v1 : Int) (sb q0 q1 : Nat) (w : World) (d0 : w.cell? ⟨sb, 0, none⟩ = some (.func (.func 14) #[] #[.pointer (some ⟨q0, 0, none⟩)])) (e0 : w.cell? ⟨q0, 0, none⟩ = some (.bool v0)) (d1 : w.cell? ⟨sb, 1, none⟩ = some (.func (.func 16) #[] #[.pointer (some ⟨q1, 0, none⟩)])) (e1 : w.cell? ⟨q1, 0, none⟩ = some (.int .i64 v1)) :
    Calls Tryf.prog 6 #[.slice (some ⟨sb, 0, none⟩) 2 2] w fun e w' => e = .returned (.pointer (some ⟨w.heap.size, 0, none⟩)) ∧ w'.cell? ⟨w.heap.size, 19, none⟩ = some (.bool v0) ∧ w'.cell? ⟨w.heap.size, 20, none⟩ = some (.int .i64 v1) ∧ Below w.heap.size w w' := by
  have h0 := ps0 w
  have l0 := lt_of_cell d0
  have m0 := lt_of_cell e0
  have l1 := lt_of_cell d1
  have m1 := lt_of_cell e1
  have D0 := Lib.hid d0
  have E0 := Lib.hid e0
  have D1 := Lib.hid d1
  have E1 := Lib.hid e1
  have x0 := h0.oth _ _ _ l0 d0
  have x1 := h0.oth _ _ _ l1 d1
  go_enter Tryf.func6, Tryf.ntmps6
  go_wp2_with (first | (refine wpList_value (o := ⟨some 6, _, _, _, _, _⟩) rfl (.agg (bigS Tryf.prog 56 [(19, .int .i64 1)])) w (by kernel_rfl) ?_) | (refine wpList_value (o := ⟨some 7, _, _, _, _, _⟩) rfl (.pointer (some ⟨w.heap.size, 0, none⟩)) (w.alloc (.cells (bigS Tryf.prog 56 [(19, .int .i64 1)]) 56)) (by kernel_rfl) ?_))
  generalize w.alloc (.cells (bigS Tryf.prog 56 [(19, .int .i64 1)]) 56) = W at *
  refine wp_loop_rounds 3 ?_
  rw [rounds_succ]
  go_wp2_with fail
  refine (cloK v0 false w.heap.size q0 _ (h0.oth _ _ _ m0 E0.out) h0.c19 h0.f19).mono ?_
  rintro e w1 ⟨rfl, rfl⟩
  have h1 := h0.setK v0
  clear h0
  clear x0
  clear x1
  have x0 := h1.oth _ _ _ l0 D0.out
  have x1 := h1.oth _ _ _ l1 D1.out
  go_wp2_with fail
  rw [rounds_succ]
  go_wp2_with fail
  refine (cloV v1 1 w.heap.size q1 _ (h1.oth _ _ _ m1 E1.out) h1.c20 h1.f20).mono ?_
  rintro e w2 ⟨rfl, rfl⟩
  have h2 := h1.setV v1
  clear h1
  clear x0
  clear x1
  have x0 := h2.oth _ _ _ l0 D0.out
  have x1 := h2.oth _ _ _ l1 D1.out
  go_wp2_with fail
  rw [rounds_succ]
  go_wp2
  go_ret
  exact ⟨rfl, h2.c19, h2.c20, h2.bel⟩
set_option maxRecDepth 100000 in
theorem newV (v0 : Int) (sb q0 : Nat) (w : World) (d0 : w.cell? ⟨sb, 0, none⟩ = some (.func (.func 16) #[] #[.pointer (some ⟨q0, 0, none⟩)])) (e0 : w.cell? ⟨q0, 0, none⟩ = some (.int .i64 v0)) :
    Calls Tryf.prog 6 #[.slice (some ⟨sb, 0, none⟩) 1 1] w fun e w' => e = .returned (.pointer (some ⟨w.heap.size, 0, none⟩)) ∧ w'.cell? ⟨w.heap.size, 19, none⟩ = some (.bool false) ∧ w'.cell? ⟨w.heap.size, 20, none⟩ = some (.int .i64 v0) ∧ Below w.heap.size w w' := by
  have h0 := ps0 w
  have l0 := lt_of_cell d0
  have m0 := lt_of_cell e0
  have D0 := Lib.hid d0
  have E0 := Lib.hid e0
  have x0 := h0.oth _ _ _ l0 d0
  go_enter Tryf.func6, Tryf.ntmps6
  go_wp2_with (first | (refine wpList_value (o := ⟨some 6, _, _, _, _, _⟩) rfl (.agg (bigS Tryf.prog 56 [(19, .int .i64 1)])) w (by kernel_rfl) ?_) | (refine wpList_value (o := ⟨some 7, _, _, _, _, _⟩) rfl (.pointer (some ⟨w.heap.size, 0, none⟩)) (w.alloc (.cells (bigS Tryf.prog 56 [(19, .int .i64 1)]) 56)) (by kernel_rfl) ?_))
  generalize w.alloc (.cells (bigS Tryf.prog 56 [(19, .int .i64 1)]) 56) = W at *
  refine wp_loop_rounds 2 ?_
  rw [rounds_succ]
  go_wp2_with fail
  refine (cloV v0 1 w.heap.size q0 _ (h0.oth _ _ _ m0 E0.out) h0.c20 h0.f20).mono ?_
  rintro e w1 ⟨rfl, rfl⟩
  have h1 := h0.setV v0
  clear h0
  clear x0
  have x0 := h1.oth _ _ _ l0 D0.out
  go_wp2_with fail
  rw [rounds_succ]
  go_wp2
  go_ret
  exact ⟨rfl, h1.c19, h1.c20, h1.bel⟩
set_option maxRecDepth 100000 in
set_option maxHeartbeats 2000000 in
theorem main0 (a b : Bool) (w : World)  : Calls Tryf.prog 3 #[.bool a, .bool b, .int .i64 0] w fun e w' => e = .returned (.bool true) ∧ Below w.heap.size w w' := by
  have HA := fun w' => acc 0 w'
  rw [show accB 0 = true from rfl] at HA
  have HV := fun w' => variant 0 1 w' rfl rfl
  go_enter Tryf.func3, Tryf.ntmps3
  go_wp2_with (first | (go_at_call 5; refine (HA _).mono ?_; rintro e w' ⟨rfl, rfl⟩) | (go_at_call 7; refine (keepC _ _).mono ?_; rintro e w' ⟨rfl, rfl⟩) | (go_at_call 8; refine (HV _).mono ?_; rintro e w' ⟨rfl, rfl⟩) | (go_at_call 6; fail))
  refine (newKVK a 1 b (w.heap.size + 1 + 1 + 1) w.heap.size (w.heap.size + 1) (w.heap.size + 1 + 1) _ (by simp [go_sem]) (by simp [go_sem]) (by simp [go_sem]) (by simp [go_sem]) (by simp [go_sem]) (by simp [go_sem])).mono ?_
  rintro e w1 ⟨rfl, k1, l1, hb⟩
  simp only [World.size_alloc] at k1 l1
  have B1 : Below w.heap.size w w1 := Below.trans (by go_grown) (hb.mono (by simp; omega))
  clear hb
  go_wp2_with (first | (go_at_call 5; refine (HA _).mono ?_; rintro e w' ⟨rfl, rfl⟩) | (go_at_call 7; refine (keepC _ _).mono ?_; rintro e w' ⟨rfl, rfl⟩) | (go_at_call 8; refine (HV _).mono ?_; rintro e w' ⟨rfl, rfl⟩) | (go_at_call 6; fail))
  refine (newVK 1 b (w1.heap.size + 1 + 1) w1.heap.size (w1.heap.size + 1) _ (by simp [go_sem]) (by simp [go_sem]) (by simp [go_sem]) (by simp [go_sem])).mono ?_
  rintro e w2 ⟨rfl, k2, l2, hb⟩
  simp only [World.size_alloc] at k2 l2
  have hb' : Below w1.heap.size w1 w2 := Below.trans (by go_grown) (hb.mono (by simp; omega))
  have B2 : Below w.heap.size w w2 := below_next B1 hb'
  have k1' := cell_later hb' k1
  have l1' := cell_later hb' l1
  clear hb hb' B1 k1 l1
  go_wp2_with (first | (go_at_call 5; refine (HA _).mono ?_; rintro e w' ⟨rfl, rfl⟩) | (go_at_call 7; refine (keepC _ _).mono ?_; rintro e w' ⟨rfl, rfl⟩) | (go_at_call 8; refine (HV _).mono ?_; rintro e w' ⟨rfl, rfl⟩) | (go_at_call 6; fail))
  refine (newKV b 1 (w2.heap.size + 1 + 1) w2.heap.size (w2.heap.size + 1) _ (by simp [go_sem]) (by simp [go_sem]) (by simp [go_sem]) (by simp [go_sem])).mono ?_
  rintro e w3 ⟨rfl, k3, l3, hb⟩
  simp only [World.size_alloc] at k3 l3
  have hb' : Below w2.heap.size w2 w3 := Below.trans (by go_grown) (hb.mono (by simp; omega))
  have B3 : Below w.heap.size w w3 := below_next B2 hb'
  have k1 := cell_later hb' k1'
  have l1 := cell_later hb' l1'
  have k2' := cell_later hb' k2
  have l2' := cell_later hb' l2
  clear hb hb' B2 k1' l1' k2 l2
  have e1 : (b != b) = false := by cases b <;> rfl
  go_wp2_with (first | (go_at_call 9; (first | (refine (zKeep _ b _ k1).mono ?_) | (refine (zKeep _ b _ k2').mono ?_) | (refine (zKeep _ b _ k3).mono ?_)); rintro e w' ⟨rfl, rfl⟩) | (go_at_call 10; (first | (refine (zLang _ 1 _ l1).mono ?_) | (refine (zLang _ 1 _ l2').mono ?_) | (refine (zLang _ 1 _ l3).mono ?_)); rintro e w' ⟨rfl, rfl⟩))
  go_ret
  exact ⟨rfl, B3⟩
set_option maxRecDepth 100000 in
set_option maxHeartbeats 2000000 in
theorem mainL (a b : Bool) (l : Int) (w : World) (hl : accB l = true) (hl0 : ¬ l = 0) : Calls Tryf.prog 3 #[.bool a, .bool b, .int .i64 l] w fun e w' => e = .returned (.bool true) ∧ Below w.heap.size w w' := by
  have h0 : (l == 0) = false := by simp [hl0]
  have HA := fun w' => acc l w'
  rw [hl] at HA
  have hlv : lvI l = l := by unfold lvI; rw [if_neg hl0]
  have HV := fun w' => variant l l w' hl hlv
  clear hl hl0 hlv
  go_enter Tryf.func3, Tryf.ntmps3
  go_wp2_with (first | (go_at_call 5; refine (HA _).mono ?_; rintro e w' ⟨rfl, rfl⟩) | (go_at_call 7; refine (keepC _ _).mono ?_; rintro e w' ⟨rfl, rfl⟩) | (go_at_call 8; refine (HV _).mono ?_; rintro e w' ⟨rfl, rfl⟩) | (go_at_call 6; fail))
  refine (newKVK a l b (w.heap.size + 1 + 1 + 1) w.heap.size (w.heap.size + 1) (w.heap.size + 1 + 1) _ (by simp [go_sem]) (by simp [go_sem]) (by simp [go_sem]) (by simp [go_sem]) (by simp [go_sem]) (by simp [go_sem])).mono ?_
  rintro e w1 ⟨rfl, k1, l1, hb⟩
  simp only [World.size_alloc] at k1 l1
  have B1 : Below w.heap.size w w1 := Below.trans (by go_grown) (hb.mono (by simp; omega))
  clear hb
  go_wp2_with (first | (go_at_call 5; refine (HA _).mono ?_; rintro e w' ⟨rfl, rfl⟩) | (go_at_call 7; refine (keepC _ _).mono ?_; rintro e w' ⟨rfl, rfl⟩) | (go_at_call 8; refine (HV _).mono ?_; rintro e w' ⟨rfl, rfl⟩) | (go_at_call 6; fail))
  refine (newVK l b (w1.heap.size + 1 + 1) w1.heap.size (w1.heap.size + 1) _ (by simp [go_sem]) (by simp [go_sem]) (by simp [go_sem]) (by simp [go_sem])).mono ?_
  rintro e w2 ⟨rfl, k2, l2, hb⟩
  simp only [World.size_alloc] at k2 l2
  have hb' : Below w1.heap.size w1 w2 := Below.trans (by go_grown) (hb.mono (by simp; omega))
  have B2 : Below w.heap.size w w2 := below_next B1 hb'
  have k1' := cell_later hb' k1
  have l1' := cell_later hb' l1
  clear hb hb' B1 k1 l1
  go_wp2_with (first | (go_at_call 5; refine (HA _).mono ?_; rintro e w' ⟨rfl, rfl⟩) | (go_at_call 7; refine (keepC _ _).mono ?_; rintro e w' ⟨rfl, rfl⟩) | (go_at_call 8; refine (HV _).mono ?_; rintro e w' ⟨rfl, rfl⟩) | (go_at_call 6; fail))
  refine (newKV b l (w2.heap.size + 1 + 1) w2.heap.size (w2.heap.size + 1) _ (by simp [go_sem]) (by simp [go_sem]) (by simp [go_sem]) (by simp [go_sem])).mono ?_
  rintro e w3 ⟨rfl, k3, l3, hb⟩
  simp only [World.size_alloc] at k3 l3
  have hb' : Below w2.heap.size w2 w3 := Below.trans (by go_grown) (hb.mono (by simp; omega))
  have B3 : Below w.heap.size w w3 := below_next B2 hb'
  have k1 := cell_later hb' k1'
  have l1 := cell_later hb' l1'
  have k2' := cell_later hb' k2
  have l2' := cell_later hb' l2
  clear hb hb' B2 k1' l1' k2 l2
  have e1 : (b != b) = false := by cases b <;> rfl
  go_wp2_with (first | (go_at_call 9; (first | (refine (zKeep _ b _ k1).mono ?_) | (refine (zKeep _ b _ k2').mono ?_) | (refine (zKeep _ b _ k3).mono ?_)); rintro e w' ⟨rfl, rfl⟩) | (go_at_call 10; (first | (refine (zLang _ l _ l1).mono ?_) | (refine (zLang _ l _ l2').mono ?_) | (refine (zLang _ l _ l3).mono ?_)); rintro e w' ⟨rfl, rfl⟩))
  go_ret
  exact ⟨rfl, B3⟩
theorem law27 (a b : Bool) (l : Int) (w : World) : Calls Tryf.prog 3 #[.bool a, .bool b, .int .i64 l] w fun e w' => e = .returned (.bool true) ∧ Below w.heap.size w w' := by
  cases hl : accB l
  · have HA := fun w' => acc l w'
    rw [hl] at HA
    clear hl
    go_enter Tryf.func3, Tryf.ntmps3
    go_wp2_with (go_at_call 5; refine (HA _).mono ?_; rintro e w' ⟨rfl, rfl⟩)
    go_ret
    exact ⟨rfl, Below.refl _ _⟩
  · by_cases h0 : l = 0
    · subst h0
      exact main0 a b w
    · exact mainL a b l w hl h0
end Go.Proofs.YtlaihlpokpeahaaFmt.keep
