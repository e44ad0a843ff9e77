/-
  posErr where the parser bears no error yet and the token is not the end of the input.
-/
import Derived.Test.YtccnpgmceoojmadFmtPerrB
import Derived.Test.YtccnpgmceoojmadFmtOrdG
namespace Go.Proofs.YtccnpgmceoojmadFmt.perr
open Go.RowKit
open Go.Proofs.YtccnpgmceoojmadFmt
open Go.Extern.Stop Go.Stop Go.Extern

set_option maxRecDepth 100000 in
set_option maxHeartbeats 4000000 in
theorem first0 (p fb : Nat) (name : ByteArray) (ba : Option Addr) (bn bc : Nat) (bsp r wd : Int) (tok po pl on : Int) (la : Option Addr) (ln lc : Nat) (o l : Int) (f : ByteArray) (w : World) (h : Pst w p fb name ba bn bc bsp r wd .nilIface tok po pl on la ln lc) (hn : bn ≤ 1048576) (hne : fb ≠ p) (ht : ¬ tok = 1) :
    Calls Tryf.prog 19 #[.pointer (some ⟨p, 0, none⟩), .agg #[.int .u32 o, .int .u32 l], .string f, .slice none 0 0] w fun e w' => e = .returned (.tuple #[]) ∧ Erd p fb name ba bn bc o l false po pl on la ln lc w w' := by
  have HP := Lib.hid h
  obtain ⟨x1, x2, x3, x4, x5, x7, x10, x15, x16, x29, x2087, xf, fz⟩ := h
  have hlt := lt_of_cell x1
  have hlf := lt_of_cell xf
  have hne' : ¬ p = fb := fun e => hne e.symm
  have g1 : (tok == 1) = false := by simp [ht]
  have hpw : ¬ p = w.heap.size := by omega
  have hfw : ¬ fb = w.heap.size := by omega
  clear fz x1 x2 x3 x4 x7 x15 x16 ht
  go_enter Tryf.func19, Tryf.ntmps19
  go_wp2_with fail
  refine wp_region_G (L := 23) (S := fun W => W.cell? ⟨p, 10, none⟩ = some (.int .u32 tok) ∧ W.cell? ⟨p, 5, none⟩ = some (.pointer (some ⟨fb, 0, none⟩)) ∧ W.cell? ⟨fb, 0, none⟩ = some (.string name) ∧ W.cell? ⟨w.heap.size, 0, none⟩ = some (.int .u32 o) ∧ W.cell? ⟨w.heap.size, 1, none⟩ = some (.int .u32 l)) (by kernel_rfl) ?_
  have hS : (fun W : World => W.cell? ⟨p, 10, none⟩ = some (.int .u32 tok) ∧ W.cell? ⟨p, 5, none⟩ = some (.pointer (some ⟨fb, 0, none⟩)) ∧ W.cell? ⟨fb, 0, none⟩ = some (.string name) ∧ W.cell? ⟨w.heap.size, 0, none⟩ = some (.int .u32 o) ∧ W.cell? ⟨w.heap.size, 1, none⟩ = some (.int .u32 l)) (w.alloc (.cells #[.int .u32 o, .int .u32 l] 28)).drew := by
    refine ⟨?_, ?_, ?_, ?_, ?_⟩ <;> simp [go_sem, *]
  refine' wpAnyG_take (i := 0) (oi := ⟨some 8, _, _, _, _, _⟩) (v := _) rfl (by kernel_rfl) (by kernel_rfl) (by kernel_rfl) (by kernel_rfl) (by kernel_rfl) (by kernel_rfl) (fun _ _ _ h => h) (Or.inl ⟨by rfl, ?_⟩) hS ?_
  rotate_left
  · intro w hSw
    obtain ⟨z1, z2, z3, z4, z5⟩ := hSw
    go_simp
    try with_reducible rfl
  try simp only [Act.put, List.setIfInBounds_toArray, List.set_cons_zero, List.set_cons_succ]
  refine' wpAnyG_take (i := 1) (oi := ⟨some 9, _, _, _, _, _⟩) (v := _) rfl (by kernel_rfl) (by kernel_rfl) (by kernel_rfl) (by kernel_rfl) (by kernel_rfl) (by kernel_rfl) (fun _ _ _ h => h) (Or.inl ⟨by rfl, ?_⟩) hS ?_
  rotate_left
  · intro w hSw
    obtain ⟨z1, z2, z3, z4, z5⟩ := hSw
    go_simp
    try with_reducible rfl
  try simp only [Act.put, List.setIfInBounds_toArray, List.set_cons_zero, List.set_cons_succ]
  refine' wpAnyG_take (i := 2) (oi := ⟨some 10, _, _, _, _, _⟩) (v := _) rfl (by kernel_rfl) (by kernel_rfl) (by kernel_rfl) (by kernel_rfl) (by kernel_rfl) (by kernel_rfl) (fun _ _ _ h => h) (Or.inl ⟨by rfl, ?_⟩) hS ?_
  rotate_left
  · intro w hSw
    obtain ⟨z1, z2, z3, z4, z5⟩ := hSw
    go_simp
    try with_reducible rfl
  try simp only [Act.put, List.setIfInBounds_toArray, List.set_cons_zero, List.set_cons_succ]
  refine' wpAnyG_take (i := 3) (oi := ⟨some 11, _, _, _, _, _⟩) (v := _) rfl (by kernel_rfl) (by kernel_rfl) (by kernel_rfl) (by kernel_rfl) (by kernel_rfl) (by kernel_rfl) (fun _ _ _ h => h) (Or.inl ⟨by rfl, ?_⟩) hS ?_
  rotate_left
  · intro w hSw
    obtain ⟨z1, z2, z3, z4, z5⟩ := hSw
    go_simp
    try with_reducible rfl
  try simp only [Act.put, List.setIfInBounds_toArray, List.set_cons_zero, List.set_cons_succ]
  refine' wpAnyG_take (i := 4) (oi := ⟨some 12, _, _, _, _, _⟩) (v := _) rfl (by kernel_rfl) (by kernel_rfl) (by kernel_rfl) (by kernel_rfl) (by kernel_rfl) (by kernel_rfl) (fun _ _ _ h => h) (Or.inl ⟨by rfl, ?_⟩) hS ?_
  rotate_left
  · intro w hSw
    obtain ⟨z1, z2, z3, z4, z5⟩ := hSw
    go_simp
    try with_reducible rfl
  try simp only [Act.put, List.setIfInBounds_toArray, List.set_cons_zero, List.set_cons_succ]
  refine' wpAnyG_take (i := 5) (oi := ⟨some 13, _, _, _, _, _⟩) (v := _) rfl (by kernel_rfl) (by kernel_rfl) (by kernel_rfl) (by kernel_rfl) (by kernel_rfl) (by kernel_rfl) (fun _ _ _ h => h) (Or.inl ⟨by rfl, ?_⟩) hS ?_
  rotate_left
  · intro w hSw
    obtain ⟨z1, z2, z3, z4, z5⟩ := hSw
    go_simp
    try with_reducible rfl
  try simp only [Act.put, List.setIfInBounds_toArray, List.set_cons_zero, List.set_cons_succ]
  refine' wpAnyG_take (i := 6) (oi := ⟨some 14, _, _, _, _, _⟩) (v := _) rfl (by kernel_rfl) (by kernel_rfl) (by kernel_rfl) (by kernel_rfl) (by kernel_rfl) (by kernel_rfl) (fun _ _ _ h => h) (Or.inl ⟨by rfl, ?_⟩) hS ?_
  rotate_left
  · intro w hSw
    obtain ⟨z1, z2, z3, z4, z5⟩ := hSw
    go_simp
    try with_reducible rfl
  try simp only [Act.put, List.setIfInBounds_toArray, List.set_cons_zero, List.set_cons_succ]
  refine' wpAnyG_take (i := 7) (oi := ⟨some 15, _, _, _, _, _⟩) (v := _) rfl (by kernel_rfl) (by kernel_rfl) (by kernel_rfl) (by kernel_rfl) (by kernel_rfl) (by kernel_rfl) (fun _ _ _ h => h) (Or.inl ⟨by rfl, ?_⟩) hS ?_
  rotate_left
  · intro w hSw
    obtain ⟨z1, z2, z3, z4, z5⟩ := hSw
    go_simp
    try with_reducible rfl
  try simp only [Act.put, List.setIfInBounds_toArray, List.set_cons_zero, List.set_cons_succ]
  refine' wpAnyG_take (i := 8) (oi := ⟨some 16, _, _, _, _, _⟩) (v := _) rfl (by kernel_rfl) (by kernel_rfl) (by kernel_rfl) (by kernel_rfl) (by kernel_rfl) (by kernel_rfl) (fun _ _ _ h => h) (Or.inl ⟨by rfl, ?_⟩) hS ?_
  rotate_left
  · intro w hSw
    obtain ⟨z1, z2, z3, z4, z5⟩ := hSw
    go_simp
    try with_reducible rfl
  try simp only [Act.put, List.setIfInBounds_toArray, List.set_cons_zero, List.set_cons_succ]
  refine' wpAnyG_take (i := 9) (oi := ⟨some 17, _, _, _, _, _⟩) (v := _) rfl (by kernel_rfl) (by kernel_rfl) (by kernel_rfl) (by kernel_rfl) (by kernel_rfl) (by kernel_rfl) (fun _ _ _ h => h) (Or.inl ⟨by rfl, ?_⟩) hS ?_
  rotate_left
  · intro w hSw
    obtain ⟨z1, z2, z3, z4, z5⟩ := hSw
    go_simp
    try with_reducible rfl
  try simp only [Act.put, List.setIfInBounds_toArray, List.set_cons_zero, List.set_cons_succ]
  refine' wpAnyG_take (i := 10) (oi := ⟨some 18, _, _, _, _, _⟩) (v := _) rfl (by kernel_rfl) (by kernel_rfl) (by kernel_rfl) (by kernel_rfl) (by kernel_rfl) (by kernel_rfl) (fun _ _ _ h => h) (Or.inl ⟨by rfl, ?_⟩) hS ?_
  rotate_left
  · intro w hSw
    obtain ⟨z1, z2, z3, z4, z5⟩ := hSw
    go_simp
    try with_reducible rfl
  try simp only [Act.put, List.setIfInBounds_toArray, List.set_cons_zero, List.set_cons_succ]
  refine' wpAnyG_take (i := 12) (oi := ⟨some 20, _, _, _, _, _⟩) (v := _) rfl (by kernel_rfl) (by kernel_rfl) (by kernel_rfl) (by kernel_rfl) (by kernel_rfl) (by kernel_rfl) (fun _ _ _ h => h) (Or.inl ⟨by rfl, ?_⟩) hS ?_
  rotate_left
  · intro w hSw
    obtain ⟨z1, z2, z3, z4, z5⟩ := hSw
    go_simp
    try with_reducible rfl
  try simp only [Act.put, List.setIfInBounds_toArray, List.set_cons_zero, List.set_cons_succ]
  refine' wpAnyG_take (i := 13) (oi := ⟨some 21, _, _, _, _, _⟩) (v := _) rfl (by kernel_rfl) (by kernel_rfl) (by kernel_rfl) (by kernel_rfl) (by kernel_rfl) (by kernel_rfl) (fun _ _ _ h => h) (Or.inl ⟨by rfl, ?_⟩) hS ?_
  rotate_left
  · intro w hSw
    obtain ⟨z1, z2, z3, z4, z5⟩ := hSw
    go_simp
    try with_reducible rfl
  try simp only [Act.put, List.setIfInBounds_toArray, List.set_cons_zero, List.set_cons_succ]
  refine' wpAnyG_take (i := 14) (oi := ⟨some 22, _, _, _, _, _⟩) (v := _) rfl (by kernel_rfl) (by kernel_rfl) (by kernel_rfl) (by kernel_rfl) (by kernel_rfl) (by kernel_rfl) (fun _ _ _ h => h) (Or.inl ⟨by rfl, ?_⟩) hS ?_
  rotate_left
  · intro w hSw
    obtain ⟨z1, z2, z3, z4, z5⟩ := hSw
    go_simp
    try with_reducible rfl
  try simp only [Act.put, List.setIfInBounds_toArray, List.set_cons_zero, List.set_cons_succ]
  refine' wpAnyG_take (i := 15) (oi := ⟨some 23, _, _, _, _, _⟩) (v := _) rfl (by kernel_rfl) (by kernel_rfl) (by kernel_rfl) (by kernel_rfl) (by kernel_rfl) (by kernel_rfl) (fun _ _ _ h => h) (Or.inl ⟨by rfl, ?_⟩) hS ?_
  rotate_left
  · intro w hSw
    obtain ⟨z1, z2, z3, z4, z5⟩ := hSw
    go_simp
    try with_reducible rfl
  try simp only [Act.put, List.setIfInBounds_toArray, List.set_cons_zero, List.set_cons_succ]
  refine' wpAnyG_take (i := 16) (oi := ⟨some 24, _, _, _, _, _⟩) (v := _) rfl (by kernel_rfl) (by kernel_rfl) (by kernel_rfl) (by kernel_rfl) (by kernel_rfl) (by kernel_rfl) (fun _ _ _ h => h) (Or.inl ⟨by rfl, ?_⟩) hS ?_
  rotate_left
  · intro w hSw
    obtain ⟨z1, z2, z3, z4, z5⟩ := hSw
    go_simp
    try with_reducible rfl
  try simp only [Act.put, List.setIfInBounds_toArray, List.set_cons_zero, List.set_cons_succ]
  refine wpAnyG_one (i := 11) (o := ⟨some 19, _, _, _, _, _⟩) (by kernel_rfl) rfl (fun K hK => ?_)
  refine step_sprintf rfl _ _ _ _ rfl f rfl rfl ?_
  intro s
  have hS' := hS
  refine hK.out _ _ (fun _ => ?_) (fun _ => ?_)
  · obtain ⟨z1, z2, z3, z4, z5⟩ := hS
    refine ⟨?_, ?_, ?_, ?_, ?_⟩ <;> simp [go_sem, *]
  clear hK K
  try simp only [Act.put, List.setIfInBounds_toArray, List.set_cons_zero, List.set_cons_succ]
  replace hS : (fun W : World => W.cell? ⟨p, 10, none⟩ = some (.int .u32 tok) ∧ W.cell? ⟨p, 5, none⟩ = some (.pointer (some ⟨fb, 0, none⟩)) ∧ W.cell? ⟨fb, 0, none⟩ = some (.string name) ∧ W.cell? ⟨w.heap.size, 0, none⟩ = some (.int .u32 o) ∧ W.cell? ⟨w.heap.size, 1, none⟩ = some (.int .u32 l)) (w.alloc (.cells #[.int .u32 o, .int .u32 l] 28)).drew.drew := by
    refine ⟨?_, ?_, ?_, ?_, ?_⟩ <;> simp [go_sem, *]
  refine' wpAnyG_take (i := 17) (oi := ⟨some 25, _, _, _, _, _⟩) (v := _) rfl (by kernel_rfl) (by kernel_rfl) (by kernel_rfl) (by kernel_rfl) (by kernel_rfl) (by kernel_rfl) (fun _ _ _ h => h) (Or.inl ⟨by rfl, ?_⟩) hS ?_
  rotate_left
  · intro w hSw
    obtain ⟨z1, z2, z3, z4, z5⟩ := hSw
    go_simp
    try with_reducible rfl
  try simp only [Act.put, List.setIfInBounds_toArray, List.set_cons_zero, List.set_cons_succ]
  refine' wpAnyG_take (i := 18) (oi := ⟨some 26, _, _, _, _, _⟩) (v := undef) rfl (by kernel_rfl) (by kernel_rfl) (by kernel_rfl) (by kernel_rfl) (by kernel_rfl) (by kernel_rfl) (fun _ _ _ h => h) (Or.inr ⟨by simp [Region.wanted, yielded, go_sem, g1], rfl⟩) hS ?_
  try simp only [Act.put, List.setIfInBounds_toArray, List.set_cons_zero, List.set_cons_succ]
  refine' wpAnyG_take (i := 19) (oi := ⟨some 27, _, _, _, _, _⟩) (v := undef) rfl (by kernel_rfl) (by kernel_rfl) (by kernel_rfl) (by kernel_rfl) (by kernel_rfl) (by kernel_rfl) (fun _ _ _ h => h) (Or.inr ⟨by simp [Region.wanted, yielded, go_sem, g1], rfl⟩) hS ?_
  try simp only [Act.put, List.setIfInBounds_toArray, List.set_cons_zero, List.set_cons_succ]
  refine' wpAnyG_take (i := 20) (oi := ⟨some 28, _, _, _, _, _⟩) (v := _) rfl (by kernel_rfl) (by kernel_rfl) (by kernel_rfl) (by kernel_rfl) (by kernel_rfl) (by kernel_rfl) (fun _ _ _ h => h) (Or.inl ⟨by rfl, ?_⟩) hS ?_
  rotate_left
  · intro w hSw
    obtain ⟨z1, z2, z3, z4, z5⟩ := hSw
    go_simp
    try with_reducible rfl
  try simp only [Act.put, List.setIfInBounds_toArray, List.set_cons_zero, List.set_cons_succ]
  refine' wpAnyG_take (i := 21) (oi := ⟨some 29, _, _, _, _, _⟩) (v := _) rfl (by kernel_rfl) (by kernel_rfl) (by kernel_rfl) (by kernel_rfl) (by kernel_rfl) (by kernel_rfl) (fun _ _ _ h => h) (Or.inl ⟨by rfl, ?_⟩) hS ?_
  rotate_left
  · intro w hSw
    obtain ⟨z1, z2, z3, z4, z5⟩ := hSw
    go_simp
    try with_reducible rfl
  try simp only [Act.put, List.setIfInBounds_toArray, List.set_cons_zero, List.set_cons_succ]
  refine' wpAnyG_take (i := 22) (oi := ⟨some 30, _, _, _, _, _⟩) (v := _) rfl (by kernel_rfl) (by kernel_rfl) (by kernel_rfl) (by kernel_rfl) (by kernel_rfl) (by kernel_rfl) (fun _ _ _ h => h) (Or.inl ⟨by rfl, ?_⟩) hS ?_
  rotate_left
  · intro w hSw
    obtain ⟨z1, z2, z3, z4, z5⟩ := hSw
    go_simp
    try with_reducible rfl
  try simp only [Act.put, List.setIfInBounds_toArray, List.set_cons_zero, List.set_cons_succ]
  refine wpAnyG_one (i := 23) (by kernel_rfl) rfl (fun K hK => ?_)
  go_simp
  go_at_call 24
  refine (pass1 p fb name ba bn bc bsp r wd .nilIface tok po pl on la ln lc _ _ (Pst.later HP.out (by go_grown)) hn).mono ?_
  rintro e w' ⟨rfl, rfl⟩
  go_simp
  refine hK.out _ _ (fun h => absurd rfl h) (fun _ => ?_)
  clear hK K
  refine wpAnyG_done (by kernel_rfl) ?_ _
  go_wp2
  go_end0
  refine ⟨rfl, ?_⟩
  exact Erd.later (erd_of (w := w) (X := w) o l _ _ HP.out (Below.refl _ _) hlt hne) (by go_grown) hlt
end Go.Proofs.YtccnpgmceoojmadFmt.perr
