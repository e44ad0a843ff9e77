/-
  posErr where the parser bears no error yet.
-/
import Derived.Test.YtccnpgmceoojmadFmtPerrB
import Derived.Deep.RegionHeld3
import Derived.Deep.RegionLaw
namespace Go.Proofs.YtccnpgmceoojmadFmt.perr
open Go.RowKit
open Go.Proofs.YtccnpgmceoojmadFmt
open Go.Extern.Stop Go.Stop Go.Extern

set_option maxRecDepth 100000 in
set_option maxHeartbeats 4000000 in
theorem first1 (p fb : Nat) (name : ByteArray) (ba : Option Addr) (bn bc : Nat) (bsp r wd : Int) (po pl on : Int) (la : Option Addr) (ln lc : Nat) (o l : Int) (f : ByteArray) (w : World) (h : Pst w p fb name ba bn bc bsp r wd .nilIface 1 po pl on la ln lc) (hn : bn ≤ 1048576) (hne : fb ≠ p)  :
    Calls Tryf.prog 19 #[.pointer (some ⟨p, 0, none⟩), .agg #[.int .u32 o, .int .u32 l], .string f, .slice none 0 0] w fun e w' => e = .returned (.tuple #[]) ∧ Erd p fb name ba bn bc o l (decide (0 < on) || decide (0 < ln)) po pl on la ln lc w w' := by
  have HP := Lib.hid h
  obtain ⟨x1, x2, x3, x4, x5, x7, x10, x15, x16, x29, x2087, xf, fz⟩ := h
  have hlt := lt_of_cell x1
  have hlf := lt_of_cell xf
  have hne' : ¬ p = fb := fun e => hne e.symm
  
  have hpw : ¬ p = w.heap.size := by omega
  have hfw : ¬ fb = w.heap.size := by omega
  clear fz x1 x2 x3 x4 x7 x15 x16 
  go_enter Tryf.func19, Tryf.ntmps19
  go_wp2_with fail
  go_region_held3 (fun W => W.cell? ⟨p, 10, none⟩ = some (.int .u32 1) ∧ W.cell? ⟨p, 5, none⟩ = some (.pointer (some ⟨fb, 0, none⟩)) ∧ W.cell? ⟨fb, 0, none⟩ = some (.string name) ∧ W.cell? ⟨w.heap.size, 0, none⟩ = some (.int .u32 o) ∧ W.cell? ⟨w.heap.size, 1, none⟩ = some (.int .u32 l))
    (refine ⟨?_, ?_, ?_, ?_, ?_⟩ <;> simp [go_sem, *])
    (first | (refine step_sprintf rfl _ _ _ _ rfl f rfl rfl ?_; intro s) | (go_at_call 26; refine (incomp p on la ln lc _ (cell_later (w := w) (by go_grown) x29) (cell_later (w := w) (by go_grown) x2087)).mono ?_; rintro e w' ⟨rfl, rfl⟩) | (go_at_call 24; refine (pass1 p fb name ba bn bc bsp r wd .nilIface 1 po pl on la ln lc _ _ (Pst.later HP.out (by go_grown)) hn).mono ?_; rintro e w' ⟨rfl, rfl⟩))
  all_goals
    go_wp2
    go_end0
    refine ⟨rfl, ?_⟩
    exact Erd.later (erd_of (w := w) (X := w) o l _ _ HP.out (Below.refl _ _) hlt hne) (by go_grown) hlt
end Go.Proofs.YtccnpgmceoojmadFmt.perr
