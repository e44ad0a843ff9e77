/-
  The parser's maker, its readers of an error, and the thin exports of posErr and curErr: first call and later calls.
-/
import Derived.Test.YtccnpgmceoojmadFmtPerrC
import Derived.Test.YtccnpgmceoojmadFmtPerrD
namespace Go.Proofs.YtccnpgmceoojmadFmt.perr
open Go.RowKit
open Go.Proofs.YtccnpgmceoojmadFmt
open Go.Extern.Stop Go.Stop Go.Extern

theorem firstAny (p fb : Nat) (name : ByteArray) (ba : Option Addr) (bn bc : Nat) (bsp r wd : Int) (tok po pl on : Int) (la : Option Addr) (ln lc : Nat) (o l : Int) (f : ByteArray) (w : World) (h : Pst w p fb name ba bn bc bsp r wd .nilIface tok po pl on la ln lc) (hn : bn ≤ 1048576) (hne : fb ≠ p) :
    Calls Tryf.prog 19 #[.pointer (some ⟨p, 0, none⟩), .agg #[.int .u32 o, .int .u32 l], .string f, .slice none 0 0] w fun e w' => e = .returned (.tuple #[]) ∧ Erd p fb name ba bn bc o l (decide (tok = 1) && (decide (0 < on) || decide (0 < ln))) po pl on la ln lc w w' := by
  by_cases ht : tok = 1
  · subst ht
    have e : (decide ((1 : Int) = 1) && (decide (0 < on) || decide (0 < ln))) = (decide (0 < on) || decide (0 < ln)) := by simp
    rw [e]
    exact first1 p fb name ba bn bc bsp r wd po pl on la ln lc o l f w h hn hne
  · have e : (decide (tok = 1) && (decide (0 < on) || decide (0 < ln))) = false := by simp [ht]
    rw [e]
    exact first0 p fb name ba bn bc bsp r wd tok po pl on la ln lc o l f w h hn hne ht
set_option maxRecDepth 100000 in
set_option maxHeartbeats 4000000 in
theorem second (p fb : Nat) (name : ByteArray) (ba : Option Addr) (bn bc : Nat) (bsp r wd : Int) (po pl on : Int) (la : Option Addr) (ln lc : Nat) (v1 : Value) (o l : Int) (f : ByteArray) (w : World) (h : Pst w p fb name ba bn bc bsp r wd (.iface 37 v1) 1 po pl on la ln lc) (hne : fb ≠ p) :
    Calls Tryf.prog 19 #[.pointer (some ⟨p, 0, none⟩), .agg #[.int .u32 o, .int .u32 l], .string f, .slice none 0 0] w fun e w' => e = .returned (.tuple #[]) ∧ Below w.heap.size w w' := by
  obtain ⟨x1, x2, x3, x4, x5, x7, x10, x15, x16, x29, x2087, xf, fz⟩ := h
  have hlt := lt_of_cell x1
  have hlf := lt_of_cell xf
  have hne' : ¬ p = fb := fun e => hne e.symm
  have hpw : ¬ p = w.heap.size := by omega
  have hfw : ¬ fb = w.heap.size := by omega
  clear fz x1 x2 x3 x4 x15 x16
  go_enter Tryf.func19, Tryf.ntmps19
  go_wp2_with fail
  go_region_held3 (fun W => W.cell? ⟨p, 10, none⟩ = some (.int .u32 1) ∧ W.cell? ⟨p, 5, none⟩ = some (.pointer (some ⟨fb, 0, none⟩)) ∧ W.cell? ⟨fb, 0, none⟩ = some (.string name) ∧ W.cell? ⟨w.heap.size, 0, none⟩ = some (.int .u32 o) ∧ W.cell? ⟨w.heap.size, 1, none⟩ = some (.int .u32 l))
    (refine ⟨?_, ?_, ?_, ?_, ?_⟩ <;> simp [go_sem, *])
    (first | (refine step_sprintf rfl _ _ _ _ rfl f rfl rfl ?_; intro s) | (go_at_call 26; refine (incomp p on la ln lc _ (cell_later (w := w) (by go_grown) x29) (cell_later (w := w) (by go_grown) x2087)).mono ?_; rintro e w' ⟨rfl, rfl⟩) | (go_at_call 24; refine (pass2 p _ v1 _ (cell_later (w := w) (by go_grown) x7)).mono ?_; rintro e w' ⟨rfl, rfl⟩))
  all_goals
    go_wp2
    go_end0
    exact ⟨rfl, by go_grown⟩
theorem Erd.from {w w1 w' : World} {p fb : Nat} {name : ByteArray} {ba : Option Addr} {bn bc : Nat} {o l : Int} {inc : Bool} {po pl on : Int} {la : Option Addr} {ln lc : Nat} (hb : Below w.heap.size w w1) (hp : p < w.heap.size) (h : Erd p fb name ba bn bc o l inc po pl on la ln lc w1 w') : Erd p fb name ba bn bc o l inc po pl on la ln lc w w' := by
  obtain ⟨s, h1, h2⟩ := h
  exact ⟨s, h1, ⟨fun b k v hb' hv => h2.oth b k v hb' (cell_later hb hv), fun b k hb' hlt => (h2.ofz b k hb' (Nat.lt_of_lt_of_le hlt hb.size)).trans (hb.frozen (p := ⟨b, k, none⟩) hlt), Below.trans (Below.mono hb (Nat.le_of_lt hp)) h2.bel, Nat.le_trans hb.size h2.sz⟩⟩
theorem zpos1 (p fb : Nat) (name : ByteArray) (ba : Option Addr) (bn bc : Nat) (bsp r wd : Int) (tok po pl on : Int) (la : Option Addr) (ln lc : Nat) (o l : Int) (f : ByteArray) (w : World) (h : Pst w p fb name ba bn bc bsp r wd .nilIface tok po pl on la ln lc) (hn : bn ≤ 1048576) (hne : fb ≠ p) :
    Calls Tryf.prog 12 #[.pointer (some ⟨p, 0, none⟩), .agg #[.int .u32 o, .int .u32 l], .string f] w fun e w' => e = .returned (.tuple #[]) ∧ Erd p fb name ba bn bc o l (decide (tok = 1) && (decide (0 < on) || decide (0 < ln))) po pl on la ln lc w w' := by
  have HP := Lib.hid h
  have hlt := lt_of_cell h.x1
  clear h
  have HF := Lib.hid (fun (w1 w' : World) (hb : Below w.heap.size w w1) (h : Erd p fb name ba bn bc o l (decide (tok = 1) && (decide (0 < on) || decide (0 < ln))) po pl on la ln lc w1 w') => Erd.from hb hlt h)
  go_enter Tryf.func12, Tryf.ntmps12
  go_wp2_with fail
  refine (firstAny p fb name ba bn bc bsp r wd tok po pl on la ln lc o l f _ (HP.out.later (by go_grown)) hn hne).mono ?_
  rintro e w' ⟨rfl, hE⟩
  have HE := Lib.hid hE
  clear hE
  go_wp2
  go_end0
  exact ⟨rfl, HF.out _ _ (by go_grown) HE.out⟩
theorem zpos2 (p fb : Nat) (name : ByteArray) (ba : Option Addr) (bn bc : Nat) (bsp r wd : Int) (po pl on : Int) (la : Option Addr) (ln lc : Nat) (v1 : Value) (o l : Int) (f : ByteArray) (w : World) (h : Pst w p fb name ba bn bc bsp r wd (.iface 37 v1) 1 po pl on la ln lc) (hne : fb ≠ p) :
    Calls Tryf.prog 12 #[.pointer (some ⟨p, 0, none⟩), .agg #[.int .u32 o, .int .u32 l], .string f] w fun e w' => e = .returned (.tuple #[]) ∧ Below w.heap.size w w' := by
  have HP := Lib.hid h
  clear h
  go_enter Tryf.func12, Tryf.ntmps12
  go_wp2_with fail
  refine (second p fb name ba bn bc bsp r wd po pl on la ln lc v1 o l f _ (HP.out.later (by go_grown)) hne).mono ?_
  rintro e w' ⟨rfl, hb⟩
  go_wp2
  go_end0
  exact ⟨rfl, below_next (by go_grown) hb⟩
theorem cur1 (p fb : Nat) (name : ByteArray) (ba : Option Addr) (bn bc : Nat) (bsp r wd : Int) (tok po pl on : Int) (la : Option Addr) (ln lc : Nat) (f : ByteArray) (w : World) (h : Pst w p fb name ba bn bc bsp r wd .nilIface tok po pl on la ln lc) (hn : bn ≤ 1048576) (hne : fb ≠ p) :
    Calls Tryf.prog 20 #[.pointer (some ⟨p, 0, none⟩), .string f, .slice none 0 0] w fun e w' => e = .returned (.tuple #[]) ∧ Erd p fb name ba bn bc po pl (decide (tok = 1) && (decide (0 < on) || decide (0 < ln))) po pl on la ln lc w w' := by
  have HP := Lib.hid h
  have x15 := h.x15
  have x16 := h.x16
  clear h
  go_enter Tryf.func20, Tryf.ntmps20
  go_wp2_with fail
  refine (firstAny p fb name ba bn bc bsp r wd tok po pl on la ln lc po pl f _ HP.out hn hne).mono ?_
  rintro e w' ⟨rfl, hE⟩
  have HE := Lib.hid hE
  clear hE
  go_wp2
  go_end0
  exact ⟨rfl, HE.out⟩
theorem cur2 (p fb : Nat) (name : ByteArray) (ba : Option Addr) (bn bc : Nat) (bsp r wd : Int) (po pl on : Int) (la : Option Addr) (ln lc : Nat) (v1 : Value) (f : ByteArray) (w : World) (h : Pst w p fb name ba bn bc bsp r wd (.iface 37 v1) 1 po pl on la ln lc) (hne : fb ≠ p) :
    Calls Tryf.prog 20 #[.pointer (some ⟨p, 0, none⟩), .string f, .slice none 0 0] w fun e w' => e = .returned (.tuple #[]) ∧ Below w.heap.size w w' := by
  have HP := Lib.hid h
  have x15 := h.x15
  have x16 := h.x16
  clear h
  go_enter Tryf.func20, Tryf.ntmps20
  go_wp2_with fail
  refine (second p fb name ba bn bc bsp r wd po pl on la ln lc v1 po pl f _ HP.out hne).mono ?_
  rintro e w' ⟨rfl, hb⟩
  go_wp2
  go_end0
  exact ⟨rfl, hb⟩
theorem zcur1 (p fb : Nat) (name : ByteArray) (ba : Option Addr) (bn bc : Nat) (bsp r wd : Int) (tok po pl on : Int) (la : Option Addr) (ln lc : Nat) (f : ByteArray) (w : World) (h : Pst w p fb name ba bn bc bsp r wd .nilIface tok po pl on la ln lc) (hn : bn ≤ 1048576) (hne : fb ≠ p) :
    Calls Tryf.prog 14 #[.pointer (some ⟨p, 0, none⟩), .string f] w fun e w' => e = .returned (.tuple #[]) ∧ Erd p fb name ba bn bc po pl (decide (tok = 1) && (decide (0 < on) || decide (0 < ln))) po pl on la ln lc w w' := by
  have HP := Lib.hid h
  clear h
  go_enter Tryf.func14, Tryf.ntmps14
  go_wp2_with fail
  refine (cur1 p fb name ba bn bc bsp r wd tok po pl on la ln lc f _ HP.out hn hne).mono ?_
  rintro e w' ⟨rfl, hE⟩
  have HE := Lib.hid hE
  clear hE
  go_wp2
  go_end0
  exact ⟨rfl, HE.out⟩
theorem zcur2 (p fb : Nat) (name : ByteArray) (ba : Option Addr) (bn bc : Nat) (bsp r wd : Int) (po pl on : Int) (la : Option Addr) (ln lc : Nat) (v1 : Value) (f : ByteArray) (w : World) (h : Pst w p fb name ba bn bc bsp r wd (.iface 37 v1) 1 po pl on la ln lc) (hne : fb ≠ p) :
    Calls Tryf.prog 14 #[.pointer (some ⟨p, 0, none⟩), .string f] w fun e w' => e = .returned (.tuple #[]) ∧ Below w.heap.size w w' := by
  have HP := Lib.hid h
  clear h
  go_enter Tryf.func14, Tryf.ntmps14
  go_wp2_with fail
  refine (cur2 p fb name ba bn bc bsp r wd po pl on la ln lc v1 f _ HP.out hne).mono ?_
  rintro e w' ⟨rfl, hb⟩
  go_wp2
  go_end0
  exact ⟨rfl, hb⟩
end Go.Proofs.YtccnpgmceoojmadFmt.perr
