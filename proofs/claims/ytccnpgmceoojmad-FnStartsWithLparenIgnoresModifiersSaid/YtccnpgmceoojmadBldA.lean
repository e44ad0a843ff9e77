/-
  startsWithLparen and endsWithRparen on statements in memory: what they answer, by the statement's command.
-/
import Derived.Test.YtccnpgmceoojmadBaseF
namespace Go.Proofs.Ytccnpgmceoojmad.bld
open Go.RowKit
open Go.Proofs.Ytccnpgmceoojmad

def SW (w : World) (v : Value) (s : Bool) : Prop := Calls Try.prog 36 #[v] w fun e w' => e = .returned (.bool s) ∧ w = w'
def EW (w : World) (v : Value) (s : Bool) : Prop := Calls Try.prog 35 #[v] w fun e w' => e = .returned (.bool s) ∧ w = w'
theorem sw_nil (w : World) : SW w .nilIface false := by
  unfold SW
  have h53 : ∀ w : World, (Instr.typeAssert .nilIface 109 53 true).run Try.prog w = .ok (.tuple #[.pointer none, .bool false]) w := fun _ => by kernel_rfl
  have h104 : ∀ w : World, (Instr.typeAssert .nilIface 109 104 true).run Try.prog w = .ok (.tuple #[.pointer none, .bool false]) w := fun _ => by kernel_rfl
  have h90 : ∀ w : World, (Instr.typeAssert .nilIface 109 90 true).run Try.prog w = .ok (.tuple #[.pointer none, .bool false]) w := fun _ => by kernel_rfl
  have h93 : ∀ w : World, (Instr.typeAssert .nilIface 109 93 true).run Try.prog w = .ok (.tuple #[.pointer none, .bool false]) w := fun _ => by kernel_rfl
  go_enter Try.func36, Try.ntmps36
  go_wp2
  go_ret
  exact ⟨rfl, rfl⟩
theorem sw_sub (q : Addr) (w : World) : SW w (.iface 90 (.pointer (some q))) true := by
  unfold SW
  have h53 : ∀ (v : Value) (w : World), (Instr.typeAssert (.iface 90 v) 109 53 true).run Try.prog w = .ok (.tuple #[.pointer none, .bool false]) w := fun _ _ => by kernel_rfl
  have h104 : ∀ (v : Value) (w : World), (Instr.typeAssert (.iface 90 v) 109 104 true).run Try.prog w = .ok (.tuple #[.pointer none, .bool false]) w := fun _ _ => by kernel_rfl
  have h90 : ∀ (v : Value) (w : World), (Instr.typeAssert (.iface 90 v) 109 90 true).run Try.prog w = .ok (.tuple #[v, .bool true]) w := fun _ _ => by kernel_rfl
  have h93 : ∀ (v : Value) (w : World), (Instr.typeAssert (.iface 90 v) 109 93 true).run Try.prog w = .ok (.tuple #[.pointer none, .bool false]) w := fun _ _ => by kernel_rfl
  go_enter Try.func36, Try.ntmps36
  go_wp2
  go_ret
  exact ⟨rfl, rfl⟩
theorem sw_ar (q : Addr) (w : World) : SW w (.iface 93 (.pointer (some q))) true := by
  unfold SW
  have h53 : ∀ (v : Value) (w : World), (Instr.typeAssert (.iface 93 v) 109 53 true).run Try.prog w = .ok (.tuple #[.pointer none, .bool false]) w := fun _ _ => by kernel_rfl
  have h104 : ∀ (v : Value) (w : World), (Instr.typeAssert (.iface 93 v) 109 104 true).run Try.prog w = .ok (.tuple #[.pointer none, .bool false]) w := fun _ _ => by kernel_rfl
  have h90 : ∀ (v : Value) (w : World), (Instr.typeAssert (.iface 93 v) 109 90 true).run Try.prog w = .ok (.tuple #[.pointer none, .bool false]) w := fun _ _ => by kernel_rfl
  have h93 : ∀ (v : Value) (w : World), (Instr.typeAssert (.iface 93 v) 109 93 true).run Try.prog w = .ok (.tuple #[v, .bool true]) w := fun _ _ => by kernel_rfl
  go_enter Try.func36, Try.ntmps36
  go_wp2
  go_ret
  exact ⟨rfl, rfl⟩
theorem sw_call (q : Addr) (w : World) : SW w (.iface 96 (.pointer (some q))) false := by
  unfold SW
  have h53 : ∀ (v : Value) (w : World), (Instr.typeAssert (.iface 96 v) 109 53 true).run Try.prog w = .ok (.tuple #[.pointer none, .bool false]) w := fun _ _ => by kernel_rfl
  have h104 : ∀ (v : Value) (w : World), (Instr.typeAssert (.iface 96 v) 109 104 true).run Try.prog w = .ok (.tuple #[.pointer none, .bool false]) w := fun _ _ => by kernel_rfl
  have h90 : ∀ (v : Value) (w : World), (Instr.typeAssert (.iface 96 v) 109 90 true).run Try.prog w = .ok (.tuple #[.pointer none, .bool false]) w := fun _ _ => by kernel_rfl
  have h93 : ∀ (v : Value) (w : World), (Instr.typeAssert (.iface 96 v) 109 93 true).run Try.prog w = .ok (.tuple #[.pointer none, .bool false]) w := fun _ _ => by kernel_rfl
  go_enter Try.func36, Try.ntmps36
  go_wp2
  go_ret
  exact ⟨rfl, rfl⟩
theorem sw_block (q : Addr) (w : World) : SW w (.iface 101 (.pointer (some q))) false := by
  unfold SW
  have h53 : ∀ (v : Value) (w : World), (Instr.typeAssert (.iface 101 v) 109 53 true).run Try.prog w = .ok (.tuple #[.pointer none, .bool false]) w := fun _ _ => by kernel_rfl
  have h104 : ∀ (v : Value) (w : World), (Instr.typeAssert (.iface 101 v) 109 104 true).run Try.prog w = .ok (.tuple #[.pointer none, .bool false]) w := fun _ _ => by kernel_rfl
  have h90 : ∀ (v : Value) (w : World), (Instr.typeAssert (.iface 101 v) 109 90 true).run Try.prog w = .ok (.tuple #[.pointer none, .bool false]) w := fun _ _ => by kernel_rfl
  have h93 : ∀ (v : Value) (w : World), (Instr.typeAssert (.iface 101 v) 109 93 true).run Try.prog w = .ok (.tuple #[.pointer none, .bool false]) w := fun _ _ => by kernel_rfl
  go_enter Try.func36, Try.ntmps36
  go_wp2
  go_ret
  exact ⟨rfl, rfl⟩
theorem ew_nil (w : World) : EW w .nilIface false := by
  unfold EW
  have h53 : ∀ w : World, (Instr.typeAssert .nilIface 109 53 true).run Try.prog w = .ok (.tuple #[.pointer none, .bool false]) w := fun _ => by kernel_rfl
  have h104 : ∀ w : World, (Instr.typeAssert .nilIface 109 104 true).run Try.prog w = .ok (.tuple #[.pointer none, .bool false]) w := fun _ => by kernel_rfl
  have h90 : ∀ w : World, (Instr.typeAssert .nilIface 109 90 true).run Try.prog w = .ok (.tuple #[.pointer none, .bool false]) w := fun _ => by kernel_rfl
  have h93 : ∀ w : World, (Instr.typeAssert .nilIface 109 93 true).run Try.prog w = .ok (.tuple #[.pointer none, .bool false]) w := fun _ => by kernel_rfl
  go_enter Try.func35, Try.ntmps35
  go_wp2
  go_ret
  exact ⟨rfl, rfl⟩
theorem ew_sub (q : Addr) (w : World) : EW w (.iface 90 (.pointer (some q))) true := by
  unfold EW
  have h53 : ∀ (v : Value) (w : World), (Instr.typeAssert (.iface 90 v) 109 53 true).run Try.prog w = .ok (.tuple #[.pointer none, .bool false]) w := fun _ _ => by kernel_rfl
  have h104 : ∀ (v : Value) (w : World), (Instr.typeAssert (.iface 90 v) 109 104 true).run Try.prog w = .ok (.tuple #[.pointer none, .bool false]) w := fun _ _ => by kernel_rfl
  have h90 : ∀ (v : Value) (w : World), (Instr.typeAssert (.iface 90 v) 109 90 true).run Try.prog w = .ok (.tuple #[v, .bool true]) w := fun _ _ => by kernel_rfl
  have h93 : ∀ (v : Value) (w : World), (Instr.typeAssert (.iface 90 v) 109 93 true).run Try.prog w = .ok (.tuple #[.pointer none, .bool false]) w := fun _ _ => by kernel_rfl
  go_enter Try.func35, Try.ntmps35
  go_wp2
  go_ret
  exact ⟨rfl, rfl⟩
theorem ew_ar (q : Addr) (w : World) : EW w (.iface 93 (.pointer (some q))) true := by
  unfold EW
  have h53 : ∀ (v : Value) (w : World), (Instr.typeAssert (.iface 93 v) 109 53 true).run Try.prog w = .ok (.tuple #[.pointer none, .bool false]) w := fun _ _ => by kernel_rfl
  have h104 : ∀ (v : Value) (w : World), (Instr.typeAssert (.iface 93 v) 109 104 true).run Try.prog w = .ok (.tuple #[.pointer none, .bool false]) w := fun _ _ => by kernel_rfl
  have h90 : ∀ (v : Value) (w : World), (Instr.typeAssert (.iface 93 v) 109 90 true).run Try.prog w = .ok (.tuple #[.pointer none, .bool false]) w := fun _ _ => by kernel_rfl
  have h93 : ∀ (v : Value) (w : World), (Instr.typeAssert (.iface 93 v) 109 93 true).run Try.prog w = .ok (.tuple #[v, .bool true]) w := fun _ _ => by kernel_rfl
  go_enter Try.func35, Try.ntmps35
  go_wp2
  go_ret
  exact ⟨rfl, rfl⟩
theorem ew_call (q : Addr) (w : World) : EW w (.iface 96 (.pointer (some q))) false := by
  unfold EW
  have h53 : ∀ (v : Value) (w : World), (Instr.typeAssert (.iface 96 v) 109 53 true).run Try.prog w = .ok (.tuple #[.pointer none, .bool false]) w := fun _ _ => by kernel_rfl
  have h104 : ∀ (v : Value) (w : World), (Instr.typeAssert (.iface 96 v) 109 104 true).run Try.prog w = .ok (.tuple #[.pointer none, .bool false]) w := fun _ _ => by kernel_rfl
  have h90 : ∀ (v : Value) (w : World), (Instr.typeAssert (.iface 96 v) 109 90 true).run Try.prog w = .ok (.tuple #[.pointer none, .bool false]) w := fun _ _ => by kernel_rfl
  have h93 : ∀ (v : Value) (w : World), (Instr.typeAssert (.iface 96 v) 109 93 true).run Try.prog w = .ok (.tuple #[.pointer none, .bool false]) w := fun _ _ => by kernel_rfl
  go_enter Try.func35, Try.ntmps35
  go_wp2
  go_ret
  exact ⟨rfl, rfl⟩
theorem ew_block (q : Addr) (w : World) : EW w (.iface 101 (.pointer (some q))) false := by
  unfold EW
  have h53 : ∀ (v : Value) (w : World), (Instr.typeAssert (.iface 101 v) 109 53 true).run Try.prog w = .ok (.tuple #[.pointer none, .bool false]) w := fun _ _ => by kernel_rfl
  have h104 : ∀ (v : Value) (w : World), (Instr.typeAssert (.iface 101 v) 109 104 true).run Try.prog w = .ok (.tuple #[.pointer none, .bool false]) w := fun _ _ => by kernel_rfl
  have h90 : ∀ (v : Value) (w : World), (Instr.typeAssert (.iface 101 v) 109 90 true).run Try.prog w = .ok (.tuple #[.pointer none, .bool false]) w := fun _ _ => by kernel_rfl
  have h93 : ∀ (v : Value) (w : World), (Instr.typeAssert (.iface 101 v) 109 93 true).run Try.prog w = .ok (.tuple #[.pointer none, .bool false]) w := fun _ _ => by kernel_rfl
  go_enter Try.func35, Try.ntmps35
  go_wp2
  go_ret
  exact ⟨rfl, rfl⟩
theorem sw_stmt (b : Nat) (cmd : Value) (s : Bool) (w : World) (h1 : w.cell? ⟨b, 1, none⟩ = some cmd) (hc : SW w cmd s) : SW w (.iface 53 (.pointer (some ⟨b, 0, none⟩))) s := by
  have HC := Lib.hid hc
  clear hc
  unfold SW
  have h53 : ∀ (v : Value) (w : World), (Instr.typeAssert (.iface 53 v) 109 53 true).run Try.prog w = .ok (.tuple #[v, .bool true]) w := fun _ _ => by kernel_rfl
  have h104 : ∀ (v : Value) (w : World), (Instr.typeAssert (.iface 53 v) 109 104 true).run Try.prog w = .ok (.tuple #[.pointer none, .bool false]) w := fun _ _ => by kernel_rfl
  have h90 : ∀ (v : Value) (w : World), (Instr.typeAssert (.iface 53 v) 109 90 true).run Try.prog w = .ok (.tuple #[.pointer none, .bool false]) w := fun _ _ => by kernel_rfl
  have h93 : ∀ (v : Value) (w : World), (Instr.typeAssert (.iface 53 v) 109 93 true).run Try.prog w = .ok (.tuple #[.pointer none, .bool false]) w := fun _ _ => by kernel_rfl
  go_enter Try.func36, Try.ntmps36
  go_wp2_with fail
  refine Calls.mono (show Calls Try.prog 36 #[cmd] w fun e w' => e = .returned (.bool s) ∧ w = w' from HC.out) ?_
  rintro e w' ⟨rfl, rfl⟩
  go_wp2
  go_ret
  exact ⟨rfl, rfl⟩
theorem sw_bin (q x : Nat) (s : Bool) (w : World) (h1 : w.cell? ⟨q, 3, none⟩ = some (.pointer (some ⟨x, 0, none⟩))) (hc : SW w (.iface 53 (.pointer (some ⟨x, 0, none⟩))) s) : SW w (.iface 104 (.pointer (some ⟨q, 0, none⟩))) s := by
  have HC := Lib.hid hc
  clear hc
  unfold SW
  have h53 : ∀ (v : Value) (w : World), (Instr.typeAssert (.iface 104 v) 109 53 true).run Try.prog w = .ok (.tuple #[.pointer none, .bool false]) w := fun _ _ => by kernel_rfl
  have h104 : ∀ (v : Value) (w : World), (Instr.typeAssert (.iface 104 v) 109 104 true).run Try.prog w = .ok (.tuple #[v, .bool true]) w := fun _ _ => by kernel_rfl
  have h90 : ∀ (v : Value) (w : World), (Instr.typeAssert (.iface 104 v) 109 90 true).run Try.prog w = .ok (.tuple #[.pointer none, .bool false]) w := fun _ _ => by kernel_rfl
  have h93 : ∀ (v : Value) (w : World), (Instr.typeAssert (.iface 104 v) 109 93 true).run Try.prog w = .ok (.tuple #[.pointer none, .bool false]) w := fun _ _ => by kernel_rfl
  go_enter Try.func36, Try.ntmps36
  go_wp2_with fail
  refine Calls.mono (show Calls Try.prog 36 #[.iface 53 (.pointer (some ⟨x, 0, none⟩))] w fun e w' => e = .returned (.bool s) ∧ w = w' from HC.out) ?_
  rintro e w' ⟨rfl, rfl⟩
  go_wp2
  go_ret
  exact ⟨rfl, rfl⟩
theorem ew_bin (q x : Nat) (s : Bool) (w : World) (h1 : w.cell? ⟨q, 4, none⟩ = some (.pointer (some ⟨x, 0, none⟩))) (hc : EW w (.iface 53 (.pointer (some ⟨x, 0, none⟩))) s) : EW w (.iface 104 (.pointer (some ⟨q, 0, none⟩))) s := by
  have HC := Lib.hid hc
  clear hc
  unfold EW
  have h53 : ∀ (v : Value) (w : World), (Instr.typeAssert (.iface 104 v) 109 53 true).run Try.prog w = .ok (.tuple #[.pointer none, .bool false]) w := fun _ _ => by kernel_rfl
  have h104 : ∀ (v : Value) (w : World), (Instr.typeAssert (.iface 104 v) 109 104 true).run Try.prog w = .ok (.tuple #[v, .bool true]) w := fun _ _ => by kernel_rfl
  have h90 : ∀ (v : Value) (w : World), (Instr.typeAssert (.iface 104 v) 109 90 true).run Try.prog w = .ok (.tuple #[.pointer none, .bool false]) w := fun _ _ => by kernel_rfl
  have h93 : ∀ (v : Value) (w : World), (Instr.typeAssert (.iface 104 v) 109 93 true).run Try.prog w = .ok (.tuple #[.pointer none, .bool false]) w := fun _ _ => by kernel_rfl
  go_enter Try.func35, Try.ntmps35
  go_wp2_with fail
  refine Calls.mono (show Calls Try.prog 35 #[.iface 53 (.pointer (some ⟨x, 0, none⟩))] w fun e w' => e = .returned (.bool s) ∧ w = w' from HC.out) ?_
  rintro e w' ⟨rfl, rfl⟩
  go_wp2
  go_ret
  exact ⟨rfl, rfl⟩
theorem ew_f1 (b : Nat) (cmd : Value) (ra : Option Addr) (rn rc : Nat) (s : Bool) (cop : Bool) (dis : Bool) (w : World) (c1 : w.cell? ⟨b, 1, none⟩ = some cmd) (c7 : w.cell? ⟨b, 7, none⟩ = some (.bool true)) (c8 : w.cell? ⟨b, 8, none⟩ = some (.bool cop)) (c9 : w.cell? ⟨b, 9, none⟩ = some (.bool dis)) (c10 : w.cell? ⟨b, 10, none⟩ = some (.slice ra rn rc))  : EW w (.iface 53 (.pointer (some ⟨b, 0, none⟩))) false := by
  unfold EW
  have h53 : ∀ (v : Value) (w : World), (Instr.typeAssert (.iface 53 v) 109 53 true).run Try.prog w = .ok (.tuple #[v, .bool true]) w := fun _ _ => by kernel_rfl
  have h104 : ∀ (v : Value) (w : World), (Instr.typeAssert (.iface 53 v) 109 104 true).run Try.prog w = .ok (.tuple #[.pointer none, .bool false]) w := fun _ _ => by kernel_rfl
  have h90 : ∀ (v : Value) (w : World), (Instr.typeAssert (.iface 53 v) 109 90 true).run Try.prog w = .ok (.tuple #[.pointer none, .bool false]) w := fun _ _ => by kernel_rfl
  have h93 : ∀ (v : Value) (w : World), (Instr.typeAssert (.iface 53 v) 109 93 true).run Try.prog w = .ok (.tuple #[.pointer none, .bool false]) w := fun _ _ => by kernel_rfl
  go_enter Try.func35, Try.ntmps35
  go_wp2
  go_ret
  exact ⟨rfl, rfl⟩
theorem ew_f2 (b : Nat) (cmd : Value) (ra : Option Addr) (rn rc : Nat) (s : Bool) (dis : Bool) (w : World) (c1 : w.cell? ⟨b, 1, none⟩ = some cmd) (c7 : w.cell? ⟨b, 7, none⟩ = some (.bool false)) (c8 : w.cell? ⟨b, 8, none⟩ = some (.bool true)) (c9 : w.cell? ⟨b, 9, none⟩ = some (.bool dis)) (c10 : w.cell? ⟨b, 10, none⟩ = some (.slice ra rn rc))  : EW w (.iface 53 (.pointer (some ⟨b, 0, none⟩))) false := by
  unfold EW
  have h53 : ∀ (v : Value) (w : World), (Instr.typeAssert (.iface 53 v) 109 53 true).run Try.prog w = .ok (.tuple #[v, .bool true]) w := fun _ _ => by kernel_rfl
  have h104 : ∀ (v : Value) (w : World), (Instr.typeAssert (.iface 53 v) 109 104 true).run Try.prog w = .ok (.tuple #[.pointer none, .bool false]) w := fun _ _ => by kernel_rfl
  have h90 : ∀ (v : Value) (w : World), (Instr.typeAssert (.iface 53 v) 109 90 true).run Try.prog w = .ok (.tuple #[.pointer none, .bool false]) w := fun _ _ => by kernel_rfl
  have h93 : ∀ (v : Value) (w : World), (Instr.typeAssert (.iface 53 v) 109 93 true).run Try.prog w = .ok (.tuple #[.pointer none, .bool false]) w := fun _ _ => by kernel_rfl
  go_enter Try.func35, Try.ntmps35
  go_wp2
  go_ret
  exact ⟨rfl, rfl⟩
theorem ew_f3 (b : Nat) (cmd : Value) (ra : Option Addr) (rn rc : Nat) (s : Bool)  (w : World) (c1 : w.cell? ⟨b, 1, none⟩ = some cmd) (c7 : w.cell? ⟨b, 7, none⟩ = some (.bool false)) (c8 : w.cell? ⟨b, 8, none⟩ = some (.bool false)) (c9 : w.cell? ⟨b, 9, none⟩ = some (.bool true)) (c10 : w.cell? ⟨b, 10, none⟩ = some (.slice ra rn rc))  : EW w (.iface 53 (.pointer (some ⟨b, 0, none⟩))) false := by
  unfold EW
  have h53 : ∀ (v : Value) (w : World), (Instr.typeAssert (.iface 53 v) 109 53 true).run Try.prog w = .ok (.tuple #[v, .bool true]) w := fun _ _ => by kernel_rfl
  have h104 : ∀ (v : Value) (w : World), (Instr.typeAssert (.iface 53 v) 109 104 true).run Try.prog w = .ok (.tuple #[.pointer none, .bool false]) w := fun _ _ => by kernel_rfl
  have h90 : ∀ (v : Value) (w : World), (Instr.typeAssert (.iface 53 v) 109 90 true).run Try.prog w = .ok (.tuple #[.pointer none, .bool false]) w := fun _ _ => by kernel_rfl
  have h93 : ∀ (v : Value) (w : World), (Instr.typeAssert (.iface 53 v) 109 93 true).run Try.prog w = .ok (.tuple #[.pointer none, .bool false]) w := fun _ _ => by kernel_rfl
  go_enter Try.func35, Try.ntmps35
  go_wp2
  go_ret
  exact ⟨rfl, rfl⟩
theorem ew_f4 (b : Nat) (cmd : Value) (ra : Option Addr) (rn rc : Nat) (s : Bool)  (w : World) (c1 : w.cell? ⟨b, 1, none⟩ = some cmd) (c7 : w.cell? ⟨b, 7, none⟩ = some (.bool false)) (c8 : w.cell? ⟨b, 8, none⟩ = some (.bool false)) (c9 : w.cell? ⟨b, 9, none⟩ = some (.bool false)) (c10 : w.cell? ⟨b, 10, none⟩ = some (.slice ra rn rc)) (hr : 0 < rn) : EW w (.iface 53 (.pointer (some ⟨b, 0, none⟩))) false := by
  unfold EW
  have h53 : ∀ (v : Value) (w : World), (Instr.typeAssert (.iface 53 v) 109 53 true).run Try.prog w = .ok (.tuple #[v, .bool true]) w := fun _ _ => by kernel_rfl
  have h104 : ∀ (v : Value) (w : World), (Instr.typeAssert (.iface 53 v) 109 104 true).run Try.prog w = .ok (.tuple #[.pointer none, .bool false]) w := fun _ _ => by kernel_rfl
  have h90 : ∀ (v : Value) (w : World), (Instr.typeAssert (.iface 53 v) 109 90 true).run Try.prog w = .ok (.tuple #[.pointer none, .bool false]) w := fun _ _ => by kernel_rfl
  have h93 : ∀ (v : Value) (w : World), (Instr.typeAssert (.iface 53 v) 109 93 true).run Try.prog w = .ok (.tuple #[.pointer none, .bool false]) w := fun _ _ => by kernel_rfl
  have k1 : (0 : Int) < (rn : Int) := by omega
  go_enter Try.func35, Try.ntmps35
  go_wp2
  go_ret
  exact ⟨rfl, rfl⟩
theorem ew_f0 (b : Nat) (cmd : Value) (ra : Option Addr) (rn rc : Nat) (s : Bool) (w : World) (c1 : w.cell? ⟨b, 1, none⟩ = some cmd) (c7 : w.cell? ⟨b, 7, none⟩ = some (.bool false)) (c8 : w.cell? ⟨b, 8, none⟩ = some (.bool false)) (c9 : w.cell? ⟨b, 9, none⟩ = some (.bool false)) (c10 : w.cell? ⟨b, 10, none⟩ = some (.slice ra rn rc)) (hr : rn = 0) (hc : EW w cmd s) : EW w (.iface 53 (.pointer (some ⟨b, 0, none⟩))) s := by
  have HC := Lib.hid hc
  clear hc
  subst hr
  unfold EW
  have h53 : ∀ (v : Value) (w : World), (Instr.typeAssert (.iface 53 v) 109 53 true).run Try.prog w = .ok (.tuple #[v, .bool true]) w := fun _ _ => by kernel_rfl
  have h104 : ∀ (v : Value) (w : World), (Instr.typeAssert (.iface 53 v) 109 104 true).run Try.prog w = .ok (.tuple #[.pointer none, .bool false]) w := fun _ _ => by kernel_rfl
  have h90 : ∀ (v : Value) (w : World), (Instr.typeAssert (.iface 53 v) 109 90 true).run Try.prog w = .ok (.tuple #[.pointer none, .bool false]) w := fun _ _ => by kernel_rfl
  have h93 : ∀ (v : Value) (w : World), (Instr.typeAssert (.iface 53 v) 109 93 true).run Try.prog w = .ok (.tuple #[.pointer none, .bool false]) w := fun _ _ => by kernel_rfl
  go_enter Try.func35, Try.ntmps35
  go_wp2_with fail
  refine Calls.mono (show Calls Try.prog 35 #[cmd] w fun e w' => e = .returned (.bool s) ∧ w = w' from HC.out) ?_
  rintro e w' ⟨rfl, rfl⟩
  go_wp2
  go_ret
  exact ⟨rfl, rfl⟩
/-- A statement's block: its command, and whether it bears one of the four modifiers. -/
structure Hd (w : World) (b : Nat) (cmd : Value) (fl : Bool) : Prop where
  ex : ∃ cs fz bg cop dis ra rn rc, w.heap[b]? = some (.cells cs 84 fz) ∧ cs[1]? = some cmd ∧ cs[7]? = some (.bool bg) ∧ cs[8]? = some (.bool cop) ∧ cs[9]? = some (.bool dis) ∧ cs[10]? = some (.slice ra rn rc) ∧ fl = (bg || cop || dis || decide (0 < rn))
theorem cell_heap {w : World} {b : Nat} {cs : Array Value} {T : TypeId} {fz : Nat × Nat} (h : w.heap[b]? = some (.cells cs T fz)) (k : Nat) : w.cell? ⟨b, k, none⟩ = cs[k]? := by
  unfold World.cell?
  rw [h]
  rfl
theorem Hd.ew {w : World} {b : Nat} {cmd : Value} {fl s : Bool} (h : Hd w b cmd fl) (hc : EW w cmd s) : EW w (.iface 53 (.pointer (some ⟨b, 0, none⟩))) (s && !fl) := by
  obtain ⟨cs, fz, bg, cop, dis, ra, rn, rc, hh, h1, h7, h8, h9, h10, rfl⟩ := h.ex
  have c1 := (cell_heap hh 1).trans h1
  have c7 := (cell_heap hh 7).trans h7
  have c8 := (cell_heap hh 8).trans h8
  have c9 := (cell_heap hh 9).trans h9
  have c10 := (cell_heap hh 10).trans h10
  cases bg with
  | true => simpa using ew_f1 b cmd ra rn rc s cop dis w c1 c7 c8 c9 c10
  | false =>
    cases cop with
    | true => simpa using ew_f2 b cmd ra rn rc s dis w c1 c7 c8 c9 c10
    | false =>
      cases dis with
      | true => simpa using ew_f3 b cmd ra rn rc s w c1 c7 c8 c9 c10
      | false =>
        by_cases hr : 0 < rn
        · have e : (s && !(false || false || false || decide (0 < rn))) = false := by simp [hr]
          rw [e]
          exact ew_f4 b cmd ra rn rc s w c1 c7 c8 c9 c10 hr
        · have e : (s && !(false || false || false || decide (0 < rn))) = s := by simp [hr]
          rw [e]
          exact ew_f0 b cmd ra rn rc s w c1 c7 c8 c9 c10 (by omega) hc
theorem Hd.sw {w : World} {b : Nat} {cmd : Value} {fl s : Bool} (h : Hd w b cmd fl) (hc : SW w cmd s) : SW w (.iface 53 (.pointer (some ⟨b, 0, none⟩))) s := by
  obtain ⟨cs, fz, bg, cop, dis, ra, rn, rc, hh, h1, _⟩ := h.ex
  exact sw_stmt b cmd s w ((cell_heap hh 1).trans h1) hc
inductive Leaf : Value → Bool → Prop
  | nil : Leaf .nilIface false
  | sub (q : Addr) : Leaf (.iface 90 (.pointer (some q))) true
  | ar (q : Addr) : Leaf (.iface 93 (.pointer (some q))) true
  | call (q : Addr) : Leaf (.iface 96 (.pointer (some q))) false
  | block (q : Addr) : Leaf (.iface 101 (.pointer (some q))) false
theorem Leaf.sw {v : Value} {s : Bool} (h : Leaf v s) (w : World) : SW w v s := by
  cases h with
  | nil => exact sw_nil w
  | sub q => exact sw_sub q w
  | ar q => exact sw_ar q w
  | call q => exact sw_call q w
  | block q => exact sw_block q w
theorem Leaf.ew {v : Value} {s : Bool} (h : Leaf v s) (w : World) : EW w v s := by
  cases h with
  | nil => exact ew_nil w
  | sub q => exact ew_sub q w
  | ar q => exact ew_ar q w
  | call q => exact ew_call q w
  | block q => exact ew_block q w
/-- The block of an '&&'. -/
structure BinAt (w : World) (q x y : Nat) : Prop where
  ex : ∃ cs fz, w.heap[q]? = some (.cells cs 107 fz) ∧ cs[3]? = some (.pointer (some ⟨x, 0, none⟩)) ∧ cs[4]? = some (.pointer (some ⟨y, 0, none⟩))
/-- A tree of statements in memory: what startsWithLparen and endsWithRparen answer on it. -/
inductive Rp (w : World) : Nat → Bool → Bool → Prop
  | leaf (b : Nat) (cmd : Value) (fl s : Bool) (h : Hd w b cmd fl) (hc : Leaf cmd s) : Rp w b s (s && !fl)
  | bin (b q x y : Nat) (fl sx ex sy ey : Bool) (h : Hd w b (.iface 104 (.pointer (some ⟨q, 0, none⟩))) fl) (hq : BinAt w q x y) (hx : Rp w x sx ex) (hy : Rp w y sy ey) : Rp w b sx (ey && !fl)
theorem Rp.both {w : World} {b : Nat} {s e : Bool} (h : Rp w b s e) : SW w (.iface 53 (.pointer (some ⟨b, 0, none⟩))) s ∧ EW w (.iface 53 (.pointer (some ⟨b, 0, none⟩))) e := by
  induction h with
  | leaf b cmd fl s h hc => exact ⟨h.sw (hc.sw w), h.ew (hc.ew w)⟩
  | bin b q x y fl sx ex sy ey h hq hx hy ihx ihy =>
    obtain ⟨cs, fz, hh, h3, h4⟩ := hq.ex
    exact ⟨h.sw (sw_bin q x sx w ((cell_heap hh 3).trans h3) ihx.1), h.ew (ew_bin q y ey w ((cell_heap hh 4).trans h4) ihy.2)⟩
/-- The blocks of statements and of '&&' are kept. -/
structure Kp (w w' : World) : Prop where
  st : ∀ (b : Nat) (cs : Array Value) (fz : Nat × Nat), w.heap[b]? = some (.cells cs 84 fz) → w'.heap[b]? = some (.cells cs 84 fz)
  bn : ∀ (b : Nat) (cs : Array Value) (fz : Nat × Nat), w.heap[b]? = some (.cells cs 107 fz) → w'.heap[b]? = some (.cells cs 107 fz)
theorem Kp.refl (w : World) : Kp w w := ⟨fun _ _ _ h => h, fun _ _ _ h => h⟩
theorem Kp.trans {a b c : World} (h : Kp a b) (g : Kp b c) : Kp a c := ⟨fun k cs fz e => g.st k cs fz (h.st k cs fz e), fun k cs fz e => g.bn k cs fz (h.bn k cs fz e)⟩
theorem lt_heap {w : World} {b : Nat} {o : Obj} (h : w.heap[b]? = some o) : b < w.heap.size := by
  rcases Nat.lt_or_ge b w.heap.size with h1 | h1
  · exact h1
  · rw [Array.getElem?_eq_none h1] at h; cases h
theorem Kp.ofBelow {w w' : World} (h : Below w.heap.size w w') : Kp w w' := ⟨fun b cs fz e => (h.block b (lt_heap e)).trans e, fun b cs fz e => (h.block b (lt_heap e)).trans e⟩
theorem Hd.keep {w w' : World} {b : Nat} {cmd : Value} {fl : Bool} (h : Hd w b cmd fl) (k : Kp w w') : Hd w' b cmd fl := by
  obtain ⟨cs, fz, bg, cop, dis, ra, rn, rc, hh, r⟩ := h.ex
  exact ⟨cs, fz, bg, cop, dis, ra, rn, rc, k.st b cs fz hh, r⟩
theorem Rp.keep {w w' : World} {b : Nat} {s e : Bool} (h : Rp w b s e) (k : Kp w w') : Rp w' b s e := by
  induction h with
  | leaf b cmd fl s h hc => exact Rp.leaf b cmd fl s (h.keep k) hc
  | bin b q x y fl sx ex sy ey h hq hx hy ihx ihy =>
    obtain ⟨cs, fz, hh, h3, h4⟩ := hq.ex
    exact Rp.bin b q x y fl sx ex sy ey (h.keep k) ⟨cs, fz, k.bn q cs fz hh, h3, h4⟩ ihx ihy
end Go.Proofs.Ytccnpgmceoojmad.bld
