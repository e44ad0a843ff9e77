/-
  simple, one way through its tests each.
-/
import Derived.Test.YtccnpgmceoojmadPexp
namespace Go.Proofs.Ytccnpgmceoojmad.simp
open Go.RowKit

set_option maxRecDepth 100000 in
set_option maxHeartbeats 4000000 in
theorem s0 (p : Nat)  (w : World) (c0 : w.cell? ⟨p, 13, none⟩ = some (.pointer none)) :
    Calls Try.prog 23 #[.pointer (some ⟨p, 0, none⟩)] w fun e w' => e = .returned (.bool false) ∧ w = w' := by
  go_enter Try.func23, Try.ntmps23
  go_wp2
  go_ret
  exact ⟨rfl, rfl⟩
set_option maxRecDepth 100000 in
set_option maxHeartbeats 4000000 in
theorem s4 (p : Nat) (q0 : Addr) (w : World) (c0 : w.cell? ⟨p, 13, none⟩ = some (.pointer (some q0))) (c1 : w.cell? ⟨p, 5, none⟩ = some (.pointer none)) (c2 : w.cell? ⟨p, 6, none⟩ = some (.bool false)) (c3 : w.cell? ⟨p, 7, none⟩ = some (.bool false)) (c4 : w.cell? ⟨p, 8, none⟩ = some (.bool true)) :
    Calls Try.prog 23 #[.pointer (some ⟨p, 0, none⟩)] w fun e w' => e = .returned (.bool false) ∧ w = w' := by
  go_enter Try.func23, Try.ntmps23
  go_wp2
  go_ret
  exact ⟨rfl, rfl⟩
set_option maxRecDepth 100000 in
set_option maxHeartbeats 4000000 in
theorem s8 (p : Nat) (q0 : Addr) (z : Int) (w : World) (c0 : w.cell? ⟨p, 13, none⟩ = some (.pointer (some q0))) (c1 : w.cell? ⟨p, 5, none⟩ = some (.pointer none)) (c2 : w.cell? ⟨p, 6, none⟩ = some (.bool false)) (c3 : w.cell? ⟨p, 7, none⟩ = some (.bool false)) (c4 : w.cell? ⟨p, 8, none⟩ = some (.bool false)) (c5 : w.cell? ⟨p, 9, none⟩ = some (.bool false)) (c6 : w.cell? ⟨p, 10, none⟩ = some (.int .u8 0)) (c7 : w.cell? ⟨p, 11, none⟩ = some (.int .u8 0)) (c8 : w.cell? ⟨p, 12, none⟩ = some (.int .u8 z)) (hz : (z == 0) = false) :
    Calls Try.prog 23 #[.pointer (some ⟨p, 0, none⟩)] w fun e w' => e = .returned (.bool false) ∧ w = w' := by
  go_enter Try.func23, Try.ntmps23
  go_wp2
  go_ret
  exact ⟨rfl, rfl⟩
set_option maxRecDepth 100000 in
set_option maxHeartbeats 4000000 in
theorem s12 (p : Nat) (q0 : Addr) (q12 : Addr) (w : World) (c0 : w.cell? ⟨p, 13, none⟩ = some (.pointer (some q0))) (c1 : w.cell? ⟨p, 5, none⟩ = some (.pointer none)) (c2 : w.cell? ⟨p, 6, none⟩ = some (.bool false)) (c3 : w.cell? ⟨p, 7, none⟩ = some (.bool false)) (c4 : w.cell? ⟨p, 8, none⟩ = some (.bool false)) (c5 : w.cell? ⟨p, 9, none⟩ = some (.bool false)) (c6 : w.cell? ⟨p, 10, none⟩ = some (.int .u8 0)) (c7 : w.cell? ⟨p, 11, none⟩ = some (.int .u8 0)) (c8 : w.cell? ⟨p, 12, none⟩ = some (.int .u8 0)) (c9 : w.cell? ⟨p, 14, none⟩ = some (.nilIface)) (c10 : w.cell? ⟨p, 15, none⟩ = some (.nilIface)) (c11 : w.cell? ⟨p, 16, none⟩ = some (.slice none 0 0)) (c12 : w.cell? ⟨p, 17, none⟩ = some (.pointer (some q12))) :
    Calls Try.prog 23 #[.pointer (some ⟨p, 0, none⟩)] w fun e w' => e = .returned (.bool false) ∧ w = w' := by
  go_enter Try.func23, Try.ntmps23
  go_wp2
  go_ret
  exact ⟨rfl, rfl⟩
end Go.Proofs.Ytccnpgmceoojmad.simp
