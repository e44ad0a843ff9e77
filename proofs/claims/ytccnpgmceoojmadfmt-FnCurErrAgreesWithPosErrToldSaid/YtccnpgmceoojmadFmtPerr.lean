/-
  The parser's posErr: the first error is kept, with its position and whether more input could have avoided it.
-/
import Derived.Test.YtccnpgmceoojmadFmtBaseF
import Derived.Stop.CallBack
import Derived.Stop.IfaceNil
import Derived.Stop.FmtTextLaws
import Derived.Deep.RegionHeldLaw
namespace Go.Proofs.YtccnpgmceoojmadFmt.perr
open Go.RowKit
open Go.Proofs.YtccnpgmceoojmadFmt
open Go.Extern.Stop Go.Stop Go.Extern

/-- What is known of a parser in memory. -/
structure Pst (w : World) (p fb : Nat) (name : ByteArray) (ba : Option Addr) (bn bc : Nat) (bsp r wd : Int) (err : Value) (tok po pl on : Int) (la : Option Addr) (ln lc : Nat) : Prop where
  x1 : w.cell? ⟨p, 1, none⟩ = some (.slice ba bn bc)
  x2 : w.cell? ⟨p, 2, none⟩ = some (.int .u64 bsp)
  x3 : w.cell? ⟨p, 3, none⟩ = some (.int .i32 r)
  x4 : w.cell? ⟨p, 4, none⟩ = some (.int .i64 wd)
  x5 : w.cell? ⟨p, 5, none⟩ = some (.pointer (some ⟨fb, 0, none⟩))
  x7 : w.cell? ⟨p, 7, none⟩ = some (err)
  x10 : w.cell? ⟨p, 10, none⟩ = some (.int .u32 tok)
  x15 : w.cell? ⟨p, 15, none⟩ = some (.int .u32 po)
  x16 : w.cell? ⟨p, 16, none⟩ = some (.int .u32 pl)
  x29 : w.cell? ⟨p, 29, none⟩ = some (.int .i64 on)
  x2087 : w.cell? ⟨p, 2087, none⟩ = some (.slice la ln lc)
  xf : w.cell? ⟨fb, 0, none⟩ = some (.string name)
  fz : ∀ o, w.frozen? ⟨p, o, none⟩ = false
theorem Pst.later {w wx : World} {p fb : Nat} {name : ByteArray} {ba : Option Addr} {bn bc : Nat} {bsp r wd : Int} {err : Value} {tok po pl on : Int} {la : Option Addr} {ln lc : Nat} (h : Pst w p fb name ba bn bc bsp r wd err tok po pl on la ln lc) (hb : Below w.heap.size w wx) : Pst wx p fb name ba bn bc bsp r wd err tok po pl on la ln lc :=
  ⟨cell_later hb h.x1, cell_later hb h.x2, cell_later hb h.x3, cell_later hb h.x4, cell_later hb h.x5, cell_later hb h.x7, cell_later hb h.x10, cell_later hb h.x15, cell_later hb h.x16, cell_later hb h.x29, cell_later hb h.x2087, cell_later hb h.xf, fun o => (hb.frozen (p := ⟨p, o, none⟩) (lt_of_cell h.x1)).trans (h.fz o)⟩
theorem walk0 : ∀ (fuel k : Nat) (l : List UInt8), FmtDoors.walk 0 fuel k l [] = none ∨ ∃ k', FmtDoors.walk 0 fuel k l [] = some ([], k')
  | 0, k, l => Or.inl (by unfold FmtDoors.walk; rfl)
  | fuel + 1, k, [] => Or.inr ⟨k, by unfold FmtDoors.walk; rfl⟩
  | fuel + 1, k, c :: r => by
    unfold FmtDoors.walk
    split
    · exact walk0 fuel k r
    · dsimp only
      split
      · exact Or.inl rfl
      · split
        · exact Or.inl rfl
        · exact Or.inr ⟨k, rfl⟩
        · split
          · exact Or.inl rfl
          · split
            · exact walk0 fuel k _
            · rename_i h
              exact absurd (Nat.zero_le k) (by simp at h)
theorem printed0 (f : ByteArray) : FmtStop.printed? f 0 = none ∨ FmtStop.printed? f 0 = some [] := by
  unfold FmtStop.printed?
  rcases walk0 (f.size + 1) 0 f.data.toList with h | ⟨k', h⟩
  · rw [h]; exact Or.inl rfl
  · rw [h]; exact Or.inr (by simp)
theorem guardF (name : String) (w : World) : (FmtStop.guard name).run Tryf.prog w = .ok () w := by kernel_rfl
theorem call25 (args : Array Value) (w : World) : (callFunc 25 args).run Tryf.prog w = (FmtCalls.sprintf #[9, 64] #[9] args).run Tryf.prog w :=
  run_callFunc_next Tryf.func25 (by kernel_rfl) (by kernel_rfl) (by kernel_rfl) args w
theorem nextTurns : Extern.next FmtCalls.turnsRow = some (FmtCalls.begun #[] #[]) := by kernel_rfl
/-- fmt.Sprintf with no operand, as one operation: some text, one draw. -/
theorem wp_sprintf {o : Oper} {a : Act} {w : World} {K : Act → World → Prop} {Q : Exit → Act → World → Prop} (x y : Operand) (tx ty : TypeId) (ho : o.op = .call { callee := .value (.func 25), args := #[x, y], argTypes := #[tx, ty] }) (f : ByteArray) (hx : a.eval x = .string f) (hy : a.eval y = .slice none 0 0)
    (hK : ∀ s, K (a.put o.dst (.string s)) w.drew) : o.wp Tryf.prog a w K Q := by
  have hfn : a.eval (.func 25) = .func (.func 25) #[] #[] := rfl
  unfold Oper.wp execOp
  simp only [ho, resolve, invoke, Sem.run_bind, Sem.run_pure, Result.andThen_ok, List.map_toArray, List.map_cons, List.map_nil, hfn, hx, hy]
  have hg := guardF
  rcases printed0 f with h | h
  · have hr : ∃ s, (callFunc 25 #[.string f, .slice none 0 0]).run Tryf.prog w = .ok (.value (.string s)) w.drew := by
      rw [call25, FmtCalls.sprintf_lit]
      simp [hg, h, FmtDoors.count, FmtStop.cells, FmtCalls.finish, go_sem]
    obtain ⟨s, hr⟩ := hr
    simp [Deferred.ofValue, hr]
    exact hK s
  · have hr : (callFunc 25 #[.string f, .slice none 0 0]).run Tryf.prog w = .ok (.row FmtCalls.turnsRow (FmtCalls.save 0 0 (.slice none 0 0) f [] [])) w := by
      rw [call25, FmtCalls.sprintf_lit]
      simp [hg, h, FmtDoors.count, go_sem]
    have hr2 : ∃ s, (FmtCalls.begun #[] #[] (FmtCalls.save 0 0 (.slice none 0 0) f [] [])).run Tryf.prog w = .ok (.value (.string s)) w.drew := by
      simp [FmtCalls.run_begun_save, FmtCalls.turns, FmtCalls.finish, go_sem]
    obtain ⟨s, hr2⟩ := hr2
    simp [Deferred.ofValue, hr]
    exact rows_value nextTurns hr2 (hK s)
theorem incomp (p : Nat) (on : Int) (la : Option Addr) (ln lc : Nat) (w : World) (h1 : w.cell? ⟨p, 29, none⟩ = some (.int .i64 on)) (h2 : w.cell? ⟨p, 2087, none⟩ = some (.slice la ln lc)) : Calls Tryf.prog 26 #[.pointer (some ⟨p, 0, none⟩)] w fun e w' => e = .returned (.bool (decide (0 < on) || decide (0 < ln))) ∧ w = w' := by
  by_cases k1 : 0 < on
  · go_enter Tryf.func26, Tryf.ntmps26
    go_wp2
    go_ret
    exact ⟨by simp [k1], rfl⟩
  · by_cases k2 : 0 < ln
    · have k3 : (0 : Int) < (ln : Int) := by omega
      have k4 : decide (0 < on) = false := decide_eq_false k1
      go_enter Tryf.func26, Tryf.ntmps26
      go_wp2
      go_ret
      exact ⟨by simp [k1, k2], rfl⟩
    · have k3 : ¬ (0 : Int) < (ln : Int) := by omega
      have k4 : decide (0 < on) = false := decide_eq_false k1
      have k5 : decide (0 < ln) = false := decide_eq_false k2
      go_enter Tryf.func26, Tryf.ntmps26
      go_wp2
      go_ret
      exact ⟨by simp [k1, k2], rfl⟩
set_option maxRecDepth 100000 in
theorem pass1 (p fb : Nat) (name : ByteArray) (ba : Option Addr) (bn bc : Nat) (bsp r wd : Int) (err : Value) (tok po pl on : Int) (la : Option Addr) (ln lc : Nat) (v0 : Value) (w : World) (h : Pst w p fb name ba bn bc bsp r wd .nilIface tok po pl on la ln lc) (hn : bn ≤ 1048576) :
    Calls Tryf.prog 24 #[.pointer (some ⟨p, 0, none⟩), .iface 37 v0] w fun e w' => e = .returned (.tuple #[]) ∧ ((((w.setCell ⟨p, 7, none⟩ (.iface 37 v0)).setCell ⟨p, 2, none⟩ (.int .u64 ((bn : Int) + 1))).setCell ⟨p, 3, none⟩ (.int .i32 1114112)).setCell ⟨p, 4, none⟩ (.int .i64 1)).setCell ⟨p, 10, none⟩ (.int .u32 1) = w' := by
  obtain ⟨x1, x2, x3, x4, x5, x7, x10, x15, x16, x29, x2087, xf, fz⟩ := h
  have f7 := fz 7
  have f2 := fz 2
  have f3 := fz 3
  have f4 := fz 4
  have f10 := fz 10
  have hlt := lt_of_cell x1
  clear fz
  go_enter Tryf.func24, Tryf.ntmps24
  go_wp2
  go_end0
  exact ⟨rfl, rfl⟩
theorem pass2 (p : Nat) (v0 v1 : Value) (w : World) (h : w.cell? ⟨p, 7, none⟩ = some (.iface 37 v1)) :
    Calls Tryf.prog 24 #[.pointer (some ⟨p, 0, none⟩), .iface 37 v0] w fun e w' => e = .returned (.tuple #[]) ∧ w = w' := by
  go_enter Tryf.func24, Tryf.ntmps24
  go_wp2
  go_end0
  exact ⟨rfl, rfl⟩
end Go.Proofs.YtccnpgmceoojmadFmt.perr
