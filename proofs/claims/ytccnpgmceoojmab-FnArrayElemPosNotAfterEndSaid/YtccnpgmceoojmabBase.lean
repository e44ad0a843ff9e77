/-
  Small lemmas for the walks of this seat: what an operation that gives a value leaves, a great struct laid as one block, endings.
-/
import Derived.Test.YtccnpgmceoojmabRows
import Derived.WalkKit
import Derived.Handy
import Derived.ProofKit
import Derived.Below
import Derived.Outline
import Derived.RegionTactic
import Derived.Deep.QuietTactic
import Derived.BigQuiet
import Derived.Lib.Hide
import Derived.Laws.Tables
import Derived.Laws.Rows
import Derived.IntWalk
import Derived.OpenShut
import Derived.Deep.RegionHeld3
namespace Go.Proofs.Ytccnpgmceoojmab
open Go.RowKit

theorem ret_bool {a b : Bool} (h : a = b) : Ending.returned (.bool a) = .returned (.bool b) := by rw [h]
theorem ret_int {k : IntKind} {a b : Int} (h : a = b) : Ending.returned (.int k a) = .returned (.int k b) := by rw [h]

/-- An operation whose run is known: it gives a value. -/
theorem wpList_value {P : Program} {ops : Array Oper} {rest : List Oper} {o : Oper} {a : Act} {w : World} {Q : Exit → Act → World → Prop} (hg : o.guard = none) (v : Value) (w' : World)
    (hrun : (execOp a.eval o).run P w = .ok (.value v) w') (h : wpList P ops Q rest (a.put o.dst v) w') : wpList P ops Q (o :: rest) a w :=
  wpList_plain hg fun _ hK => by
    unfold Oper.wp
    rw [hrun]
    exact hK _ _ h

/-- The cells of a struct value built of some of its fields. -/
def bigS (P : Program) (t : TypeId) (parts : List (Nat × Value)) : Array Value := (P.built t parts).getD #[]

/-- A new block's cell. -/
theorem cell_new (w : World) (cs : Array Value) (t : TypeId) (k : Nat) : (w.alloc (.cells cs t)).cell? ⟨w.heap.size, k, none⟩ = cs[k]? := by
  have h := heap_alloc_new w (.cells cs t)
  unfold World.cell?
  rw [h]
  rfl
theorem frozen_new (w : World) (cs : Array Value) (t : TypeId) (k : Nat) : (w.alloc (.cells cs t)).frozen? ⟨w.heap.size, k, none⟩ = false := by
  have h := heap_alloc_new w (.cells cs t)
  unfold World.frozen?
  rw [h]
  simp
theorem bcell {W w1 : World} (hb : Below W.heap.size W w1) : (∀ b o, b < W.heap.size → w1.cell? ⟨b, o, none⟩ = W.cell? ⟨b, o, none⟩) ∧ (∀ b o, b < W.heap.size → w1.frozen? ⟨b, o, none⟩ = W.frozen? ⟨b, o, none⟩) :=
  ⟨fun b o h => hb.cell (p := ⟨b, o, none⟩) h, fun b o h => hb.frozen (p := ⟨b, o, none⟩) h⟩
theorem lt_of_cell {w : World} {b o : Nat} {v : Value} (h : w.cell? ⟨b, o, none⟩ = some v) : b < w.heap.size := by
  rcases Nat.lt_or_ge b w.heap.size with h1 | h1
  · exact h1
  · have e : w.heap[b]? = none := Array.getElem?_eq_none h1
    unfold World.cell? at h
    rw [e] at h
    exact absurd h (by simp)
theorem cell_later {w wx : World} {a : Addr} {v : Value} (hb : Below w.heap.size w wx) (h : w.cell? a = some v) : wx.cell? a = some v := (hb.cell (World.block_lt_of_cell? _ _ h)).trans h
/-- The world is put behind what is known of it. -/
theorem wp_world {P : Program} {code : Code} {Q : Exit → Act → World → Prop} {a : Act} {w : World} (S : World → Prop) (hS : S w) (h : ∀ W, S W → Code.wp P code Q a W) : Code.wp P code Q a w := h w hS
theorem lts {b n : Nat} (h : b < n) : b < n + 1 ∧ b < n + 1 + 1 ∧ b < n + 1 + 1 + 1 ∧ b < n + 1 + 1 + 1 + 1 ∧ b < n + 1 + 1 + 1 + 1 + 1 ∧ b < n + 1 + 1 + 1 + 1 + 1 + 1 ∧ b < n + 1 + 1 + 1 + 1 + 1 + 1 + 1 ∧ b < n + 1 + 1 + 1 + 1 + 1 + 1 + 1 + 1 ∧ b < n + 1 + 1 + 1 + 1 + 1 + 1 + 1 + 1 + 1 ∧ b < n + 1 + 1 + 1 + 1 + 1 + 1 + 1 + 1 + 1 + 1 ∧ b < n + 1 + 1 + 1 + 1 + 1 + 1 + 1 + 1 + 1 + 1 + 1 ∧ b < n + 1 + 1 + 1 + 1 + 1 + 1 + 1 + 1 + 1 + 1 + 1 + 1 ∧ b < n + 1 + 1 + 1 + 1 + 1 + 1 + 1 + 1 + 1 + 1 + 1 + 1 + 1 ∧ b < n + 1 + 1 + 1 + 1 + 1 + 1 + 1 + 1 + 1 + 1 + 1 + 1 + 1 + 1 ∧ b < n + 1 + 1 + 1 + 1 + 1 + 1 + 1 + 1 + 1 + 1 + 1 + 1 + 1 + 1 + 1 ∧ b < n + 1 + 1 + 1 + 1 + 1 + 1 + 1 + 1 + 1 + 1 + 1 + 1 + 1 + 1 + 1 + 1 ∧ b < n + 1 + 1 + 1 + 1 + 1 + 1 + 1 + 1 + 1 + 1 + 1 + 1 + 1 + 1 + 1 + 1 + 1 ∧ b < n + 1 + 1 + 1 + 1 + 1 + 1 + 1 + 1 + 1 + 1 + 1 + 1 + 1 + 1 + 1 + 1 + 1 + 1 ∧ b < n + 1 + 1 + 1 + 1 + 1 + 1 + 1 + 1 + 1 + 1 + 1 + 1 + 1 + 1 + 1 + 1 + 1 + 1 + 1 ∧ b < n + 1 + 1 + 1 + 1 + 1 + 1 + 1 + 1 + 1 + 1 + 1 + 1 + 1 + 1 + 1 + 1 + 1 + 1 + 1 + 1 := by
  refine ⟨?_, ?_, ?_, ?_, ?_, ?_, ?_, ?_, ?_, ?_, ?_, ?_, ?_, ?_, ?_, ?_, ?_, ?_, ?_, ?_⟩ <;> omega
theorem below_drewN {B : Nat} {a w : World} (h : Below B a w) (n : Nat) : Below B a (w.drewN n) := ⟨h.os, h.tape, h.output, h.size, h.block⟩
end Go.Proofs.Ytccnpgmceoojmab
