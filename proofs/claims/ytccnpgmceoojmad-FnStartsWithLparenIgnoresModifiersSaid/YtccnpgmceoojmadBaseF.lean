/-
  Small lemmas for the walks of this seat: what an operation that gives a value leaves, a great struct laid as one block, endings.
-/
import Derived.Test.YtccnpgmceoojmadRows
import Derived.WalkKit
import Derived.Handy
import Derived.ProofKit
import Derived.Below
import Derived.Outline
import Derived.RegionTactic
import Derived.Deep.QuietTactic
import Derived.BigQuiet
import Derived.Lib.Hide
import Derived.Laws.Tables
import Derived.Laws.Rows
import Derived.IntWalk
import Derived.OpenShut
import Derived.Deep.RegionHeld3
import Derived.Deep.OwnRows
import Derived.WalkSpells
import Derived.WalkLawsBesides
import Derived.StillTailTactics
namespace Go.Proofs.Ytccnpgmceoojmad
open Go.RowKit

theorem ret_bool {a b : Bool} (h : a = b) : Ending.returned (.bool a) = .returned (.bool b) := by rw [h]
theorem ret_int {k : IntKind} {a b : Int} (h : a = b) : Ending.returned (.int k a) = .returned (.int k b) := by rw [h]

/-- An operation whose run is known: it gives a value. -/
theorem wpList_value {P : Program} {ops : Array Oper} {rest : List Oper} {o : Oper} {a : Act} {w : World} {Q : Exit → Act → World → Prop} (hg : o.guard = none) (v : Value) (w' : World)
    (hrun : (execOp a.eval o).run P w = .ok (.value v) w') (h : wpList P ops Q rest (a.put o.dst v) w') : wpList P ops Q (o :: rest) a w :=
  wpList_plain hg fun _ hK => by
    unfold Oper.wp
    rw [hrun]
    exact hK _ _ h

/-- The cells of a struct value built of some of its fields. -/
def bigS (P : Program) (t : TypeId) (parts : List (Nat × Value)) : Array Value := (P.built t parts).getD #[]

/-- A new block's cell. -/
theorem cell_new (w : World) (cs : Array Value) (t : TypeId) (k : Nat) : (w.alloc (.cells cs t)).cell? ⟨w.heap.size, k, none⟩ = cs[k]? := by
  have h := heap_alloc_new w (.cells cs t)
  unfold World.cell?
  rw [h]
  rfl
theorem frozen_new (w : World) (cs : Array Value) (t : TypeId) (k : Nat) : (w.alloc (.cells cs t)).frozen? ⟨w.heap.size, k, none⟩ = false := by
  have h := heap_alloc_new w (.cells cs t)
  unfold World.frozen?
  rw [h]
  simp
theorem bcell {W w1 : World} (hb : Below W.heap.size W w1) : (∀ b o, b < W.heap.size → w1.cell? ⟨b, o, none⟩ = W.cell? ⟨b, o, none⟩) ∧ (∀ b o, b < W.heap.size → w1.frozen? ⟨b, o, none⟩ = W.frozen? ⟨b, o, none⟩) :=
  ⟨fun b o h => hb.cell (p := ⟨b, o, none⟩) h, fun b o h => hb.frozen (p := ⟨b, o, none⟩) h⟩
theorem lt_of_cell {w : World} {b o : Nat} {v : Value} (h : w.cell? ⟨b, o, none⟩ = some v) : b < w.heap.size := by
  rcases Nat.lt_or_ge b w.heap.size with h1 | h1
  · exact h1
  · have e : w.heap[b]? = none := Array.getElem?_eq_none h1
    unfold World.cell? at h
    rw [e] at h
    exact absurd h (by simp)
theorem cell_later {w wx : World} {a : Addr} {v : Value} (hb : Below w.heap.size w wx) (h : w.cell? a = some v) : wx.cell? a = some v := (hb.cell (World.block_lt_of_cell? _ _ h)).trans h
/-- The world is put behind what is known of it. -/
theorem wp_world {P : Program} {code : Code} {Q : Exit → Act → World → Prop} {a : Act} {w : World} (S : World → Prop) (hS : S w) (h : ∀ W, S W → Code.wp P code Q a W) : Code.wp P code Q a w := h w hS
theorem lts {b n : Nat} (h : b < n) : b < n + 1 ∧ b < n + 1 + 1 ∧ b < n + 1 + 1 + 1 ∧ b < n + 1 + 1 + 1 + 1 ∧ b < n + 1 + 1 + 1 + 1 + 1 ∧ b < n + 1 + 1 + 1 + 1 + 1 + 1 ∧ b < n + 1 + 1 + 1 + 1 + 1 + 1 + 1 ∧ b < n + 1 + 1 + 1 + 1 + 1 + 1 + 1 + 1 ∧ b < n + 1 + 1 + 1 + 1 + 1 + 1 + 1 + 1 + 1 ∧ b < n + 1 + 1 + 1 + 1 + 1 + 1 + 1 + 1 + 1 + 1 ∧ b < n + 1 + 1 + 1 + 1 + 1 + 1 + 1 + 1 + 1 + 1 + 1 ∧ b < n + 1 + 1 + 1 + 1 + 1 + 1 + 1 + 1 + 1 + 1 + 1 + 1 ∧ b < n + 1 + 1 + 1 + 1 + 1 + 1 + 1 + 1 + 1 + 1 + 1 + 1 + 1 ∧ b < n + 1 + 1 + 1 + 1 + 1 + 1 + 1 + 1 + 1 + 1 + 1 + 1 + 1 + 1 ∧ b < n + 1 + 1 + 1 + 1 + 1 + 1 + 1 + 1 + 1 + 1 + 1 + 1 + 1 + 1 + 1 ∧ b < n + 1 + 1 + 1 + 1 + 1 + 1 + 1 + 1 + 1 + 1 + 1 + 1 + 1 + 1 + 1 + 1 ∧ b < n + 1 + 1 + 1 + 1 + 1 + 1 + 1 + 1 + 1 + 1 + 1 + 1 + 1 + 1 + 1 + 1 + 1 ∧ b < n + 1 + 1 + 1 + 1 + 1 + 1 + 1 + 1 + 1 + 1 + 1 + 1 + 1 + 1 + 1 + 1 + 1 + 1 ∧ b < n + 1 + 1 + 1 + 1 + 1 + 1 + 1 + 1 + 1 + 1 + 1 + 1 + 1 + 1 + 1 + 1 + 1 + 1 + 1 ∧ b < n + 1 + 1 + 1 + 1 + 1 + 1 + 1 + 1 + 1 + 1 + 1 + 1 + 1 + 1 + 1 + 1 + 1 + 1 + 1 + 1 := by
  refine ⟨?_, ?_, ?_, ?_, ?_, ?_, ?_, ?_, ?_, ?_, ?_, ?_, ?_, ?_, ?_, ?_, ?_, ?_, ?_, ?_⟩ <;> omega
/-- The cells of a copy of n numbers after k rounds. -/
def cpL (K : IntKind) (zs : List Int) (n k : Nat) : Array Value := ((List.range n).map fun j => Value.int K (if j < k then zs.getD j 0 else 0)).toArray
theorem cpL_get (K : IntKind) (zs : List Int) (n k j : Nat) (h : j < n) : (cpL K zs n k)[j]? = some (.int K (if j < k then zs.getD j 0 else 0)) := by
  simp [cpL, h]
theorem cpL_zero (K : IntKind) (zs : List Int) (n : Nat) : madeCells #[Value.int K 0] n = cpL K zs n 0 := by
  unfold madeCells cpL
  apply Array.ext
  · simp
  · intro i h1 h2
    simp [Nat.mod_one]
theorem cpL_set (K : IntKind) (zs : List Int) (n k : Nat) (h : k < n) : (cpL K zs n k).setIfInBounds k (.int K (zs.getD k 0)) = cpL K zs n (k + 1) := by
  unfold cpL
  apply Array.ext
  · simp
  · intro i h1 h2
    rw [Array.getElem_setIfInBounds]
    · by_cases e : k = i
      · subst e
        simp
      · have e2 : (i < k + 1) = (i < k) := by apply propext; omega
        simp [e, e2]
    · simpa using h2
/-- What is told of a slice of integers that came in. -/
def IsRowB (k : IntKind) (w : World) (a : Option Addr) (len cap : Nat) (zs : List Int) : Prop :=
  (a = none ∧ len = 0 ∧ cap = 0 ∧ zs = []) ∨
  ∃ x, a = some x ∧ len ≤ cap ∧ cap ≤ maxLen ∧ zs.length = cap ∧ (∀ i, i < zs.length → w.cell? (x.add i) = some (.int k (zs.getD i 0))) ∧ ∀ n ∈ zs, (Lit.int k n).wf = true
theorem row_at {k : IntKind} {w : World} {x : Addr} {zs : List Int} (h : ∀ i, i < zs.length → w.cell? (x.add i) = some (.int k (zs.getD i 0))) (hl : 0 < zs.length) :
    ∃ b off, x = ⟨b, off, none⟩ ∧ ∀ i, i < zs.length → w.cell? ⟨b, off + i, none⟩ = some (.int k (zs.getD i 0)) := by
  obtain ⟨b, off, spot⟩ := x
  have h0 := h 0 hl
  have hs : spot = none := by simpa [Addr.add] using World.cell?_spot h0
  subst hs
  refine ⟨b, off, rfl, fun i hi => ?_⟩
  have h1 := h i hi
  have e : (⟨b, off, none⟩ : Addr).add i = ⟨b, off + i, none⟩ := by unfold Addr.add; split <;> simp_all
  rw [e] at h1
  exact h1
theorem below_next {W X w' : World} (h : Below W.heap.size W X) (hb : Below X.heap.size X w') : Below W.heap.size W w' := Below.trans h (Below.mono hb h.size)
theorem below_drewN {B : Nat} {a w : World} (h : Below B a w) (n : Nat) : Below B a (w.drewN n) := ⟨h.os, h.tape, h.output, h.size, h.block⟩
def RowAt (K : IntKind) (w : World) (g len : Nat) (zs : List Int) : Prop := ∀ i, i < len → w.cell? ⟨g, i, none⟩ = some (.int K (zs.getD i 0))
theorem RowAt.later {K : IntKind} {w wx : World} {g len : Nat} {zs : List Int} (h : RowAt K w g len zs) (hb : Below w.heap.size w wx) : RowAt K wx g len zs := fun i hi => cell_later hb (h i hi)
theorem RowAt.copy (K : IntKind) (w : World) (E len : Nat) (zs : List Int) : RowAt K (w.alloc (.cells (cpL K zs len len) E)) w.heap.size len zs := fun i hi => by
  rw [cell_new, cpL_get K zs len len i hi]
  simp [hi]
theorem then_world {K Q : _} {e : Exit} {a : Act} {w : World} (S : World → Prop) (hS : S w) (h : ∀ W, S W → Exit.then K Q e a W) : Exit.then K Q e a w := h w hS
theorem calls_world {P : Program} {f : FuncId} {args : Array Value} {w : World} {Q : Ending → World → Prop} (S : World → Prop) (hS : S w) (h : ∀ W, S W → Calls P f args W Q) : Calls P f args w Q := h w hS
theorem ret_pos {a b c d : Int} (h : a = c) (h' : b = d) : Ending.returned (.agg #[.int .u32 a, .int .u32 b]) = .returned (.agg #[.int .u32 c, .int .u32 d]) := by rw [h, h']
end Go.Proofs.Ytccnpgmceoojmad
