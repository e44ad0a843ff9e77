/-
  What the second loop of the let clause's law keeps: the copies, the clause and its row of expressions.
-/
import Derived.Test.YtlaihlpokpeahaaLetC
namespace Go.Proofs.Ytlaihlpokpeahaa.letc
open Go.RowKit
open Go.Proofs.Ytlaihlpokpeahaa

structure LS (n k g0 g1 g2 g3 lp L : Nat) (zo zl eo el : List Int) (lo ll : Int) (v : Value) (xs : List Value) (w : World) : Prop where
  r0 : RowAt .u32 w g0 n zo
  r1 : RowAt .u32 w g1 n zl
  r2 : RowAt .u32 w g2 n eo
  r3 : RowAt .u32 w g3 n el
  p0 : w.cell? ⟨lp, 0, none⟩ = some (.int .u32 lo)
  p1 : w.cell? ⟨lp, 1, none⟩ = some (.int .u32 ll)
  l0 : w.cell? ⟨L, 0, none⟩ = some (.int .u32 lo)
  l1 : w.cell? ⟨L, 1, none⟩ = some (.int .u32 ll)
  l2 : w.cell? ⟨L, 2, none⟩ = some v
  fz : w.frozen? ⟨L, 2, none⟩ = false
  own : w.ownsRow (L + 1) 46 1 v k xs
  sz : L + 1 ≤ w.heap.size
  ord : g0 < L ∧ g1 < L ∧ g2 < L ∧ g3 < L ∧ lp < L
theorem RowAt.copyAt (K : IntKind) (w : World) (E len : Nat) (zs : List Int) (g : Nat) (hg : w.heap.size = g) : RowAt K (w.alloc (.cells (cpL K zs len len) E)) g len zs := hg ▸ RowAt.copy K w E len zs
theorem LS.later {n k g0 g1 g2 g3 lp L : Nat} {zo zl eo el : List Int} {lo ll : Int} {v : Value} {xs : List Value} {w : World} {wx : World} (h : LS n k g0 g1 g2 g3 lp L zo zl eo el lo ll v xs w) (hb : Below w.heap.size w wx) : LS n k g0 g1 g2 g3 lp L zo zl eo el lo ll v xs wx :=
  ⟨h.r0.later hb, h.r1.later hb, h.r2.later hb, h.r3.later hb, cell_later hb h.p0, cell_later hb h.p1, cell_later hb h.l0, cell_later hb h.l1, cell_later hb h.l2, (hb.frozen (p := ⟨L, 2, none⟩) (lt_of_cell h.l2)).trans h.fz, own_later h.own hb, Nat.le_trans h.sz hb.size, h.ord⟩
theorem same_cell {w w' : World} {b k : Nat} {u : Value} (h : w'.heap[b]? = w.heap[b]?) (hc : w.cell? ⟨b, k, none⟩ = some u) : w'.cell? ⟨b, k, none⟩ = some u := (World.cell?_of_block (a := ⟨b, k, none⟩) h).trans hc
/-- What the append hands on. -/
structure After (L k : Nat) (g cap wb pb tb : Nat) (o l : Int) (w' : World) : Prop where
  a0 : w'.cell? ⟨L, 2, none⟩ = some (.slice (some ⟨g, 0, none⟩) (k + 1) cap)
  a1 : w'.cell? ⟨g, k, none⟩ = some (.iface 38 (.pointer (some ⟨wb, 0, none⟩)))
  a2 : w'.cell? ⟨wb, 0, none⟩ = some (.slice (some ⟨pb, 0, none⟩) 1 1)
  a3 : w'.cell? ⟨pb, 0, none⟩ = some (.iface 39 (.pointer (some ⟨tb, 0, none⟩)))
  a4 : w'.cell? ⟨tb, 2, none⟩ = some (.int .u32 o)
  a5 : w'.cell? ⟨tb, 3, none⟩ = some (.int .u32 l)
theorem After.later {L k g cap wb pb tb : Nat} {o l : Int} {w wx : World} (h : After L k g cap wb pb tb o l w) (hb : Below w.heap.size w wx) : After L k g cap wb pb tb o l wx :=
  ⟨cell_later hb h.a0, cell_later hb h.a1, cell_later hb h.a2, cell_later hb h.a3, cell_later hb h.a4, cell_later hb h.a5⟩
theorem LS.app {n k g0 g1 g2 g3 lp L : Nat} {zo zl eo el : List Int} {lo ll : Int} {v : Value} {xs : List Value} {w : World} {o l : Int} {e : Ending} {w' : World} {m : Nat} (h : LS n k g0 g1 g2 g3 lp L zo zl eo el lo ll v xs w) (hA : Appd L (L + 1) k o l v w e w') (hm : m ≤ L) :
    e = .returned (.tuple #[]) ∧ ∃ g cap wb pb tb xs', LS n (k + 1) g0 g1 g2 g3 lp L zo zl eo el lo ll (.slice (some ⟨g, 0, none⟩) (k + 1) cap) xs' w' ∧ After L k g cap wb pb tb o l w' ∧ (∀ b j u, v.ownBlock ≠ some b → b ≠ L → w.cell? ⟨b, j, none⟩ = some u → w'.cell? ⟨b, j, none⟩ = some u) ∧ Below m w w' := by
  obtain ⟨he, g, cap, wb, pb, tb, xs', h1, h2, h3, h4, h5, h6, h7, h8, h9, h10, h11, h12, h13, h14⟩ := hA
  obtain ⟨o0, o1, o2, o3, o4⟩ := h.ord
  have hL : L < w.heap.size := lt_of_cell h.l2
  have far : ∀ b, b < L → w'.heap[b]? = w.heap[b]? := fun b hb => h9 b (by omega) (by omega) (fun e => by have := (h.own.lt b e).1; omega)
  refine ⟨he, g, cap, wb, pb, tb, xs', ⟨fun i hi => same_cell (far _ o0) (h.r0 i hi), fun i hi => same_cell (far _ o1) (h.r1 i hi), fun i hi => same_cell (far _ o2) (h.r2 i hi), fun i hi => same_cell (far _ o3) (h.r3 i hi), same_cell (far _ o4) h.p0, same_cell (far _ o4) h.p1, (h10 0 (by omega)).trans h.l0, (h10 1 (by omega)).trans h.l1, h1, h8, h2, Nat.le_trans h.sz h11, h.ord⟩, ⟨h1, h3, h4, h5, h6, h7⟩, fun b j u hv hb hc => same_cell (h9 b (lt_of_cell hc) hb hv) hc, ⟨h12, h13, h14, h11, fun b hb => far b (by omega)⟩⟩
end Go.Proofs.Ytlaihlpokpeahaa.letc
