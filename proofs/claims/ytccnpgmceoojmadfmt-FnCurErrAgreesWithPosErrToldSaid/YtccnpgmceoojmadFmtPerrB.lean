/-
  posErr: its first call lays the error, its later calls change nothing.
-/
import Derived.Test.YtccnpgmceoojmadFmtPerr
namespace Go.Proofs.YtccnpgmceoojmadFmt.perr
open Go.RowKit
open Go.Proofs.YtccnpgmceoojmadFmt
open Go.Extern.Stop Go.Stop Go.Extern

theorem step_sprintf {ops : Array Oper} {o : Oper} {a : Act} {w : World} {K : Act → World → Prop} {Q : Exit → Act → World → Prop} {E : Prop} (hg : o.guard = none) (x y : Operand) (tx ty : TypeId) (ho : o.op = .call { callee := .value (.func 25), args := #[x, y], argTypes := #[tx, ty] }) (f : ByteArray) (hx : a.eval x = .string f) (hy : a.eval y = .slice none 0 0)
    (hK : ∀ s, K (a.put o.dst (.string s)) w.drew) : if Region.wanted o (yielded ops a.tmps) = true then Oper.wp Tryf.prog o a w K Q else E := by
  rw [if_pos (by simp [Region.wanted, hg])]
  exact wp_sprintf x y tx ty ho f hx hy hK
/-- What posErr leaves of the rest. -/
structure Rest (p : Nat) (w w' : World) : Prop where
  oth : ∀ b k v, b ≠ p → w.cell? ⟨b, k, none⟩ = some v → w'.cell? ⟨b, k, none⟩ = some v
  ofz : ∀ b k, b ≠ p → b < w.heap.size → w'.frozen? ⟨b, k, none⟩ = w.frozen? ⟨b, k, none⟩
  bel : Below p w w'
  sz : w.heap.size ≤ w'.heap.size
theorem Rest.ofBelow {p : Nat} {w w' : World} (h : Below w.heap.size w w') (hp : p < w.heap.size) : Rest p w w' :=
  ⟨fun b k v _ hv => cell_later h hv, fun b k _ hb => h.frozen (p := ⟨b, k, none⟩) hb, Below.mono h (Nat.le_of_lt hp), h.size⟩
def Erd (p fb : Nat) (name : ByteArray) (ba : Option Addr) (bn bc : Nat) (o l : Int) (inc : Bool) (po pl on : Int) (la : Option Addr) (ln lc : Nat) (w w' : World) : Prop :=
  ∃ s, Pst w' p fb name ba bn bc ((bn : Int) + 1) 1114112 1 (.iface 37 (.agg #[.string name, .int .u32 o, .int .u32 l, .string s, .bool inc])) 1 po pl on la ln lc ∧ Rest p w w'
theorem erd_of {w X : World} {p fb : Nat} {name : ByteArray} {ba : Option Addr} {bn bc : Nat} {bsp r wd : Int} {err : Value} {tok po pl on : Int} {la : Option Addr} {ln lc : Nat} (o l : Int) (s : ByteArray) (inc : Bool) (h : Pst X p fb name ba bn bc bsp r wd err tok po pl on la ln lc) (hX : Below w.heap.size w X) (hp : p < w.heap.size) (hne : fb ≠ p) :
    Erd p fb name ba bn bc o l inc po pl on la ln lc w (((((X.setCell ⟨p, 7, none⟩ (.iface 37 (.agg #[.string name, .int .u32 o, .int .u32 l, .string s, .bool inc]))).setCell ⟨p, 2, none⟩ (.int .u64 ((bn : Int) + 1))).setCell ⟨p, 3, none⟩ (.int .i32 1114112)).setCell ⟨p, 4, none⟩ (.int .i64 1)).setCell ⟨p, 10, none⟩ (.int .u32 1)) := by
  obtain ⟨x1, x2, x3, x4, x5, x7, x10, x15, x16, x29, x2087, xf, fz⟩ := h
  have hne' : ¬ p = fb := fun e => hne e.symm
  refine ⟨s, ⟨?_, ?_, ?_, ?_, ?_, ?_, ?_, ?_, ?_, ?_, ?_, ?_, fun o => ?_⟩, ⟨fun b k v hb hv => ?_, fun b k hb hlt => ?_, ?_, ?_⟩⟩
  all_goals first
    | (simp [go_sem, *]; done)
    | (have q := fz o; simp [go_sem, q]; done)
    | (have q := cell_later hX hv; have hb' : ¬ p = b := fun e => hb e.symm; simp [go_sem, hb', q]; done)
    | (have q := hX.frozen (p := ⟨b, k, none⟩) hlt; simp [go_sem, q]; done)
    | (refine Below.setCell (Below.setCell (Below.setCell (Below.setCell (Below.setCell (Below.mono hX (Nat.le_of_lt hp)) ?_ _) ?_ _) ?_ _) ?_ _) ?_ _ <;> exact Nat.le_refl p)
    | (have q := hX.size; simp; exact q)
theorem Erd.later {w X X' : World} {p fb : Nat} {name : ByteArray} {ba : Option Addr} {bn bc : Nat} {o l : Int} {inc : Bool} {po pl on : Int} {la : Option Addr} {ln lc : Nat} (h : Erd p fb name ba bn bc o l inc po pl on la ln lc w X) (hb : Below X.heap.size X X') (hp : p < w.heap.size) : Erd p fb name ba bn bc o l inc po pl on la ln lc w X' := by
  obtain ⟨s, h1, h2⟩ := h
  exact ⟨s, h1.later hb, ⟨fun b k v hb' hv => cell_later hb (h2.oth b k v hb' hv), fun b k hb' hlt => (hb.frozen (p := ⟨b, k, none⟩) (Nat.lt_of_lt_of_le hlt h2.sz)).trans (h2.ofz b k hb' hlt), Below.trans h2.bel (Below.mono hb (Nat.le_trans (Nat.le_of_lt hp) h2.sz)), Nat.le_trans h2.sz hb.size⟩⟩
end Go.Proofs.YtccnpgmceoojmadFmt.perr
