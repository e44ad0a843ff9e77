/-
  The makers of statements, and rows of pointers and Bools that grow and shrink: what the stack machine over statements rests on.
-/
import Derived.Test.YtccnpgmceoojmadBldA
import Derived.Maps.AppendAt
namespace Go.Proofs.Ytccnpgmceoojmad.bld
open Go.RowKit
open Go.Proofs.Ytccnpgmceoojmad

def stmt0 (cmd : Value) : Array Value := #[.slice none 0 0, cmd, .int .u32 0, .int .u32 0, .int .u32 0, .int .u32 0, .bool false, .bool false, .bool false, .bool false, .slice none 0 0]
theorem heap_at (w : World) (o : Obj) (k : Nat) (h : w.heap.size = k) : (w.alloc o).heap[k]? = some o := h ▸ heap_alloc_new w o
/-- A maker's answer. -/
def Made (L : Value → Prop) (w : World) (e : Ending) (w' : World) : Prop := ∃ b cmd, e = .returned (.pointer (some ⟨b, 0, none⟩)) ∧ w.heap.size ≤ b ∧ w'.heap[b]? = some (.cells (stmt0 cmd) 84 (0, 0)) ∧ L cmd ∧ Below w.heap.size w w'
theorem mkSub (w : World) : Calls Try.prog 29 #[] w (Made (fun cmd => Leaf cmd true) w) := by
  go_enter Try.func29, Try.ntmps29
  go_wp2
  go_ret
  exact ⟨w.heap.size + 1, _, rfl, by simp, heap_at _ _ _ (by simp), Leaf.sub _, by go_grown⟩
theorem mkAr (w : World) : Calls Try.prog 30 #[] w (Made (fun cmd => Leaf cmd true) w) := by
  go_enter Try.func30, Try.ntmps30
  go_wp2
  go_ret
  exact ⟨w.heap.size + 1, _, rfl, by simp, heap_at _ _ _ (by simp), Leaf.ar _, by go_grown⟩
theorem mkCall (w : World) : Calls Try.prog 31 #[] w (Made (fun cmd => Leaf cmd false) w) := by
  go_enter Try.func31, Try.ntmps31
  go_wp2
  go_ret
  exact ⟨w.heap.size + 1, _, rfl, by simp, heap_at _ _ _ (by simp), Leaf.call _, by go_grown⟩
theorem mkBlock (w : World) : Calls Try.prog 32 #[] w (Made (fun cmd => Leaf cmd false) w) := by
  go_enter Try.func32, Try.ntmps32
  go_wp2
  go_ret
  exact ⟨w.heap.size + 1, _, rfl, by simp, heap_at _ _ _ (by simp), Leaf.block _, by go_grown⟩
theorem mkBare (w : World) : Calls Try.prog 33 #[] w (Made (fun cmd => Leaf cmd false) w) := by
  go_enter Try.func33, Try.ntmps33
  go_wp2
  go_ret
  exact ⟨w.heap.size, _, rfl, by simp, heap_at _ _ _ (by simp), Leaf.nil, by go_grown⟩
def MadeB (x y : Nat) (w : World) (e : Ending) (w' : World) : Prop := ∃ b q, e = .returned (.pointer (some ⟨b, 0, none⟩)) ∧ w.heap.size ≤ b ∧ w'.heap[b]? = some (.cells (stmt0 (.iface 104 (.pointer (some ⟨q, 0, none⟩)))) 84 (0, 0)) ∧ BinAt w' q x y ∧ Below w.heap.size w w'
theorem mkBin (x y : Nat) (w : World) : Calls Try.prog 34 #[.pointer (some ⟨x, 0, none⟩), .pointer (some ⟨y, 0, none⟩)] w (MadeB x y w) := by
  go_enter Try.func34, Try.ntmps34
  go_wp2
  go_ret
  refine ⟨w.heap.size + 1, w.heap.size, rfl, by simp, heap_at _ _ _ (by simp), ⟨#[.int .u32 0, .int .u32 0, .int .u32 11, .pointer (some ⟨x, 0, none⟩), .pointer (some ⟨y, 0, none⟩)], (0, 0), ?_, rfl, rfl⟩, by go_grown⟩
  rw [heap_alloc_old _ _ (by simp)]
  exact heap_at _ _ _ rfl
theorem setH {w : World} {b : Nat} {cs : Array Value} {T : TypeId} (h : w.heap[b]? = some (.cells cs T (0, 0))) (k : Nat) (v : Value) : (w.setCell ⟨b, k, none⟩ v).heap[b]? = some (.cells (cs.setIfInBounds k v) T (0, 0)) := by
  simp [World.setCell, Array.getElem?_modify, h]
theorem frozen_heap {w : World} {b : Nat} {cs : Array Value} {T : TypeId} (h : w.heap[b]? = some (.cells cs T (0, 0))) (k : Nat) : w.frozen? ⟨b, k, none⟩ = false := by
  unfold World.frozen?
  rw [h]
  simp
def Apart (u v : Value) : Prop := ∀ g, u.ownBlock = some g → v.ownBlock ≠ some g
theorem Apart.symm {u v : Value} (h : Apart u v) : Apart v u := fun g hg e => h g e hg
theorem Apart.or {u v : Value} (h : Apart u v) : u.ownBlock = none ∨ u.ownBlock ≠ v.ownBlock := by
  cases e : u.ownBlock with
  | none => exact Or.inl rfl
  | some g => exact Or.inr (fun q => h g e q.symm)
theorem own_heap {w : World} {B n : Nat} {T : TypeId} {v : Value} {xs : List Value} (h : w.ownsRow B T 1 v n xs) (g : Nat) (hg : v.ownBlock = some g) : ∃ cur, w.heap[g]? = some (.cells cur T (0, 0)) := by
  rcases h.2 with ⟨rfl, _⟩ | ⟨g', cap, cur, rfl, _, hh, _⟩
  · simp [Value.ownBlock] at hg
  · simp [Value.ownBlock] at hg
    subst hg
    exact ⟨cur, hh⟩
theorem apart_types {w : World} {B n m : Nat} {T U : TypeId} {u v : Value} {xs ys : List Value} (h : w.ownsRow B T 1 u n xs) (g : w.ownsRow B U 1 v m ys) (hne : T ≠ U) : Apart u v := fun k hk e => by
  obtain ⟨c1, h1⟩ := own_heap h k hk
  obtain ⟨c2, h2⟩ := own_heap g k e
  rw [h1] at h2
  injection h2 with h3
  injection h3 with _ h4 _
  exact hne h4
theorem apart_at {X : World} {B n : Nat} {T : TypeId} {u v v' : Value} {xs : List Value} (h : Apart u v) (hu : X.ownsRow B T 1 u n xs) (hat : v'.ownBlock = v.ownBlock ∨ v'.ownBlock = some X.heap.size) : Apart u v' := fun g hg e => by
  rcases hat with q | q
  · exact h g hg (q ▸ e)
  · rw [q] at e
    have := (hu.lt g hg).2
    injection e with e
    omega
theorem kp_grown {X w1 : World} {B n : Nat} {T : TypeId} {v : Value} {xs : List Value} (h : X.ownsRow B T 1 v n xs) (hT : T ≠ 84 ∧ T ≠ 107) (hg : X.grownBy w1 v.ownBlock) : Kp X w1 := by
  refine ⟨fun b cs fz e => ?_, fun b cs fz e => ?_⟩
  all_goals
    refine (hg.block b (lt_heap e) (fun q => ?_)).trans e
    obtain ⟨cur, hh⟩ := own_heap h b q.symm
    rw [hh] at e
    injection e with e
    injection e with _ e2 _
  · exact hT.1 e2
  · exact hT.2 e2
theorem own_take {w : World} {B n g cap : Nat} {T : TypeId} {xs : List Value} (h : w.ownsRow B T 1 (.slice (some ⟨g, 0, none⟩) n cap) n xs) (k : Nat) (hk : k ≤ n) : w.ownsRow B T 1 (.slice (some ⟨g, 0, none⟩) k cap) k (xs.take k) := by
  have hl := h.1
  rcases h.2 with ⟨h0, _⟩ | ⟨g', cap', cur, hv, hg, hh, hn, hcap, hsz, htake⟩
  · cases h0
  · cases hv
    refine ⟨by simp at hl; simp; omega, .inr ⟨g, cap, cur, rfl, hg, hh, by omega, hcap, hsz, ?_⟩⟩
    rw [← htake, List.take_take]
    congr 1
    omega
theorem own_sl {w : World} {B n : Nat} {T : TypeId} {v : Value} {xs : List Value} (h : w.ownsRow B T 1 v n xs) : ∃ a c, v = .slice a n c := by
  rcases h.2 with ⟨rfl, rfl⟩ | ⟨g, cap, cur, rfl, _⟩
  · exact ⟨none, 0, rfl⟩
  · exact ⟨_, _, rfl⟩
theorem own_pos {w : World} {B n : Nat} {T : TypeId} {v : Value} {xs : List Value} (h : w.ownsRow B T 1 v n xs) (hn : 0 < n) : ∃ g c, v = .slice (some ⟨g, 0, none⟩) n c ∧ n ≤ c := by
  rcases h.2 with ⟨_, h0⟩ | ⟨g, cap, cur, rfl, _, _, hc, _⟩
  · omega
  · exact ⟨_, _, rfl, hc⟩
theorem own_cell {w : World} {B n g c : Nat} {T : TypeId} {xs : List Value} (h : w.ownsRow B T 1 (.slice (some ⟨g, 0, none⟩) n c) n xs) (j : Nat) (u : Value) (hu : xs[j]? = some u) : w.cell? ⟨g, j, none⟩ = some u := by
  have h1 := h.cells (g := g) rfl j u hu
  have ea : (⟨g, 0, none⟩ : Addr).add j = ⟨g, j, none⟩ := by unfold Addr.add; split <;> simp_all
  rw [ea] at h1
  exact h1
theorem own_lt {w X : World} {B n : Nat} {T : TypeId} {v : Value} {xs : List Value} (h : w.ownsRow B T 1 v n xs) (hb : Below w.heap.size w X) : X.ownsRow B T 1 v n xs :=
  h.kept (row := none) ⟨hb.os, hb.tape, hb.output, hb.size, fun k hk _ => hb.block k hk⟩ (by cases v.ownBlock <;> simp)
def ptrs (P : List Nat) : List Value := P.map fun b => .pointer (some ⟨b, 0, none⟩)
def bls (S : List Bool) : List Value := S.map Value.bool
def stS (S : List Bool) (z : Int) : List Bool := if z % 6 = 5 then (if S.length < 2 then S else S.take (S.length - 2) ++ [S.getD (S.length - 2) false]) else S ++ [decide (z % 6 ≤ 1)]
def runS (zs : List Int) : Nat → List Bool
  | 0 => []
  | k + 1 => stS (runS zs k) (zs.getD k 0)
def Tr (w : World) (P : List Nat) (S E : List Bool) : Prop := S.length = P.length ∧ E.length = P.length ∧ ∀ j, j < P.length → Rp w (P.getD j 0) (S.getD j false) (E.getD j false)
theorem Tr.keep {w w' : World} {P : List Nat} {S E : List Bool} (h : Tr w P S E) (k : Kp w w') : Tr w' P S E := ⟨h.1, h.2.1, fun j hj => (h.2.2 j hj).keep k⟩
theorem Tr.take {w : World} {P : List Nat} {S E : List Bool} (h : Tr w P S E) (k : Nat) (hk : k ≤ P.length) : Tr w (P.take k) (S.take k) (E.take k) := by
  refine ⟨by simp [h.1], by simp [h.2.1], fun j hj => ?_⟩
  have hj' : j < k := by simp at hj; omega
  have := h.2.2 j (by omega)
  simp only [List.getD_eq_getElem?_getD, List.getElem?_take, hj', if_true] at this ⊢
  exact this
theorem Tr.snoc {w : World} {P : List Nat} {S E : List Bool} (h : Tr w P S E) {b : Nat} {s e : Bool} (hr : Rp w b s e) : Tr w (P ++ [b]) (S ++ [s]) (E ++ [e]) := by
  refine ⟨by simp [h.1], by simp [h.2.1], fun j hj => ?_⟩
  by_cases hlt : j < P.length
  · have := h.2.2 j hlt
    simp only [List.getD_eq_getElem?_getD, List.getElem?_append_left hlt, List.getElem?_append_left (h.1 ▸ hlt : j < S.length), List.getElem?_append_left (h.2.1 ▸ hlt : j < E.length)] at this ⊢
    exact this
  · have e1 : j = P.length := by simp at hj; omega
    subst e1
    have q1 : S.length = P.length := h.1
    have q2 : E.length = P.length := h.2.1
    simp only [List.getD_eq_getElem?_getD]
    rw [List.getElem?_append_right (Nat.le_refl _), List.getElem?_append_right (by omega), List.getElem?_append_right (by omega)]
    simpa [q1, q2] using hr
/-- The four rows of the stack machine. -/
structure R4 (w : World) (B : Nat) (vS : Value) (nS : Nat) (lS : List Value) (vM : Value) (nM : Nat) (lM : List Value) (vE : Value) (nE : Nat) (lE : List Value) (vF : Value) (nF : Nat) (lF : List Value) : Prop where
  oS : w.ownsRow B 53 1 vS nS lS
  oM : w.ownsRow B 4 1 vM nM lM
  oE : w.ownsRow B 4 1 vE nE lE
  oF : w.ownsRow B 4 1 vF nF lF
  aME : Apart vM vE
  aMF : Apart vM vF
  aEF : Apart vE vF
theorem R4.later {w X : World} {B : Nat} {vS : Value} {nS : Nat} {lS : List Value} {vM : Value} {nM : Nat} {lM : List Value} {vE : Value} {nE : Nat} {lE : List Value} {vF : Value} {nF : Nat} {lF : List Value} (h : R4 w B vS nS lS vM nM lM vE nE lE vF nF lF) (hb : Below w.heap.size w X) : R4 X B vS nS lS vM nM lM vE nE lE vF nF lF := ⟨own_lt h.oS hb, own_lt h.oM hb, own_lt h.oE hb, own_lt h.oF hb, h.aME, h.aMF, h.aEF⟩
theorem R4.appS {X w1 : World} {B : Nat} {vS : Value} {nS : Nat} {lS : List Value} {vM : Value} {nM : Nat} {lM : List Value} {vE : Value} {nE : Nat} {lE : List Value} {vF : Value} {nF : Nat} {lF : List Value} {v' : Value} {n' : Nat} {l' : List Value} (h : R4 X B vS nS lS vM nM lM vE nE lE vF nF lF) (ho : w1.ownsRow B 53 1 v' n' l') (hg : X.grownBy w1 vS.ownBlock) (hat : v'.ownBlock = vS.ownBlock ∨ v'.ownBlock = some X.heap.size) : R4 w1 B v' n' l' vM nM lM vE nE lE vF nF lF ∧ Kp X w1 := ⟨⟨ho, h.oM.kept hg (apart_types h.oM h.oS (by decide)).or, h.oE.kept hg (apart_types h.oE h.oS (by decide)).or, h.oF.kept hg (apart_types h.oF h.oS (by decide)).or, h.aME, h.aMF, h.aEF⟩, kp_grown h.oS (by decide) hg⟩
theorem R4.appM {X w1 : World} {B : Nat} {vS : Value} {nS : Nat} {lS : List Value} {vM : Value} {nM : Nat} {lM : List Value} {vE : Value} {nE : Nat} {lE : List Value} {vF : Value} {nF : Nat} {lF : List Value} {v' : Value} {n' : Nat} {l' : List Value} (h : R4 X B vS nS lS vM nM lM vE nE lE vF nF lF) (ho : w1.ownsRow B 4 1 v' n' l') (hg : X.grownBy w1 vM.ownBlock) (hat : v'.ownBlock = vM.ownBlock ∨ v'.ownBlock = some X.heap.size) : R4 w1 B vS nS lS v' n' l' vE nE lE vF nF lF ∧ Kp X w1 := ⟨⟨h.oS.kept hg (apart_types h.oS h.oM (by decide)).or, ho, h.oE.kept hg h.aME.symm.or, h.oF.kept hg h.aMF.symm.or, (apart_at h.aME.symm h.oE hat).symm, (apart_at h.aMF.symm h.oF hat).symm, h.aEF⟩, kp_grown h.oM (by decide) hg⟩
theorem R4.appE {X w1 : World} {B : Nat} {vS : Value} {nS : Nat} {lS : List Value} {vM : Value} {nM : Nat} {lM : List Value} {vE : Value} {nE : Nat} {lE : List Value} {vF : Value} {nF : Nat} {lF : List Value} {v' : Value} {n' : Nat} {l' : List Value} (h : R4 X B vS nS lS vM nM lM vE nE lE vF nF lF) (ho : w1.ownsRow B 4 1 v' n' l') (hg : X.grownBy w1 vE.ownBlock) (hat : v'.ownBlock = vE.ownBlock ∨ v'.ownBlock = some X.heap.size) : R4 w1 B vS nS lS vM nM lM v' n' l' vF nF lF ∧ Kp X w1 := ⟨⟨h.oS.kept hg (apart_types h.oS h.oE (by decide)).or, h.oM.kept hg h.aME.or, ho, h.oF.kept hg h.aEF.symm.or, apart_at h.aME h.oM hat, h.aMF, (apart_at h.aEF.symm h.oF hat).symm⟩, kp_grown h.oE (by decide) hg⟩
theorem R4.appF {X w1 : World} {B : Nat} {vS : Value} {nS : Nat} {lS : List Value} {vM : Value} {nM : Nat} {lM : List Value} {vE : Value} {nE : Nat} {lE : List Value} {vF : Value} {nF : Nat} {lF : List Value} {v' : Value} {n' : Nat} {l' : List Value} (h : R4 X B vS nS lS vM nM lM vE nE lE vF nF lF) (ho : w1.ownsRow B 4 1 v' n' l') (hg : X.grownBy w1 vF.ownBlock) (hat : v'.ownBlock = vF.ownBlock ∨ v'.ownBlock = some X.heap.size) : R4 w1 B vS nS lS vM nM lM vE nE lE v' n' l' ∧ Kp X w1 := ⟨⟨h.oS.kept hg (apart_types h.oS h.oF (by decide)).or, h.oM.kept hg h.aMF.or, h.oE.kept hg h.aEF.or, ho, h.aME, apart_at h.aMF h.oM hat, apart_at h.aEF h.oE hat⟩, kp_grown h.oF (by decide) hg⟩
end Go.Proofs.Ytccnpgmceoojmad.bld
