/-
  The stack machine over statements: its state, the statement's block behind the stores, the rows behind the four appends.
-/
import Derived.Test.YtccnpgmceoojmadBldB
import Derived.Deep.AppendLies
namespace Go.Proofs.Ytccnpgmceoojmad.bld
open Go.RowKit
open Go.Proofs.Ytccnpgmceoojmad

def Built (zs : List Int) (n : Nat) (w : World) (e : Ending) (w' : World) : Prop :=
  ((runS zs n = [] ∧ e = .returned (.tuple #[.pointer none, .bool false, .bool false, .bool false, .bool false])) ∨
   (∃ (b : Nat) (en fl : Bool), runS zs n ≠ [] ∧ e = .returned (.tuple #[.pointer (some ⟨b, 0, none⟩), .bool ((runS zs n).getD ((runS zs n).length - 1) false), .bool en, .bool fl, .bool true]) ∧ Rp w' b ((runS zs n).getD ((runS zs n).length - 1) false) en)) ∧ Below w.heap.size w w'
def St4 (w W : World) (B k m : Nat) (zs : List Int) (vS vM vE vF : Value) (P : List Nat) (E F : List Bool) : Prop :=
  m ≤ k ∧ P.length = m ∧ F.length = m ∧ Tr W P (runS zs k) E ∧ R4 W B vS m (ptrs P) vM m (bls (runS zs k)) vE m (bls E) vF m (bls F) ∧ Below w.heap.size w W
def Mid (wr W : World) (B k : Nat) (zs : List Int) (vS vM vE vF s24 s25 s26 : Value) : Prop :=
  ∃ (m b : Nat) (P : List Nat) (S E F : List Bool) (cmd : Value) (s en : Bool), s24 = .pointer (some ⟨b, 0, none⟩) ∧ s25 = .bool s ∧ s26 = .bool en ∧ m ≤ k ∧ P.length = m ∧ F.length = m ∧ S ++ [s] = runS zs (k + 1) ∧ Tr wr P S E ∧ R4 wr B vS m (ptrs P) vM m (bls S) vE m (bls E) vF m (bls F) ∧ wr.heap.size ≤ b ∧ W.heap[b]? = some (.cells (stmt0 cmd) 84 (0, 0)) ∧ Below wr.heap.size wr W ∧ ((Leaf cmd s ∧ en = s) ∨ ∃ q x y ex sy, cmd = .iface 104 (.pointer (some ⟨q, 0, none⟩)) ∧ BinAt W q x y ∧ Rp wr x s ex ∧ Rp wr y sy en)
def Dd (wr V : World) (cmd : Value) (s en : Bool) : Prop := (Leaf cmd s ∧ en = s) ∨ ∃ q x y ex sy, cmd = .iface 104 (.pointer (some ⟨q, 0, none⟩)) ∧ BinAt V q x y ∧ Rp wr x s ex ∧ Rp wr y sy en
theorem Dd.move {wr W V : World} {cmd : Value} {s en : Bool} {b : Nat} {cs : Array Value} {fz : Nat × Nat} (h : Dd wr W cmd s en) (hb : W.heap[b]? = some (.cells cs 84 fz)) (ho : ∀ g, g ≠ b → g < W.heap.size → V.heap[g]? = W.heap[g]?) : Dd wr V cmd s en := by
  rcases h with h | ⟨q, x, y, ex, sy, h1, h2, h3, h4⟩
  · exact Or.inl h
  · obtain ⟨ds, f2, g1, g2, g3⟩ := h2.ex
    refine Or.inr ⟨q, x, y, ex, sy, h1, ⟨ds, f2, (ho q (fun e => ?_) (lt_heap g1)).trans g1, g2, g3⟩, h3, h4⟩
    subst e
    rw [hb] at g1
    injection g1 with g1
    injection g1 with _ g1 _
    exact absurd g1 (by decide)
/-- The statement's block behind the stores. -/
def Fin (wr V : World) (b : Nat) (cmd : Value) (q7 q8 q9 q10 s en : Bool) : Prop := ∃ (cs : Array Value) (ra : Option Addr) (rn rc : Nat), V.heap[b]? = some (.cells cs 84 (0, 0)) ∧ cs[1]? = some cmd ∧ cs[7]? = some (.bool q7) ∧ cs[8]? = some (.bool q8) ∧ cs[9]? = some (.bool q9) ∧ cs[10]? = some (.slice ra rn rc) ∧ decide (0 < rn) = q10 ∧ 10 < cs.size ∧ Below wr.heap.size wr V ∧ Dd wr V cmd s en
theorem Fin.redir {wr V X : World} {b : Nat} {cmd : Value} {q7 q8 q9 s en : Bool} (h : Fin wr V b cmd q7 q8 q9 false s en) (hX : Below V.heap.size V X) (ra : Option Addr) (hb : wr.heap.size ≤ b) : Fin wr (X.setCell ⟨b, 10, none⟩ (.slice ra 1 1)) b cmd q7 q8 q9 true s en := by
  obtain ⟨cs, r0, rn, rc, h0, h1, h7, h8, h9, h10, hr, hs, hB, hD⟩ := h
  have hlt := lt_heap h0
  have hX0 : X.heap[b]? = some (.cells cs 84 (0, 0)) := (hX.block b hlt).trans h0
  refine ⟨cs.setIfInBounds 10 (.slice ra 1 1), ra, 1, 1, setH hX0 10 _, ?_, ?_, ?_, ?_, ?_, by simp, by simpa using hs, (below_next hB hX).setCell hb _, hD.move h0 (fun g hg hl => ?_)⟩
  · simpa using h1
  · simpa using h7
  · simpa using h8
  · simpa using h9
  · simp [hs]
  · rw [Below.heap_setCell _ _ _ _ hg]
    exact hX.block g hl
theorem Fin.later {wr V X : World} {b : Nat} {cmd : Value} {q7 q8 q9 q10 s en : Bool} (h : Fin wr V b cmd q7 q8 q9 q10 s en) (hX : Below V.heap.size V X) : Fin wr X b cmd q7 q8 q9 q10 s en := by
  obtain ⟨cs, ra, rn, rc, h0, h1, h7, h8, h9, h10, hr, hs, hB, hD⟩ := h
  exact ⟨cs, ra, rn, rc, (hX.block b (lt_heap h0)).trans h0, h1, h7, h8, h9, h10, hr, hs, below_next hB hX, hD.move h0 (fun g _ hl => hX.block g hl)⟩
/-- The statement is a tree. -/
theorem Fin.rp {wr V : World} {b : Nat} {cmd : Value} {q7 q8 q9 q10 s en : Bool} (h : Fin wr V b cmd q7 q8 q9 q10 s en) : Rp V b s (en && !(q7 || q8 || q9 || q10)) := by
  obtain ⟨cs, ra, rn, rc, h0, h1, h7, h8, h9, h10, rfl, hs, hB, hD⟩ := h
  have hH : Hd V b cmd (q7 || q8 || q9 || decide (0 < rn)) := ⟨cs, (0, 0), q7, q8, q9, ra, rn, rc, h0, h1, h7, h8, h9, h10, rfl⟩
  rcases hD with ⟨hL, rfl⟩ | ⟨q, x, y, ex, sy, rfl, hq, hx, hy⟩
  · exact Rp.leaf b cmd _ _ hH hL
  · exact Rp.bin b q x y _ s ex sy en hH hq (hx.keep (Kp.ofBelow hB)) (hy.keep (Kp.ofBelow hB))
theorem runS_leaf (zs : List Int) (k : Nat) (h : zs.getD k 0 % 6 ≠ 5) : runS zs (k + 1) = runS zs k ++ [decide (zs.getD k 0 % 6 ≤ 1)] := by
  simp only [runS, stS]
  rw [if_neg h]
theorem runS_skip (zs : List Int) (k : Nat) (h : zs.getD k 0 % 6 = 5) (hl : (runS zs k).length < 2) : runS zs (k + 1) = runS zs k := by
  simp only [runS, stS]
  rw [if_pos h, if_pos hl]
theorem runS_bin (zs : List Int) (k : Nat) (h : zs.getD k 0 % 6 = 5) (hl : ¬ (runS zs k).length < 2) : runS zs (k + 1) = (runS zs k).take ((runS zs k).length - 2) ++ [(runS zs k).getD ((runS zs k).length - 2) false] := by
  simp only [runS, stS]
  rw [if_pos h, if_neg hl]
theorem ptrs_get (P : List Nat) (j : Nat) (h : j < P.length) : (ptrs P)[j]? = some (.pointer (some ⟨P.getD j 0, 0, none⟩)) := by
  simp [ptrs, List.getD_eq_getElem?_getD, h]
theorem bls_get (S : List Bool) (j : Nat) (h : j < S.length) : (bls S)[j]? = some (.bool (S.getD j false)) := by
  simp [bls, List.getD_eq_getElem?_getD, h]
theorem ptrs_take (P : List Nat) (j : Nat) : (ptrs P).take j = ptrs (P.take j) := by simp [ptrs]
theorem bls_take (S : List Bool) (j : Nat) : (bls S).take j = bls (S.take j) := by simp [bls]
theorem onep (q : Option Addr) : ∀ u ∈ [Value.pointer q], u.oneCell' = true := by intro u hu; simp at hu; subst hu; rfl
theorem oneb (q : Bool) : ∀ u ∈ [Value.bool q], u.oneCell' = true := by intro u hu; simp at hu; subst hu; rfl
theorem news_of {w : World} {b : Nat} {x : Value} (h : w.cell? ⟨b, 0, none⟩ = some x) : ∀ j u, [x][j]? = some u → w.cell? ((⟨b, 0, none⟩ : Addr).add j) = some u := by
  intro j u hu
  have hj : j = 0 := by
    rcases Nat.eq_zero_or_pos j with e | e
    · exact e
    · rw [List.getElem?_eq_none (by simp; omega)] at hu; cases hu
  subst hj
  have e : (⟨b, 0, none⟩ : Addr).add 0 = ⟨b, 0, none⟩ := by unfold Addr.add; split <;> simp_all
  rw [e, h]
  simpa using hu
theorem info53 : (Try.prog.info? 53).map (fun i => (i.zero, i.size, i.bytes)) = some (some (.pointer none), 1, 8) := by kernel_rfl
theorem info4 : (Try.prog.info? 4).map (fun i => (i.zero, i.size, i.bytes)) = some (some (.bool false), 1, 1) := by kernel_rfl
theorem results_tmp5 {fn : Func} {t u v x y : Tmp} (h : fn.results = #[.tmp t, .tmp u, .tmp v, .tmp x, .tmp y]) (tmps : Array Value) (P : Program) (w : World) : (results fn tmps).run P w = .ok (.tuple #[tmps.getD t undef, tmps.getD u undef, tmps.getD v undef, tmps.getD x undef, tmps.getD y undef]) w := by
  simp [results, h]
/-- The rows, the trees on them and what is left alone, while the four appends run. -/
structure Tq (w V : World) (P : List Nat) (S E : List Bool) (vS : Value) (nS : Nat) (lS : List Value) (vM : Value) (nM : Nat) (lM : List Value) (vE : Value) (nE : Nat) (lE : List Value) (vF : Value) (nF : Nat) (lF : List Value) : Prop where
  tr : Tr V P S E
  r4 : R4 V w.heap.size vS nS lS vM nM lM vE nE lE vF nF lF
  bl : Below w.heap.size w V
theorem Tq.appS {w V X w1 : World} {P : List Nat} {S E : List Bool} {vS : Value} {nS : Nat} {lS : List Value} {vM : Value} {nM : Nat} {lM : List Value} {vE : Value} {nE : Nat} {lE : List Value} {vF : Value} {nF : Nat} {lF : List Value} {n' g cap : Nat} {l' : List Value} (h : Tq w V P S E vS nS lS vM nM lM vE nE lE vF nF lF) (hX : Below V.heap.size V X) (ho : w1.ownsRow w.heap.size 53 1 (.slice (some ⟨g, 0, none⟩) n' cap) n' l') (hg : X.grownBy w1 vS.ownBlock) (hat : vS.ownBlock = some g ∨ g = X.heap.size) : Tq w w1 P S E (.slice (some ⟨g, 0, none⟩) n' cap) n' l' vM nM lM vE nE lE vF nF lF := by
  obtain ⟨hr, hk⟩ := (h.r4.later hX).appS ho hg (hat.imp (fun e => e.symm) (fun e => by rw [← e]; rfl))
  have hBX := below_next h.bl hX
  refine ⟨(h.tr.keep (Kp.ofBelow hX)).keep hk, hr, ⟨hg.os.trans hBX.os, hg.tape.trans hBX.tape, hg.output.trans hBX.output, Nat.le_trans hBX.size hg.size, fun b hb => (hg.block b (Nat.lt_of_lt_of_le hb hBX.size) (fun e => ?_)).trans (hBX.block b hb)⟩⟩
  have := (h.r4.oS.lt b e.symm).1
  omega
theorem Tq.appM {w V X w1 : World} {P : List Nat} {S E : List Bool} {vS : Value} {nS : Nat} {lS : List Value} {vM : Value} {nM : Nat} {lM : List Value} {vE : Value} {nE : Nat} {lE : List Value} {vF : Value} {nF : Nat} {lF : List Value} {n' g cap : Nat} {l' : List Value} (h : Tq w V P S E vS nS lS vM nM lM vE nE lE vF nF lF) (hX : Below V.heap.size V X) (ho : w1.ownsRow w.heap.size 4 1 (.slice (some ⟨g, 0, none⟩) n' cap) n' l') (hg : X.grownBy w1 vM.ownBlock) (hat : vM.ownBlock = some g ∨ g = X.heap.size) : Tq w w1 P S E vS nS lS (.slice (some ⟨g, 0, none⟩) n' cap) n' l' vE nE lE vF nF lF := by
  obtain ⟨hr, hk⟩ := (h.r4.later hX).appM ho hg (hat.imp (fun e => e.symm) (fun e => by rw [← e]; rfl))
  have hBX := below_next h.bl hX
  refine ⟨(h.tr.keep (Kp.ofBelow hX)).keep hk, hr, ⟨hg.os.trans hBX.os, hg.tape.trans hBX.tape, hg.output.trans hBX.output, Nat.le_trans hBX.size hg.size, fun b hb => (hg.block b (Nat.lt_of_lt_of_le hb hBX.size) (fun e => ?_)).trans (hBX.block b hb)⟩⟩
  have := (h.r4.oM.lt b e.symm).1
  omega
theorem Tq.appE {w V X w1 : World} {P : List Nat} {S E : List Bool} {vS : Value} {nS : Nat} {lS : List Value} {vM : Value} {nM : Nat} {lM : List Value} {vE : Value} {nE : Nat} {lE : List Value} {vF : Value} {nF : Nat} {lF : List Value} {n' g cap : Nat} {l' : List Value} (h : Tq w V P S E vS nS lS vM nM lM vE nE lE vF nF lF) (hX : Below V.heap.size V X) (ho : w1.ownsRow w.heap.size 4 1 (.slice (some ⟨g, 0, none⟩) n' cap) n' l') (hg : X.grownBy w1 vE.ownBlock) (hat : vE.ownBlock = some g ∨ g = X.heap.size) : Tq w w1 P S E vS nS lS vM nM lM (.slice (some ⟨g, 0, none⟩) n' cap) n' l' vF nF lF := by
  obtain ⟨hr, hk⟩ := (h.r4.later hX).appE ho hg (hat.imp (fun e => e.symm) (fun e => by rw [← e]; rfl))
  have hBX := below_next h.bl hX
  refine ⟨(h.tr.keep (Kp.ofBelow hX)).keep hk, hr, ⟨hg.os.trans hBX.os, hg.tape.trans hBX.tape, hg.output.trans hBX.output, Nat.le_trans hBX.size hg.size, fun b hb => (hg.block b (Nat.lt_of_lt_of_le hb hBX.size) (fun e => ?_)).trans (hBX.block b hb)⟩⟩
  have := (h.r4.oE.lt b e.symm).1
  omega
theorem Tq.appF {w V X w1 : World} {P : List Nat} {S E : List Bool} {vS : Value} {nS : Nat} {lS : List Value} {vM : Value} {nM : Nat} {lM : List Value} {vE : Value} {nE : Nat} {lE : List Value} {vF : Value} {nF : Nat} {lF : List Value} {n' g cap : Nat} {l' : List Value} (h : Tq w V P S E vS nS lS vM nM lM vE nE lE vF nF lF) (hX : Below V.heap.size V X) (ho : w1.ownsRow w.heap.size 4 1 (.slice (some ⟨g, 0, none⟩) n' cap) n' l') (hg : X.grownBy w1 vF.ownBlock) (hat : vF.ownBlock = some g ∨ g = X.heap.size) : Tq w w1 P S E vS nS lS vM nM lM vE nE lE (.slice (some ⟨g, 0, none⟩) n' cap) n' l' := by
  obtain ⟨hr, hk⟩ := (h.r4.later hX).appF ho hg (hat.imp (fun e => e.symm) (fun e => by rw [← e]; rfl))
  have hBX := below_next h.bl hX
  refine ⟨(h.tr.keep (Kp.ofBelow hX)).keep hk, hr, ⟨hg.os.trans hBX.os, hg.tape.trans hBX.tape, hg.output.trans hBX.output, Nat.le_trans hBX.size hg.size, fun b hb => (hg.block b (Nat.lt_of_lt_of_le hb hBX.size) (fun e => ?_)).trans (hBX.block b hb)⟩⟩
  have := (h.r4.oF.lt b e.symm).1
  omega
theorem Tq.done {w V : World} {k m b : Nat} {zs : List Int} {P : List Nat} {S E F : List Bool} {s e f : Bool} {vS vM vE vF : Value} (h : Tq w V (P ++ [b]) (S ++ [s]) (E ++ [e]) vS (m + 1) (ptrs P ++ [.pointer (some ⟨b, 0, none⟩)]) vM (m + 1) (bls S ++ [.bool s]) vE (m + 1) (bls E ++ [.bool e]) vF (m + 1) (bls F ++ [.bool f])) (hm : m ≤ k) (hP : P.length = m) (hF : F.length = m) (hS : S ++ [s] = runS zs (k + 1)) : St4 w V w.heap.size (k + 1) (m + 1) zs vS vM vE vF (P ++ [b]) (E ++ [e]) (F ++ [f]) := by
  have e1 : ptrs P ++ [.pointer (some ⟨b, 0, none⟩)] = ptrs (P ++ [b]) := by simp [ptrs]
  have e2 : ∀ (L : List Bool) (q : Bool), bls L ++ [.bool q] = bls (L ++ [q]) := fun L q => by simp [bls]
  obtain ⟨h1, h2, h3⟩ := h
  rw [e1, e2, e2, e2, hS] at h2
  rw [hS] at h1
  exact ⟨by omega, by simp [hP], by simp [hF], h1, h2, h3⟩
theorem Fin.start {w wr V : World} {b k m : Nat} {zs : List Int} {cmd : Value} {q7 q8 q9 q10 s en : Bool} {vS vM vE vF : Value} {P : List Nat} {S E F : List Bool} (h : Fin wr V b cmd q7 q8 q9 q10 s en) (Y : S ++ [s] = runS zs (k + 1) ∧ Tr wr P S E ∧ R4 wr w.heap.size vS m (ptrs P) vM m (bls S) vE m (bls E) vF m (bls F)) (hB : Below w.heap.size w wr) : Tq w V (P ++ [b]) (S ++ [s]) (E ++ [en && !(q7 || q8 || q9 || q10)]) vS m (ptrs P) vM m (bls S) vE m (bls E) vF m (bls F) := by
  have hr := h.rp
  obtain ⟨cs, ra, rn, rc, _, _, _, _, _, _, _, _, hV, _⟩ := h
  exact ⟨(Y.2.1.keep (Kp.ofBelow hV)).snoc hr, Y.2.2.later hV, below_next hB hV⟩
end Go.Proofs.Ytccnpgmceoojmad.bld
