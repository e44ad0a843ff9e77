/-
  A let clause: what an append of one literal expression leaves, and where the clause starts and ends.
-/
import Derived.Test.YtlaihlpokpeahaaBaseF
import Derived.Test.YtlaihlpokpeahaaOrdG
import Derived.Deep.RegionLaw
import Derived.Laws.AppendOwn
import Derived.Laws.OwnMore
import Derived.Maps.AppendAt
import Derived.Deep.AppendLies
import Derived.OwnWalk
namespace Go.Proofs.Ytlaihlpokpeahaa.letc
open Go.RowKit
open Go.Proofs.Ytlaihlpokpeahaa

theorem mkPos (o l : Int) (w : World) : Calls Try.prog 7 #[.int .u32 o, .int .u32 l] w fun e w' => e = .returned (.agg #[.int .u32 o, .int .u32 l]) ∧ w.alloc (.cells #[.int .u32 o, .int .u32 l] 28) = w' := by
  go_enter Try.func7, Try.ntmps7
  go_wp2
  go_returns
  exact ⟨rfl, rfl⟩
theorem litEnd (b : Nat) (o l : Int) (w : World) (c0 : w.cell? ⟨b, 2, none⟩ = some (.int .u32 o)) (c1 : w.cell? ⟨b, 3, none⟩ = some (.int .u32 l)) :
    Calls Try.prog 34 #[.pointer (some ⟨b, 0, none⟩)] w fun e w' => e = .returned (.agg #[.int .u32 o, .int .u32 l]) ∧ w.alloc (.cells #[.int .u32 o, .int .u32 l] 28) = w' := by
  have hlt := lt_of_cell c0
  go_enter Try.func34, Try.ntmps34
  go_wp2
  go_returns
  exact ⟨rfl, rfl⟩
theorem newLet (o l : Int) (w : World) : Calls Try.prog 8 #[.agg #[.int .u32 o, .int .u32 l]] w fun e w' => e = .returned (.pointer (some ⟨w.heap.size + 1, 0, none⟩)) ∧ (w.alloc (.cells #[.int .u32 o, .int .u32 l] 28)).alloc (.cells #[.int .u32 o, .int .u32 l, .slice none 0 0] 37) = w' := by
  go_enter Try.func8, Try.ntmps8
  go_wp2
  go_ret
  exact ⟨rfl, rfl⟩
theorem letPos (b : Nat) (o l : Int) (w : World) (c0 : w.cell? ⟨b, 0, none⟩ = some (.int .u32 o)) (c1 : w.cell? ⟨b, 1, none⟩ = some (.int .u32 l)) :
    Calls Try.prog 10 #[.pointer (some ⟨b, 0, none⟩)] w fun e w' => e = .returned (.agg #[.int .u32 o, .int .u32 l]) ∧ w.alloc (.cells #[.int .u32 o, .int .u32 l] 28) = w' := by
  have hlt := lt_of_cell c0
  go_enter Try.func10, Try.ntmps10
  go_wp2
  go_returns
  exact ⟨rfl, rfl⟩
theorem info46 : (Try.prog.info? 46).map (fun i => (i.zero, i.size, i.bytes)) = some (some .nilIface, 1, 16) := by kernel_rfl
theorem oneI (T : TypeId) (q : Option Addr) : ∀ u ∈ [Value.iface T (.pointer q)], u.oneCell' = true := by intro u hu; simp at hu; subst hu; rfl
/-- append of one interface value onto a row of the call's own, as one step of a region that draws. -/
theorem step_append1 {ops : Array Oper} {o : Oper} {a : Act} {w : World} {K : Act → World → Prop} {Q : Exit → Act → World → Prop} {E : Prop} (hg : o.guard = none) (s x : Operand)
    (ho : o.op = .call { callee := .builtin .append, args := #[s, x], argTypes := #[35, 35] }) (B n : Nat) (v : Value) (xs : List Value) (hs : a.eval s = v) (hown : w.ownsRow B 46 1 v n xs) (ad : Addr) (q : Option Addr) (hx : a.eval x = .slice (some ad) 1 1)
    (hnews : ∀ j u, [Value.iface 38 (.pointer q)][j]? = some u → w.cell? (ad.add j) = some u) (hn : n ≤ 4096) (hB : B ≤ w.heap.size)
    (h : ∀ g cap w', w'.ownsRow B 46 1 (.slice (some ⟨g, 0, none⟩) (n + 1) cap) (n + 1) (xs ++ [.iface 38 (.pointer q)]) → w.grownBy w' v.ownBlock → K (a.put o.dst (.slice (some ⟨g, 0, none⟩) (n + 1) cap)) w') :
    if Region.wanted o (yielded ops a.tmps) = true then Oper.wp Try.prog o a w K Q else E := by
  rw [if_pos (by simp [Region.wanted, hg])]
  obtain ⟨i0, hi, hz0, hz1, hz2⟩ := info_parts info46
  refine wp_append_own w s x 35 ho B 46 i0 .nilIface 1 16 Try.underlying35 hi hz0 hz1 hz2 rfl (by decide) v n xs hs hown ad 1 1 [.iface 38 (.pointer q)] hx rfl hnews (oneI 38 q) (by unfold maxLen; omega) (by omega) hB ?_
  intro v' w' ho' hgr _
  rcases ho'.2 with ⟨_, h0⟩ | ⟨g, cap, cur, rfl, _⟩
  · omega
  · exact h g cap w' ho' hgr
theorem grown_set {w : World} (L k : Nat) (v : Value) : w.grownBy (w.setCell ⟨L, k, none⟩ v) (some L) := by
  have hb : Below L w (w.setCell ⟨L, k, none⟩ v) := by
    refine Below.setCell (Below.refl L w) ?_ _
    exact Nat.le_refl L
  refine ⟨hb.os, hb.tape, hb.output, hb.size, fun b hlt hne => ?_⟩
  have hne' : ¬ L = b := fun e => hne (by rw [e])
  exact Below.heap_setCell w ⟨L, k, none⟩ v b (fun e => hne' e.symm)
theorem own_later {w X : World} {B n : Nat} {v : Value} {xs : List Value} (h : w.ownsRow B 46 1 v n xs) (hb : Below w.heap.size w X) : X.ownsRow B 46 1 v n xs :=
  h.kept (row := none) ⟨hb.os, hb.tape, hb.output, hb.size, fun k hk _ => hb.block k hk⟩ (by cases v.ownBlock <;> simp)
theorem news_of {w : World} {b : Nat} {x : Value} (h : w.cell? ⟨b, 0, none⟩ = some x) : ∀ j u, [x][j]? = some u → w.cell? ((⟨b, 0, none⟩ : Addr).add j) = some u := by
  intro j u hu
  have hj : j = 0 := by
    rcases Nat.eq_zero_or_pos j with e | e
    · exact e
    · rw [List.getElem?_eq_none (by simp; omega)] at hu; cases hu
  subst hj
  simp at hu
  subst hu
  have ea : (⟨b, 0, none⟩ : Addr).add 0 = ⟨b, 0, none⟩ := by unfold Addr.add; split <;> simp_all
  rw [ea]
  exact h
theorem aft {w X w1 : World} {v : Value} {row : Option Nat} {L : Nat} (hb : Below w.heap.size w X) (hg : X.grownBy w1 row) (c2 : w.cell? ⟨L, 2, none⟩ = some v) (f2 : w.frozen? ⟨L, 2, none⟩ = false) (hne : row ≠ some L) : w1.cell? ⟨L, 2, none⟩ = some v ∧ w1.frozen? ⟨L, 2, none⟩ = false := by
  have hlt := lt_of_cell c2
  have h1 := hg.block L (Nat.lt_of_lt_of_le hlt hb.size) (fun e => hne e.symm)
  exact ⟨(World.cell?_of_block (a := ⟨L, 2, none⟩) h1).trans (cell_later hb c2), (World.frozen?_of_block (a := ⟨L, 2, none⟩) h1).trans ((hb.frozen (p := ⟨L, 2, none⟩) hlt).trans f2)⟩
/-- What an append leaves. -/
def Appd (L B n : Nat) (o l : Int) (v : Value) (w : World) (e : Ending) (w' : World) : Prop :=
  e = .returned (.tuple #[]) ∧ ∃ g cap wb pb tb xs', w'.cell? ⟨L, 2, none⟩ = some (.slice (some ⟨g, 0, none⟩) (n + 1) cap) ∧ w'.ownsRow B 46 1 (.slice (some ⟨g, 0, none⟩) (n + 1) cap) (n + 1) xs' ∧
    w'.cell? ⟨g, n, none⟩ = some (.iface 38 (.pointer (some ⟨wb, 0, none⟩))) ∧ w'.cell? ⟨wb, 0, none⟩ = some (.slice (some ⟨pb, 0, none⟩) 1 1) ∧ w'.cell? ⟨pb, 0, none⟩ = some (.iface 39 (.pointer (some ⟨tb, 0, none⟩))) ∧ w'.cell? ⟨tb, 2, none⟩ = some (.int .u32 o) ∧ w'.cell? ⟨tb, 3, none⟩ = some (.int .u32 l) ∧
    w'.frozen? ⟨L, 2, none⟩ = false ∧ (∀ b, b < w.heap.size → b ≠ L → v.ownBlock ≠ some b → w'.heap[b]? = w.heap[b]?) ∧ (∀ k, k ≠ 2 → w'.cell? ⟨L, k, none⟩ = w.cell? ⟨L, k, none⟩) ∧ w.heap.size ≤ w'.heap.size ∧ w'.os = w.os ∧ w'.tape = w.tape ∧ w'.output = w.output
theorem keepG {w X w1 : World} {row : Option Nat} {a : Addr} {u : Value} (hb : Below w.heap.size w X) (hg : X.grownBy w1 row) (h : w.cell? a = some u) (hne : row ≠ some a.block) : w1.cell? a = some u := by
  have hlt := World.block_lt_of_cell? _ _ h
  exact (World.cell?_of_block (hg.block a.block (Nat.lt_of_lt_of_le hlt hb.size) (fun e => hne e.symm))).trans (cell_later hb h)
theorem appd_of {L B n g cap : Nat} {o l : Int} {v : Value} {xs : List Value} {w W X w1 : World} {wb pb tb : Nat} (hL : L < B) (hB : B ≤ w.heap.size) (BW : Below w.heap.size w W) (hX : Below W.heap.size W X) (HG : X.grownBy w1 v.ownBlock)
    (hown : w.ownsRow B 46 1 v n xs) (HO : w1.ownsRow B 46 1 (.slice (some ⟨g, 0, none⟩) (n + 1) cap) (n + 1) (xs ++ [.iface 38 (.pointer (some ⟨wb, 0, none⟩))])) (q2 : w1.cell? ⟨L, 2, none⟩ = some v) (q3 : w1.frozen? ⟨L, 2, none⟩ = false)
    (hwb : w.heap.size ≤ wb) (hpb : w.heap.size ≤ pb) (htb : w.heap.size ≤ tb) (x1 : X.cell? ⟨wb, 0, none⟩ = some (.slice (some ⟨pb, 0, none⟩) 1 1)) (x2 : X.cell? ⟨pb, 0, none⟩ = some (.iface 39 (.pointer (some ⟨tb, 0, none⟩)))) (x3 : X.cell? ⟨tb, 2, none⟩ = some (.int .u32 o)) (x4 : X.cell? ⟨tb, 3, none⟩ = some (.int .u32 l)) :
    Appd L B n o l v w (.returned (.tuple #[])) (w1.setCell ⟨L, 2, none⟩ (.slice (some ⟨g, 0, none⟩) (n + 1) cap)) := by
  have hXl : w.heap.size ≤ X.heap.size := Nat.le_trans BW.size hX.size
  have far : ∀ m, w.heap.size ≤ m → v.ownBlock ≠ some m := fun m hm e => by have := (hown.lt m e).2; omega
  have keepX : ∀ (m k : Nat) (u : Value), w.heap.size ≤ m → X.cell? ⟨m, k, none⟩ = some u → (w1.setCell ⟨L, 2, none⟩ (.slice (some ⟨g, 0, none⟩) (n + 1) cap)).cell? ⟨m, k, none⟩ = some u := fun m k u hm hu => by
    rw [World.cell?_setCell_other _ _ _ _ (fun e => by have := congrArg Addr.block e; simp at this; omega)]
    exact keepG (Below.refl _ X) HG hu (far m hm)
  have hgB : B ≤ g ∧ g < w1.heap.size := HO.lt g rfl
  have hgr := grown_set (w := w1) L 2 (.slice (some ⟨g, 0, none⟩) (n + 1) cap)
  have HO' : (w1.setCell ⟨L, 2, none⟩ (.slice (some ⟨g, 0, none⟩) (n + 1) cap)).ownsRow B 46 1 (.slice (some ⟨g, 0, none⟩) (n + 1) cap) (n + 1) (xs ++ [.iface 38 (.pointer (some ⟨wb, 0, none⟩))]) :=
    HO.kept hgr (Or.inr (fun e => by simp [Value.ownBlock] at e; omega))
  have hlast := HO'.cells (g := g) rfl n (.iface 38 (.pointer (some ⟨wb, 0, none⟩))) (by have := hown.1; simp at this; rw [List.getElem?_append_right (by omega)]; simp [this])
  have ea : (⟨g, 0, none⟩ : Addr).add n = ⟨g, n, none⟩ := by unfold Addr.add; split <;> simp_all
  rw [ea] at hlast
  refine ⟨rfl, g, cap, wb, pb, tb, _, World.cell?_setCell_same _ _ _ q2, HO', hlast, keepX _ _ _ hwb x1, keepX _ _ _ hpb x2, keepX _ _ _ htb x3, keepX _ _ _ htb x4, ?_, fun b hb hne h1 => ?_, fun k hk => ?_, ?_, ?_, ?_, ?_⟩
  · simp [go_sem, q3]
  · rw [Below.heap_setCell w1 ⟨L, 2, none⟩ _ b hne]
    exact ((HG.block b (by omega) (fun e => h1 e.symm)).trans (hX.block b (Nat.lt_of_lt_of_le (by omega : b < w.heap.size) BW.size))).trans (BW.block b (by omega))
  · rw [World.cell?_setCell_other _ _ _ _ (fun e => by have := congrArg Addr.off e; simp at this; omega)]
    have h1 : v.ownBlock ≠ some L := fun e => by have := (hown.lt L e).1; omega
    exact ((World.cell?_of_block (a := ⟨L, k, none⟩) (HG.block L (by omega) (fun e => h1 e.symm))).trans (hX.cell (p := ⟨L, k, none⟩) (Nat.lt_of_lt_of_le (by omega : L < w.heap.size) BW.size))).trans (BW.cell (p := ⟨L, k, none⟩) (by simp; omega))
  · exact Nat.le_trans (Nat.le_trans hXl HG.size) hgr.size
  · exact hgr.os.trans (HG.os.trans (hX.os.trans BW.os))
  · exact hgr.tape.trans (HG.tape.trans (hX.tape.trans BW.tape))
  · exact hgr.output.trans (HG.output.trans (hX.output.trans BW.output))
set_option maxRecDepth 100000 in
set_option maxHeartbeats 1000000 in
theorem append (L B n : Nat) (a b o l : Int) (v : Value) (xs : List Value) (w : World) (hL : L < B) (hB : B ≤ w.heap.size) (hn : n ≤ 4096) (c2 : w.cell? ⟨L, 2, none⟩ = some v) (f2 : w.frozen? ⟨L, 2, none⟩ = false) (hown : w.ownsRow B 46 1 v n xs) :
    Calls Try.prog 9 #[.pointer (some ⟨L, 0, none⟩), .agg #[.int .u32 a, .int .u32 b], .agg #[.int .u32 o, .int .u32 l]] w (Appd L B n o l v w) := by
  have hlt := lt_of_cell c2
  have hne : v.ownBlock ≠ some L := fun e => by have := (hown.lt L e).1; omega
  have HW := Lib.hid (fun (m : Nat) (hm : w.heap.size ≤ m) => show v.ownBlock ≠ some m from fun e => by have := (hown.lt m e).2; omega)
  have HN := Lib.hid hne
  have HO0 := Lib.hid hown
  have HOW := HO0
  clear hne hown
  go_enter Try.func9, Try.ntmps9
  go_wp2_with fail
  refine wp_world (fun W => W.cell? ⟨L, 2, none⟩ = some v ∧ W.cell? ⟨w.heap.size, 0, none⟩ = some (.int .u32 a) ∧ W.cell? ⟨w.heap.size, 1, none⟩ = some (.int .u32 b) ∧ W.cell? ⟨w.heap.size + 1, 0, none⟩ = some (.int .u32 o) ∧ W.cell? ⟨w.heap.size + 1, 1, none⟩ = some (.int .u32 l) ∧ W.frozen? ⟨L, 2, none⟩ = false ∧ W.ownsRow B 46 1 v n xs ∧ Below w.heap.size w W)
    ⟨cell_later (by go_grown) c2, by simp [go_sem], by simp [go_sem], by simp [go_sem], by simp [go_sem], by simp [go_sem, *], own_later HO0.out (by go_grown), by go_grown⟩ ?_
  rintro W ⟨s0, s1, s2, s3, s4, f2, hown, BW⟩
  have HO := Lib.hid hown
  have hlW := lt_of_cell s0
  have hl1 := lt_of_cell s3
  have hsz := BW.size
  clear hown c2
  refine wp_region_G (L := 18) (S := fun V => V.cell? ⟨L, 2, none⟩ = some v ∧ V.cell? ⟨w.heap.size, 0, none⟩ = some (.int .u32 a) ∧ V.cell? ⟨w.heap.size, 1, none⟩ = some (.int .u32 b) ∧ V.cell? ⟨w.heap.size + 1, 0, none⟩ = some (.int .u32 o) ∧ V.cell? ⟨w.heap.size + 1, 1, none⟩ = some (.int .u32 l)) (by kernel_rfl) ?_
  have hS : (fun V => V.cell? ⟨L, 2, none⟩ = some v ∧ V.cell? ⟨w.heap.size, 0, none⟩ = some (.int .u32 a) ∧ V.cell? ⟨w.heap.size, 1, none⟩ = some (.int .u32 b) ∧ V.cell? ⟨w.heap.size + 1, 0, none⟩ = some (.int .u32 o) ∧ V.cell? ⟨w.heap.size + 1, 1, none⟩ = some (.int .u32 l)) W.drew := ⟨cell_later (w := W) (by go_grown) s0, cell_later (w := W) (by go_grown) s1, cell_later (w := W) (by go_grown) s2, cell_later (w := W) (by go_grown) s3, cell_later (w := W) (by go_grown) s4⟩
  refine' wpAnyG_take (i := 0) (oi := ⟨some 6, _, _, _, _, _⟩) (v := _) rfl (by kernel_rfl) (by kernel_rfl) (by kernel_rfl) (by kernel_rfl) (by kernel_rfl) (by kernel_rfl) (fun _ _ _ h => h) (Or.inl ⟨by rfl, ?_⟩) hS ?_
  rotate_left
  · intro w hSw
    obtain ⟨z1, z2, z3, z4, z5⟩ := hSw
    go_simp
    try with_reducible rfl
  try simp only [Act.put, List.setIfInBounds_toArray, List.set_cons_zero, List.set_cons_succ]
  refine' wpAnyG_take (i := 1) (oi := ⟨some 7, _, _, _, _, _⟩) (v := _) rfl (by kernel_rfl) (by kernel_rfl) (by kernel_rfl) (by kernel_rfl) (by kernel_rfl) (by kernel_rfl) (fun _ _ _ h => h) (Or.inl ⟨by rfl, ?_⟩) hS ?_
  rotate_left
  · intro w hSw
    obtain ⟨z1, z2, z3, z4, z5⟩ := hSw
    go_simp
    try with_reducible rfl
  try simp only [Act.put, List.setIfInBounds_toArray, List.set_cons_zero, List.set_cons_succ]
  refine' wpAnyG_take (i := 2) (oi := ⟨some 8, _, _, _, _, _⟩) (v := _) rfl (by kernel_rfl) (by kernel_rfl) (by kernel_rfl) (by kernel_rfl) (by kernel_rfl) (by kernel_rfl) (fun _ _ _ h => h) (Or.inl ⟨by rfl, ?_⟩) hS ?_
  rotate_left
  · intro w hSw
    obtain ⟨z1, z2, z3, z4, z5⟩ := hSw
    go_simp
    try with_reducible rfl
  try simp only [Act.put, List.setIfInBounds_toArray, List.set_cons_zero, List.set_cons_succ]
  refine' wpAnyG_take (i := 3) (oi := ⟨some 9, _, _, _, _, _⟩) (v := _) rfl (by kernel_rfl) (by kernel_rfl) (by kernel_rfl) (by kernel_rfl) (by kernel_rfl) (by kernel_rfl) (fun _ _ _ h => h) (Or.inl ⟨by rfl, ?_⟩) hS ?_
  rotate_left
  · intro w hSw
    obtain ⟨z1, z2, z3, z4, z5⟩ := hSw
    go_simp
    try with_reducible rfl
  try simp only [Act.put, List.setIfInBounds_toArray, List.set_cons_zero, List.set_cons_succ]
  refine' wpAnyG_take (i := 4) (oi := ⟨some 10, _, _, _, _, _⟩) (v := _) rfl (by kernel_rfl) (by kernel_rfl) (by kernel_rfl) (by kernel_rfl) (by kernel_rfl) (by kernel_rfl) (fun _ _ _ h => h) (Or.inl ⟨by rfl, ?_⟩) hS ?_
  rotate_left
  · intro w hSw
    obtain ⟨z1, z2, z3, z4, z5⟩ := hSw
    go_simp
    try with_reducible rfl
  try simp only [Act.put, List.setIfInBounds_toArray, List.set_cons_zero, List.set_cons_succ]
  refine' wpAnyG_take (i := 5) (oi := ⟨some 11, _, _, _, _, _⟩) (v := _) rfl (by kernel_rfl) (by kernel_rfl) (by kernel_rfl) (by kernel_rfl) (by kernel_rfl) (by kernel_rfl) (fun _ _ _ h => h) (Or.inl ⟨by rfl, ?_⟩) hS ?_
  rotate_left
  · intro w hSw
    obtain ⟨z1, z2, z3, z4, z5⟩ := hSw
    go_simp
    try with_reducible rfl
  try simp only [Act.put, List.setIfInBounds_toArray, List.set_cons_zero, List.set_cons_succ]
  refine' wpAnyG_take (i := 6) (oi := ⟨some 12, _, _, _, _, _⟩) (v := _) rfl (by kernel_rfl) (by kernel_rfl) (by kernel_rfl) (by kernel_rfl) (by kernel_rfl) (by kernel_rfl) (fun _ _ _ h => h) (Or.inl ⟨by rfl, ?_⟩) hS ?_
  rotate_left
  · intro w hSw
    obtain ⟨z1, z2, z3, z4, z5⟩ := hSw
    go_simp
    try with_reducible rfl
  try simp only [Act.put, List.setIfInBounds_toArray, List.set_cons_zero, List.set_cons_succ]
  refine' wpAnyG_take (i := 7) (oi := ⟨some 13, _, _, _, _, _⟩) (v := _) rfl (by kernel_rfl) (by kernel_rfl) (by kernel_rfl) (by kernel_rfl) (by kernel_rfl) (by kernel_rfl) (fun _ _ _ h => h) (Or.inl ⟨by rfl, ?_⟩) hS ?_
  rotate_left
  · intro w hSw
    obtain ⟨z1, z2, z3, z4, z5⟩ := hSw
    go_simp
    try with_reducible rfl
  try simp only [Act.put, List.setIfInBounds_toArray, List.set_cons_zero, List.set_cons_succ]
  refine wpAnyG_one (i := 8) (o := ⟨some 14, _, _, _, _, _⟩) (by kernel_rfl) rfl (fun K hK => ?_)
  go_simp
  clear hS
  refine hK.out _ _ (fun _ => ⟨cell_later (w := W) (by go_grown) s0, cell_later (w := W) (by go_grown) s1, cell_later (w := W) (by go_grown) s2, cell_later (w := W) (by go_grown) s3, cell_later (w := W) (by go_grown) s4⟩) (fun hS => ?_)
  replace hS := hS (by decide)
  clear hK K
  try simp only [Act.put, List.setIfInBounds_toArray, List.set_cons_zero, List.set_cons_succ]
  refine' wpAnyG_take (i := 9) (oi := ⟨some 15, _, _, _, _, _⟩) (v := _) rfl (by kernel_rfl) (by kernel_rfl) (by kernel_rfl) (by kernel_rfl) (by kernel_rfl) (by kernel_rfl) (fun _ _ _ h => h) (Or.inl ⟨by rfl, ?_⟩) hS ?_
  rotate_left
  · intro w hSw
    obtain ⟨z1, z2, z3, z4, z5⟩ := hSw
    go_simp
    try with_reducible rfl
  try simp only [Act.put, List.setIfInBounds_toArray, List.set_cons_zero, List.set_cons_succ]
  refine wpAnyG_one (i := 10) (o := ⟨some 16, _, _, _, _, _⟩) (by kernel_rfl) rfl (fun K hK => ?_)
  go_simp
  clear hS
  refine hK.out _ _ (fun _ => ⟨cell_later (w := W) (by go_grown) s0, cell_later (w := W) (by go_grown) s1, cell_later (w := W) (by go_grown) s2, cell_later (w := W) (by go_grown) s3, cell_later (w := W) (by go_grown) s4⟩) (fun hS => ?_)
  replace hS := hS (by decide)
  clear hK K
  try simp only [Act.put, List.setIfInBounds_toArray, List.set_cons_zero, List.set_cons_succ]
  refine' wpAnyG_take (i := 11) (oi := ⟨some 17, _, _, _, _, _⟩) (v := _) rfl (by kernel_rfl) (by kernel_rfl) (by kernel_rfl) (by kernel_rfl) (by kernel_rfl) (by kernel_rfl) (fun _ _ _ h => h) (Or.inl ⟨by rfl, ?_⟩) hS ?_
  rotate_left
  · intro w hSw
    obtain ⟨z1, z2, z3, z4, z5⟩ := hSw
    go_simp
    try with_reducible rfl
  try simp only [Act.put, List.setIfInBounds_toArray, List.set_cons_zero, List.set_cons_succ]
  refine wpAnyG_one (i := 12) (o := ⟨some 18, _, _, _, _, _⟩) (by kernel_rfl) rfl (fun K hK => ?_)
  go_simp
  clear hS
  refine hK.out _ _ (fun _ => ⟨cell_later (w := W) (by go_grown) s0, cell_later (w := W) (by go_grown) s1, cell_later (w := W) (by go_grown) s2, cell_later (w := W) (by go_grown) s3, cell_later (w := W) (by go_grown) s4⟩) (fun hS => ?_)
  replace hS := hS (by decide)
  clear hK K
  try simp only [Act.put, List.setIfInBounds_toArray, List.set_cons_zero, List.set_cons_succ]
  refine' wpAnyG_take (i := 13) (oi := ⟨some 19, _, _, _, _, _⟩) (v := _) rfl (by kernel_rfl) (by kernel_rfl) (by kernel_rfl) (by kernel_rfl) (by kernel_rfl) (by kernel_rfl) (fun _ _ _ h => h) (Or.inl ⟨by rfl, ?_⟩) hS ?_
  rotate_left
  · intro w hSw
    obtain ⟨z1, z2, z3, z4, z5⟩ := hSw
    go_simp
    try with_reducible rfl
  try simp only [Act.put, List.setIfInBounds_toArray, List.set_cons_zero, List.set_cons_succ]
  refine wpAnyG_one (i := 14) (o := ⟨some 20, _, _, _, _, _⟩) (by kernel_rfl) rfl (fun K hK => ?_)
  go_simp
  clear hS
  refine hK.out _ _ (fun _ => ⟨cell_later (w := W) (by go_grown) s0, cell_later (w := W) (by go_grown) s1, cell_later (w := W) (by go_grown) s2, cell_later (w := W) (by go_grown) s3, cell_later (w := W) (by go_grown) s4⟩) (fun hS => ?_)
  replace hS := hS (by decide)
  clear hK K
  try simp only [Act.put, List.setIfInBounds_toArray, List.set_cons_zero, List.set_cons_succ]
  refine wpAnyG_one (i := 15) (o := ⟨some 21, _, _, _, _, _⟩) (by kernel_rfl) rfl (fun K hK => ?_)
  refine step_append1 rfl _ _ rfl B n v xs rfl (own_later HO.out (by go_grown)) ⟨W.heap.size + 1 + 1 + 1, 0, none⟩ (some ⟨W.heap.size + 1 + 1, 0, none⟩) rfl (news_of (by simp [go_sem])) hn (by simp; omega) ?_
  intro g cap w1 ho1 hg1
  have HG1 := Lib.hid hg1
  have HO1 := Lib.hid ho1
  clear hS
  refine hK.out _ _ (fun _ => ⟨keepG (w := W) (by go_grown) hg1 s0 HN.out, keepG (w := W) (by go_grown) hg1 s1 (HW.out _ (by simp)), keepG (w := W) (by go_grown) hg1 s2 (HW.out _ (by simp)), keepG (w := W) (by go_grown) hg1 s3 (HW.out _ (by simp)), keepG (w := W) (by go_grown) hg1 s4 (HW.out _ (by simp))⟩) (fun hS => ?_)
  replace hS := hS (by decide)
  clear hK K
  try simp only [Act.put, List.setIfInBounds_toArray, List.set_cons_zero, List.set_cons_succ]
  clear hg1 ho1
  refine' wpAnyG_take (i := 16) (oi := ⟨some 22, _, _, _, _, _⟩) (v := _) rfl (by kernel_rfl) (by kernel_rfl) (by kernel_rfl) (by kernel_rfl) (by kernel_rfl) (by kernel_rfl) (fun _ _ _ h => h) (Or.inl ⟨by rfl, ?_⟩) hS ?_
  rotate_left
  · intro w hSw
    obtain ⟨z1, z2, z3, z4, z5⟩ := hSw
    go_simp
    try with_reducible rfl
  try simp only [Act.put, List.setIfInBounds_toArray, List.set_cons_zero, List.set_cons_succ]
  refine' wpAnyG_take (i := 17) (oi := ⟨some 23, _, _, _, _, _⟩) (v := _) rfl (by kernel_rfl) (by kernel_rfl) (by kernel_rfl) (by kernel_rfl) (by kernel_rfl) (by kernel_rfl) (fun _ _ _ h => h) (Or.inl ⟨by rfl, ?_⟩) hS ?_
  rotate_left
  · intro w hSw
    obtain ⟨z1, z2, z3, z4, z5⟩ := hSw
    go_simp
    try with_reducible rfl
  try simp only [Act.put, List.setIfInBounds_toArray, List.set_cons_zero, List.set_cons_succ]
  obtain ⟨q2, q3⟩ := aft (w := W) (by go_grown) HG1.out s0 f2 HN.out
  refine wpAnyG_one (i := 18) (o := ⟨none, _, _, _, _, _⟩) (by kernel_rfl) rfl (fun K hK => ?_)
  go_simp
  refine hK.out _ _ (fun h => absurd rfl h) (fun _ => ?_)
  clear hK K
  refine wpAnyG_done (by kernel_rfl) ?_ _
  go_wp2
  go_end0
  exact appd_of (wb := W.heap.size + 1 + 1) (pb := W.heap.size + 1) (tb := W.heap.size) hL hB BW (by go_grown) HG1.out HOW.out HO1.out q2 q3 (by omega) (by omega) (by omega) (by simp [go_sem]) (by simp [go_sem]) (by simp [go_sem]) (by simp [go_sem])
end Go.Proofs.Ytlaihlpokpeahaa.letc
