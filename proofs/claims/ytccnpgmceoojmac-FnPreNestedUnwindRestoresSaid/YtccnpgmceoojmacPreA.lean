/-
  The parser's quote state, its count of buried heredocs and its row of pending heredocs: what preNested, postNested and a push leave.
-/
import Derived.Test.YtccnpgmceoojmacBaseF
import Derived.Laws.AppendOwn
namespace Go.Proofs.Ytccnpgmceoojmac.nest
open Go.RowKit
open Go.Proofs.Ytccnpgmceoojmac

/-- The parser at p: quote, buried count, the row of n pending heredocs (its blocks from B on). -/
structure HP (w : World) (p B : Nat) (Q Bu : Int) (v : Value) (n : Nat) (xs : List Value) : Prop where
  q : w.cell? ⟨p, 17, none⟩ = some (.int .u32 Q)
  b : w.cell? ⟨p, 25, none⟩ = some (.int .i64 Bu)
  h : w.cell? ⟨p, 26, none⟩ = some v
  fq : w.frozen? ⟨p, 17, none⟩ = false
  fb : w.frozen? ⟨p, 25, none⟩ = false
  fh : w.frozen? ⟨p, 26, none⟩ = false
  own : w.ownsRow B 45 1 v n xs
  pB : p < B
  sz : B ≤ w.heap.size
/-- What is left alone: every block below B but the parser's own. -/
structure Fr (p B : Nat) (w w' : World) : Prop where
  blk : ∀ b, b < B → b ≠ p → w'.heap[b]? = w.heap[b]?
  sz : w.heap.size ≤ w'.heap.size
  os : w'.os = w.os
  tape : w'.tape = w.tape
  output : w'.output = w.output
theorem Fr.refl (p B : Nat) (w : World) : Fr p B w w := ⟨fun _ _ _ => rfl, Nat.le_refl _, rfl, rfl, rfl⟩
theorem Fr.trans {p B : Nat} {a b c : World} (h : Fr p B a b) (g : Fr p B b c) : Fr p B a c := ⟨fun k h1 h2 => (g.blk k h1 h2).trans (h.blk k h1 h2), Nat.le_trans h.sz g.sz, g.os.trans h.os, g.tape.trans h.tape, g.output.trans h.output⟩
theorem Fr.ofBelow {p B : Nat} {w w' : World} (h : Below B w w') : Fr p B w w' := ⟨fun k h1 _ => h.block k h1, h.size, h.os, h.tape, h.output⟩
theorem Fr.cell {p B : Nat} {w w' : World} (h : Fr p B w w') {b k : Nat} {u : Value} (hb : b < B) (hne : b ≠ p) (hc : w.cell? ⟨b, k, none⟩ = some u) : w'.cell? ⟨b, k, none⟩ = some u := (World.cell?_of_block (a := ⟨b, k, none⟩) (h.blk b hb hne)).trans hc
theorem Fr.below {p B m : Nat} {w w' : World} (h : Fr p B w w') (hm : m ≤ p) (hp : p < B) : Below m w w' := ⟨h.os, h.tape, h.output, h.sz, fun k hk => h.blk k (by omega) (by omega)⟩
theorem own_later {w X : World} {B n : Nat} {v : Value} {xs : List Value} (h : w.ownsRow B 45 1 v n xs) (hb : Below w.heap.size w X) : X.ownsRow B 45 1 v n xs :=
  h.kept (row := none) ⟨hb.os, hb.tape, hb.output, hb.size, fun k hk _ => hb.block k hk⟩ (by cases v.ownBlock <;> simp)
theorem HP.later {w wx : World} {p B : Nat} {Q Bu : Int} {v : Value} {n : Nat} {xs : List Value} (h : HP w p B Q Bu v n xs) (hb : Below w.heap.size w wx) : HP wx p B Q Bu v n xs :=
  have hlt := lt_of_cell h.q
  ⟨cell_later hb h.q, cell_later hb h.b, cell_later hb h.h, (hb.frozen (p := ⟨p, 17, none⟩) hlt).trans h.fq, (hb.frozen (p := ⟨p, 25, none⟩) hlt).trans h.fb, (hb.frozen (p := ⟨p, 26, none⟩) hlt).trans h.fh, own_later h.own hb, h.pB, Nat.le_trans h.sz hb.size⟩
theorem grown_set {w : World} (L k : Nat) (v : Value) : w.grownBy (w.setCell ⟨L, k, none⟩ v) (some L) := by
  have hb : Below L w (w.setCell ⟨L, k, none⟩ v) := by
    refine Below.setCell (Below.refl L w) ?_ _
    exact Nat.le_refl L
  refine ⟨hb.os, hb.tape, hb.output, hb.size, fun b hlt hne => ?_⟩
  have hne' : ¬ L = b := fun e => hne (by rw [e])
  exact Below.heap_setCell w ⟨L, k, none⟩ v b (fun e => hne' e.symm)
theorem Fr.set (p B k : Nat) (w : World) (v : Value) : Fr p B w (w.setCell ⟨p, k, none⟩ v) := by
  have hg := grown_set (w := w) p k v
  exact ⟨fun b _ hne => Below.heap_setCell w ⟨p, k, none⟩ v b hne, hg.size, hg.os, hg.tape, hg.output⟩
theorem Fr.setp {p B k : Nat} {w X : World} {v : Value} (h : Fr p B w X) : Fr p B w (X.setCell ⟨p, k, none⟩ v) := h.trans (Fr.set p B k X v)
theorem Fr.seth {p B g k : Nat} {w X : World} {v : Value} (h : Fr p B w X) (hg : B ≤ g) : Fr p B w (X.setCell ⟨g, k, none⟩ v) := by
  have hgr := grown_set (w := X) g k v
  exact h.trans ⟨fun b hb _ => Below.heap_setCell X ⟨g, k, none⟩ v b (by simp; omega), hgr.size, hgr.os, hgr.tape, hgr.output⟩
theorem Fr.alloc {p B : Nat} {w X : World} (h : Fr p B w X) (hB : B ≤ X.heap.size) (o : Obj) : Fr p B w (X.alloc o) := h.trans (Fr.ofBelow ((Below.refl B X).alloc hB o))
theorem Fr.drew {p B : Nat} {w X : World} (h : Fr p B w X) : Fr p B w X.drew := h.trans ⟨fun _ _ _ => rfl, Nat.le_refl _, rfl, rfl, rfl⟩
/-- A store into another block. -/
theorem HP.other {w : World} {p B : Nat} {Q Bu : Int} {v : Value} {n : Nat} {xs : List Value} (h : HP w p B Q Bu v n xs) (g k : Nat) (u : Value) (hne : g ≠ p) (hv : v.ownBlock ≠ some g) : HP (w.setCell ⟨g, k, none⟩ u) p B Q Bu v n xs := by
  have hn : ∀ j, (⟨g, k, none⟩ : Addr) ≠ ⟨p, j, none⟩ := fun j e => hne (congrArg Addr.block e)
  have hgr := grown_set (w := w) g k u
  have hf : ∀ j, (w.setCell ⟨g, k, none⟩ u).frozen? ⟨p, j, none⟩ = w.frozen? ⟨p, j, none⟩ := fun j => World.frozen?_of_block (a := ⟨p, j, none⟩) (Below.heap_setCell w ⟨g, k, none⟩ u p (fun e => hne e.symm))
  exact ⟨(World.cell?_setCell_other _ _ _ _ (hn 17)).trans h.q, (World.cell?_setCell_other _ _ _ _ (hn 25)).trans h.b, (World.cell?_setCell_other _ _ _ _ (hn 26)).trans h.h, (hf 17).trans h.fq, (hf 25).trans h.fb, (hf 26).trans h.fh,
    h.own.kept hgr (Or.inr hv), h.pB, Nat.le_trans h.sz hgr.size⟩
theorem HP.low {w : World} {p B : Nat} {Q Bu : Int} {v : Value} {n : Nat} {xs : List Value} (h : HP w p B Q Bu v n xs) {g : Nat} (hg : g < B) : v.ownBlock ≠ some g := fun e => by have := (h.own.lt g e).1; omega
theorem HP.high {w : World} {p B : Nat} {Q Bu : Int} {v : Value} {n : Nat} {xs : List Value} (h : HP w p B Q Bu v n xs) {g : Nat} (hg : w.heap.size ≤ g) : v.ownBlock ≠ some g := fun e => by have := (h.own.lt g e).2; omega
/-- A store of the quote, of the buried count. -/
theorem HP.setQ {w : World} {p B : Nat} {Q Bu : Int} {v : Value} {n : Nat} {xs : List Value} (h : HP w p B Q Bu v n xs) (Q' : Int) : HP (w.setCell ⟨p, 17, none⟩ (.int .u32 Q')) p B Q' Bu v n xs := by
  have hf : ∀ j, (w.setCell ⟨p, 17, none⟩ (.int .u32 Q')).frozen? ⟨p, j, none⟩ = w.frozen? ⟨p, j, none⟩ := fun j => by simp [go_sem]
  have hgr := grown_set (w := w) p 17 (.int .u32 Q')
  exact ⟨World.cell?_setCell_same _ _ _ h.q, (World.cell?_setCell_other _ _ _ _ (fun e => by have := congrArg Addr.off e; simp at this)).trans h.b, (World.cell?_setCell_other _ _ _ _ (fun e => by have := congrArg Addr.off e; simp at this)).trans h.h, (hf 17).trans h.fq, (hf 25).trans h.fb, (hf 26).trans h.fh,
    h.own.kept hgr (Or.inr (fun e => by have := (h.own.lt p e).1; have := h.pB; omega)), h.pB, Nat.le_trans h.sz hgr.size⟩
theorem HP.setB {w : World} {p B : Nat} {Q Bu : Int} {v : Value} {n : Nat} {xs : List Value} (h : HP w p B Q Bu v n xs) (B' : Int) : HP (w.setCell ⟨p, 25, none⟩ (.int .i64 B')) p B Q B' v n xs := by
  have hf : ∀ j, (w.setCell ⟨p, 25, none⟩ (.int .i64 B')).frozen? ⟨p, j, none⟩ = w.frozen? ⟨p, j, none⟩ := fun j => by simp [go_sem]
  have hgr := grown_set (w := w) p 25 (.int .i64 B')
  exact ⟨(World.cell?_setCell_other _ _ _ _ (fun e => by have := congrArg Addr.off e; simp at this)).trans h.q, World.cell?_setCell_same _ _ _ h.b, (World.cell?_setCell_other _ _ _ _ (fun e => by have := congrArg Addr.off e; simp at this)).trans h.h, (hf 17).trans h.fq, (hf 25).trans h.fb, (hf 26).trans h.fh,
    h.own.kept hgr (Or.inr (fun e => by have := (h.own.lt p e).1; have := h.pB; omega)), h.pB, Nat.le_trans h.sz hgr.size⟩
theorem zquote (p : Nat) (Q : Int) (w : World) (h : w.cell? ⟨p, 17, none⟩ = some (.int .u32 Q)) : Calls Try.prog 28 #[.pointer (some ⟨p, 0, none⟩)] w fun e w' => e = .returned (.int .u32 Q) ∧ w = w' := by
  go_enter Try.func28, Try.ntmps28
  go_wp2
  go_ret
  exact ⟨rfl, rfl⟩
theorem zburied (p : Nat) (Q : Int) (w : World) (h : w.cell? ⟨p, 25, none⟩ = some (.int .i64 Q)) : Calls Try.prog 29 #[.pointer (some ⟨p, 0, none⟩)] w fun e w' => e = .returned (.int .i64 Q) ∧ w = w' := by
  go_enter Try.func29, Try.ntmps29
  go_wp2
  go_ret
  exact ⟨rfl, rfl⟩
theorem own_len {w : World} {B n : Nat} {v : Value} {xs : List Value} (h : w.ownsRow B 45 1 v n xs) : ∃ a c, v = .slice a n c := by
  rcases h.2 with ⟨rfl, rfl⟩ | ⟨g, cap, cur, rfl, _⟩
  · exact ⟨none, 0, rfl⟩
  · exact ⟨_, _, rfl⟩
theorem zhdocs (p B : Nat) (Q Bu : Int) (v : Value) (n : Nat) (xs : List Value) (w : World) (h : HP w p B Q Bu v n xs) : Calls Try.prog 31 #[.pointer (some ⟨p, 0, none⟩)] w fun e w' => e = .returned (.int .i64 (n : Int)) ∧ w = w' := by
  obtain ⟨a, c, rfl⟩ := own_len h.own
  have hh := h.h
  clear h
  go_enter Try.func31, Try.ntmps31
  go_wp2
  go_ret
  exact ⟨rfl, rfl⟩
set_option maxHeartbeats 1000000 in
theorem pre (p B : Nat) (Q Bu Q' : Int) (v : Value) (n : Nat) (xs : List Value) (w : World) (h : HP w p B Q Bu v n xs) : Calls Try.prog 46 #[.pointer (some ⟨p, 0, none⟩), .int .u32 Q'] w fun e w' => e = .returned (.agg #[.int .u32 Q, .int .i64 Bu]) ∧ HP w' p B Q' (n : Int) v n xs ∧ Fr p w.heap.size w w' := by
  obtain ⟨a, c, rfl⟩ := own_len h.own
  have HH := Lib.hid h
  obtain ⟨q, b, hh, fq, fb, fh, own, pB, sz⟩ := h
  clear own
  have hlt := lt_of_cell q
  have hne : ¬ p = w.heap.size := by omega
  go_enter Try.func46, Try.ntmps46
  go_wp2
  go_region_held3 (fun V => V.cell? ⟨p, 17, none⟩ = some (.int .u32 Q) ∧ V.cell? ⟨p, 25, none⟩ = some (.int .i64 Bu)) (refine ⟨?_, ?_⟩ <;> simp [go_sem, *]) (fail)
  all_goals
    go_wp2
    refine bodyPost_ret (v := .agg #[.int .u32 Q, .int .i64 Bu]) (by simp [results, Try.results46, go_sem, *]) rfl ⟨rfl, ?_⟩
    exact ⟨((HH.out.setB _).setQ _).later (by go_grown), ((Fr.setp (Fr.setp (Fr.refl p w.heap.size w))).alloc (by simp) _).drew⟩
theorem Fr.mono {p B C : Nat} {w w' : World} (h : Fr p C w w') (hB : B ≤ C) : Fr p B w w' := ⟨fun b hb hne => h.blk b (by omega) hne, h.sz, h.os, h.tape, h.output⟩
theorem Fr.frozen {p B : Nat} {w w' : World} (h : Fr p B w w') {b k : Nat} (hb : b < B) (hne : b ≠ p) : w'.frozen? ⟨b, k, none⟩ = w.frozen? ⟨b, k, none⟩ := World.frozen?_of_block (a := ⟨b, k, none⟩) (h.blk b hb hne)
theorem zpre (p B : Nat) (Q Bu Q' : Int) (v : Value) (n : Nat) (xs : List Value) (w : World) (h : HP w p B Q Bu v n xs) : Calls Try.prog 30 #[.pointer (some ⟨p, 0, none⟩), .int .u32 Q'] w fun e w' => e = .returned (.agg #[.int .u32 Q, .int .i64 Bu]) ∧ HP w' p B Q' (n : Int) v n xs ∧ Fr p w.heap.size w w' := by
  have HH := Lib.hid h
  have hlt := lt_of_cell h.q
  clear h
  go_enter Try.func30, Try.ntmps30
  go_wp2_with fail
  refine calls_world (fun V => Below w.heap.size w V ∧ V.cell? ⟨w.heap.size, 0, none⟩ = some (.int .u32 0) ∧ V.cell? ⟨w.heap.size, 1, none⟩ = some (.int .i64 0) ∧ V.frozen? ⟨w.heap.size, 0, none⟩ = false ∧ V.frozen? ⟨w.heap.size, 1, none⟩ = false) ⟨by go_grown, by simp [go_sem], by simp [go_sem], by simp [go_sem], by simp [go_sem]⟩ ?_
  rintro V ⟨bV, c0, c1, f0, f1⟩
  have hn := lt_of_cell c0
  refine (pre p B Q Bu Q' v n xs V (HH.out.later bV)).mono ?_
  rintro e w1 ⟨rfl, hP, hF⟩
  have d0 := hF.cell hn (by omega) c0
  have d1 := hF.cell hn (by omega) c1
  have g0 := (hF.frozen (k := 0) hn (by omega)).trans f0
  have g1 := (hF.frozen (k := 1) hn (by omega)).trans f1
  have HP1 := Lib.hid (And.intro hP (And.intro hF bV))
  have HV := Lib.hid (HH.out.high (Nat.le_refl _))
  clear hP hF bV c0 c1 f0 f1
  go_wp2
  refine bodyPost_ret (v := .agg #[.int .u32 Q, .int .i64 Bu]) (by simp [results, Try.results30, go_sem, *]) rfl ⟨rfl, ?_, ?_⟩
  · exact (HP1.out.1.other _ _ _ (by omega) HV.out).other _ _ _ (by omega) HV.out
  · exact Fr.seth (Fr.seth ((Fr.ofBelow HP1.out.2.2).trans (HP1.out.2.1.mono HP1.out.2.2.size)) (Nat.le_refl _)) (Nat.le_refl _)
set_option maxHeartbeats 1000000 in
theorem post (p B : Nat) (Q Bu Q' Bu' : Int) (v : Value) (n : Nat) (xs : List Value) (w : World) (h : HP w p B Q Bu v n xs) : Calls Try.prog 47 #[.pointer (some ⟨p, 0, none⟩), .agg #[.int .u32 Q', .int .i64 Bu']] w fun e w' => e = .returned (.tuple #[]) ∧ HP w' p B Q' Bu' v n xs ∧ Fr p w.heap.size w w' := by
  have HH := Lib.hid h
  obtain ⟨q, b, hh, fq, fb, fh, own, pB, sz⟩ := h
  clear own hh fh
  have hlt := lt_of_cell q
  have hne : ¬ p = w.heap.size := by omega
  go_enter Try.func47, Try.ntmps47
  go_wp2
  go_region_held3 (fun V => V.cell? ⟨w.heap.size, 0, none⟩ = some (.int .u32 Q') ∧ V.cell? ⟨w.heap.size, 1, none⟩ = some (.int .i64 Bu')) (refine ⟨?_, ?_⟩ <;> simp [go_sem, *]) (fail)
  all_goals
    go_wp2
    go_end0
    first
      | (refine ⟨rfl, ((HH.out.setB _).setQ _).later ?_, ((Fr.setp (Fr.setp (Fr.refl p w.heap.size w))).alloc (by simp) _).drew⟩; go_grown; done)
      | (refine ⟨rfl, ((HH.out.setQ _).setB _).later ?_, ((Fr.setp (Fr.setp (Fr.refl p w.heap.size w))).alloc (by simp) _).drew⟩; go_grown; done)
theorem zpost (p B : Nat) (Q Bu Q' Bu' : Int) (v : Value) (n : Nat) (xs : List Value) (w : World) (h : HP w p B Q Bu v n xs) : Calls Try.prog 32 #[.pointer (some ⟨p, 0, none⟩), .agg #[.int .u32 Q', .int .i64 Bu']] w fun e w' => e = .returned (.tuple #[]) ∧ HP w' p B Q' Bu' v n xs ∧ Fr p w.heap.size w w' := by
  have HH := Lib.hid h
  clear h
  go_enter Try.func32, Try.ntmps32
  go_wp2_with fail
  refine (post p B Q Bu Q' Bu' v n xs _ (HH.out.later (by go_grown))).mono ?_
  rintro e w1 ⟨rfl, hP, hF⟩
  have HP1 := Lib.hid (And.intro hP (hF.mono (B := w.heap.size) (by simp)))
  clear hP hF
  go_wp2
  go_end0
  exact ⟨rfl, HP1.out.1, (Fr.ofBelow (by go_grown)).trans HP1.out.2⟩
theorem info45 : (Try.prog.info? 45).map (fun i => (i.zero, i.size, i.bytes)) = some (some (.pointer none), 1, 8) := by kernel_rfl
theorem onep (q : Option Addr) : ∀ u ∈ [Value.pointer q], u.oneCell' = true := by intro u hu; simp at hu; subst hu; rfl
theorem news_of {w : World} {b : Nat} {x : Value} (h : w.cell? ⟨b, 0, none⟩ = some x) : ∀ j u, [x][j]? = some u → w.cell? ((⟨b, 0, none⟩ : Addr).add j) = some u := by
  intro j u hu
  have hj : j = 0 := by
    rcases Nat.eq_zero_or_pos j with e | e
    · exact e
    · rw [List.getElem?_eq_none (by simp; omega)] at hu; cases hu
  subst hj
  simp at hu
  subst hu
  have ea : (⟨b, 0, none⟩ : Addr).add 0 = ⟨b, 0, none⟩ := by unfold Addr.add; split <;> simp_all
  rw [ea]
  exact h
theorem keepG {w X w1 : World} {row : Option Nat} {a : Addr} {u : Value} (hb : Below w.heap.size w X) (hg : X.grownBy w1 row) (h : w.cell? a = some u) (hne : row ≠ some a.block) : w1.cell? a = some u := by
  have hlt := World.block_lt_of_cell? _ _ h
  exact (World.cell?_of_block (hg.block a.block (Nat.lt_of_lt_of_le hlt hb.size) (fun e => hne e.symm))).trans (cell_later hb h)
theorem keepF {w X w1 : World} {row : Option Nat} {a : Addr} {u : Value} (hb : Below w.heap.size w X) (hg : X.grownBy w1 row) (h : w.cell? a = some u) (hne : row ≠ some a.block) : w1.frozen? a = w.frozen? a := by
  have hlt := World.block_lt_of_cell? _ _ h
  exact (World.frozen?_of_block (hg.block a.block (Nat.lt_of_lt_of_le hlt hb.size) (fun e => hne e.symm))).trans (hb.frozen (p := a) hlt)
theorem own_some {w : World} {B n : Nat} {v : Value} {xs : List Value} (h : w.ownsRow B 45 1 v (n + 1) xs) : ∃ g c, v = .slice (some ⟨g, 0, none⟩) (n + 1) c := by
  rcases h.2 with ⟨_, h0⟩ | ⟨g, cap, cur, rfl, _⟩
  · omega
  · exact ⟨_, _, rfl⟩
theorem pushed_of {w X w1 : World} {p B : Nat} {Q Bu : Int} {v v' : Value} {n m : Nat} {xs xs' : List Value} (h : HP w p B Q Bu v n xs) (hb : Below w.heap.size w X) (hown : w1.ownsRow B 45 1 v' m xs') (hg : X.grownBy w1 v.ownBlock) :
    HP (w1.setCell ⟨p, 26, none⟩ v') p B Q Bu v' m xs' ∧ Fr p B w (w1.setCell ⟨p, 26, none⟩ v') := by
  have hN := h.low h.pB
  have hgr := grown_set (w := w1) p 26 v'
  have hf : ∀ j, (w1.setCell ⟨p, 26, none⟩ v').frozen? ⟨p, j, none⟩ = w1.frozen? ⟨p, j, none⟩ := fun j => by simp [go_sem]
  refine ⟨⟨?_, ?_, World.cell?_setCell_same _ _ _ (keepG hb hg h.h hN), ?_, ?_, ?_, hown.kept hgr (Or.inr (fun e => by have := (hown.lt p e).1; have := h.pB; omega)), h.pB, Nat.le_trans (Nat.le_trans (Nat.le_trans h.sz hb.size) hg.size) hgr.size⟩, ?_⟩
  · exact (World.cell?_setCell_other _ _ _ _ (fun e => by have := congrArg Addr.off e; simp at this)).trans (keepG hb hg h.q hN)
  · exact (World.cell?_setCell_other _ _ _ _ (fun e => by have := congrArg Addr.off e; simp at this)).trans (keepG hb hg h.b hN)
  · exact (hf 17).trans ((keepF hb hg h.q hN).trans h.fq)
  · exact (hf 25).trans ((keepF hb hg h.b hN).trans h.fb)
  · exact (hf 26).trans ((keepF hb hg h.h hN).trans h.fh)
  · exact Fr.setp ⟨fun b hb' hne => (hg.block b (by have := h.sz; have := hb.size; omega) (fun e => h.low hb' e.symm)).trans (hb.block b (by have := h.sz; omega)), Nat.le_trans hb.size hg.size, hg.os.trans hb.os, hg.tape.trans hb.tape, hg.output.trans hb.output⟩
/-- What a push leaves. -/
def Pushed (p B : Nat) (Q Bu : Int) (n : Nat) (w : World) (e : Ending) (w' : World) : Prop := e = .returned (.tuple #[]) ∧ ∃ v' xs', HP w' p B Q Bu v' (n + 1) xs' ∧ Fr p B w w'
set_option maxRecDepth 100000 in
set_option maxHeartbeats 1000000 in
theorem push (p B : Nat) (Q Bu : Int) (v : Value) (n : Nat) (xs : List Value) (r : Nat) (w : World) (h : HP w p B Q Bu v n xs) (hn : n ≤ 65536) : Calls Try.prog 27 #[.pointer (some ⟨p, 0, none⟩), .pointer (some ⟨r, 0, none⟩)] w (Pushed p B Q Bu n w) := by
  have HH := Lib.hid h
  obtain ⟨q, b, hh, fq, fb, fh, own, pB, sz⟩ := h
  clear own q b fq fb fh
  have hlt := lt_of_cell hh
  obtain ⟨i0, hi, hz0, hz1, hz2⟩ := info_parts info45
  have hN := Lib.hid (HH.out.low pB)
  go_enter Try.func27, Try.ntmps27
  go_wp2_with (at_builtin; refine wpList_append_own _ rfl _ _ 84 rfl B 45 i0 (.pointer none) 1 8 Try.underlying84 hi hz0 hz1 hz2 rfl (by decide) v n xs rfl (HH.out.later (by go_grown)).own ⟨w.heap.size, 0, none⟩ 1 1 [.pointer (some ⟨r, 0, none⟩)] rfl rfl (news_of (by simp [go_sem])) (onep _) (by unfold maxLen; omega) (by omega) (by simp; omega) ?_; intro v' w1 hown1 hgrow1 _; obtain ⟨g, c, rfl⟩ := own_some hown1; have q2 := keepG (w := w) (by go_grown) hgrow1 HH.out.h hN.out; have q3 := (keepF (w := w) (by go_grown) hgrow1 HH.out.h hN.out).trans HH.out.fh; have q4 := Lib.hid (And.intro hown1 hgrow1); clear hown1 hgrow1)
  go_end0
  exact ⟨rfl, _, _, pushed_of HH.out (by go_grown) q4.out.1 q4.out.2⟩
end Go.Proofs.Ytccnpgmceoojmac.nest
