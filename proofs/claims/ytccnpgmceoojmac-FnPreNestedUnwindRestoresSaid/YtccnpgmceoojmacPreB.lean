/-
  Rows of saved states, sums of the pushes, a new parser: what the law on nested quote states keeps.
-/
import Derived.Test.YtccnpgmceoojmacPreA
namespace Go.Proofs.Ytccnpgmceoojmac.nest
open Go.RowKit
open Go.Proofs.Ytccnpgmceoojmac

/-- A row whose first k places (at o j) hold f j, the others 0. -/
structure RowF (K : IntKind) (w : World) (g : Nat) (o : Nat → Nat) (n k : Nat) (f : Nat → Int) : Prop where
  c : ∀ j, j < n → w.cell? ⟨g, o j, none⟩ = some (.int K (if j < k then f j else 0))
  z : ∀ x, w.frozen? ⟨g, x, none⟩ = false
theorem RowF.set {K : IntKind} {w : World} {g : Nat} {o : Nat → Nat} {n k : Nat} {f f' : Nat → Int} (h : RowF K w g o n k f) (inj : ∀ i j, o i = o j → i = j) (hk : k < n) (hf : ∀ j, j < k → f' j = f j) : RowF K (w.setCell ⟨g, o k, none⟩ (.int K (f' k))) g o n (k + 1) f' := by
  refine ⟨fun j hj => ?_, fun x => ?_⟩
  · by_cases e : j = k
    · subst e
      rw [World.cell?_setCell_same _ _ _ (h.c j hj)]
      simp
    · rw [World.cell?_setCell_other _ _ _ _ (fun q => e (inj _ _ (congrArg Addr.off q)).symm), h.c j hj]
      have e2 : (j < k + 1) ↔ (j < k) := by omega
      by_cases e3 : j < k
      · simp [e3, e2, hf j e3]
      · simp [e3, e2]
  · have hz := h.z x
    simp [go_sem, hz]
theorem RowF.off {K : IntKind} {w : World} {g : Nat} {o : Nat → Nat} {n k : Nat} {f : Nat → Int} (h : RowF K w g o n k f) (g' x : Nat) (u : Value) (hne : g' ≠ g ∨ ∀ j, x ≠ o j) : RowF K (w.setCell ⟨g', x, none⟩ u) g o n k f := by
  refine ⟨fun j hj => ?_, fun y => ?_⟩
  · rw [World.cell?_setCell_other _ _ _ _ (fun q => by
      rcases hne with e | e
      · exact e (congrArg Addr.block q)
      · exact e j (congrArg Addr.off q))]
    exact h.c j hj
  · have hz := h.z y
    simp [go_sem, hz]
theorem RowF.fr {K : IntKind} {w w' : World} {g : Nat} {o : Nat → Nat} {n k p B : Nat} {f : Nat → Int} (h : RowF K w g o n k f) (hF : Fr p B w w') (hg : g < B) (hne : g ≠ p) : RowF K w' g o n k f :=
  ⟨fun j hj => hF.cell hg hne (h.c j hj), fun x => (hF.frozen hg hne).trans (h.z x)⟩
theorem RowF.later {K : IntKind} {w w' : World} {g : Nat} {o : Nat → Nat} {n k : Nat} {f : Nat → Int} (h : RowF K w g o n k f) (hb : Below w.heap.size w w') (hg : g < w.heap.size) : RowF K w' g o n k f :=
  ⟨fun j hj => cell_later hb (h.c j hj), fun x => (hb.frozen (p := ⟨g, x, none⟩) hg).trans (h.z x)⟩
theorem RowF.made (K : IntKind) (w : World) (E n : Nat) (f : Nat → Int) (g : Nat) (hg : w.heap.size = g) : RowF K (w.alloc (.cells (madeCells #[.int K 0] n) E)) g (fun j => j) n 0 f := by
  subst hg
  refine ⟨fun j hj => ?_, fun x => frozen_new _ _ _ _⟩
  rw [cell_new, cpL_zero K [] n, cpL_get K [] n 0 j hj]
  simp
theorem made2 (j n : Nat) (hj : j < n) : (madeCells #[Value.int .u32 0, Value.int .i64 0] (n * 2))[j * 2]? = some (.int .u32 0) ∧ (madeCells #[Value.int .u32 0, Value.int .i64 0] (n * 2))[j * 2 + 1]? = some (.int .i64 0) := by
  have h1 : j * 2 < n * 2 := by omega
  have h2 : j * 2 + 1 < n * 2 := by omega
  have e1 : j * 2 % 2 = 0 := by omega
  have e2 : (j * 2 + 1) % 2 = 1 := by omega
  refine ⟨?_, ?_⟩
  · simp [madeCells, h1, e1]
  · simp [madeCells, h2, e2]
theorem RowF.made0 (w : World) (E n : Nat) (f : Nat → Int) (g : Nat) (hg : w.heap.size = g) : RowF .u32 (w.alloc (.cells (madeCells #[Value.int .u32 0, Value.int .i64 0] (n * 2)) E)) g (fun j => j * 2) n 0 f := by
  subst hg
  refine ⟨fun j hj => ?_, fun x => frozen_new _ _ _ _⟩
  rw [cell_new, (made2 j n hj).1]
  simp
theorem RowF.made1 (w : World) (E n : Nat) (f : Nat → Int) (g : Nat) (hg : w.heap.size = g) : RowF .i64 (w.alloc (.cells (madeCells #[Value.int .u32 0, Value.int .i64 0] (n * 2)) E)) g (fun j => j * 2 + 1) n 0 f := by
  subst hg
  refine ⟨fun j hj => ?_, fun x => frozen_new _ _ _ _⟩
  rw [cell_new, (made2 j n hj).2]
  simp
/-- How many heredocs the first k levels push. -/
def hn (zs : List Int) : Nat → Nat
  | 0 => 0
  | k + 1 => hn zs k + (zs.getD k 0).toNat
theorem hn_le (zs : List Int) (hz : ∀ j, zs.getD j 0 ≤ 255) (k : Nat) : hn zs k ≤ 255 * k := by
  induction k with
  | zero => simp [hn]
  | succ k ih => have := hz k; simp only [hn]; omega
theorem hn_mono (zs : List Int) (k d : Nat) : hn zs k ≤ hn zs (k + d) := by
  induction d with
  | zero => exact Nat.le_refl _
  | succ d ih => rw [← Nat.add_assoc]; simp only [hn]; omega
/-- A row of bytes that came in, below block M. -/
structure Sl (w : World) (M : Nat) (a : Option Addr) (n : Nat) (zs : List Int) : Prop where
  row : ∀ i, i < n → ∃ b off, a = some ⟨b, off, none⟩ ∧ b < M ∧ w.cell? ⟨b, off + i, none⟩ = some (.int .u8 (zs.getD i 0))
theorem Sl.later {w wx : World} {M : Nat} {a : Option Addr} {n : Nat} {zs : List Int} (h : Sl w M a n zs) (hb : Below w.heap.size w wx) : Sl wx M a n zs :=
  ⟨fun i hi => by obtain ⟨b, off, e, hM, c⟩ := h.row i hi; exact ⟨b, off, e, hM, cell_later hb c⟩⟩
theorem Sl.top {w : World} {M m : Nat} {a : Option Addr} {n : Nat} {zs : List Int} (h : Sl w M a n zs) (hm : w.heap.size ≤ m) : Sl w m a n zs :=
  ⟨fun i hi => by obtain ⟨b, off, e, hM, c⟩ := h.row i hi; exact ⟨b, off, e, Nat.lt_of_lt_of_le (lt_of_cell c) hm, c⟩⟩
theorem Sl.fr {w w' : World} {p B : Nat} {a : Option Addr} {n : Nat} {zs : List Int} (h : Sl w p a n zs) (hF : Fr p B w w') (hp : p ≤ B) : Sl w' p a n zs :=
  ⟨fun i hi => by obtain ⟨b, off, e, hM, c⟩ := h.row i hi; exact ⟨b, off, e, hM, hF.cell (by omega) (by omega) c⟩⟩
theorem Sl.set {w : World} {M : Nat} {a : Option Addr} {n : Nat} {zs : List Int} (h : Sl w M a n zs) (g x : Nat) (u : Value) (hg : M ≤ g) : Sl (w.setCell ⟨g, x, none⟩ u) M a n zs :=
  ⟨fun i hi => by
    obtain ⟨b, off, e, hM, c⟩ := h.row i hi
    exact ⟨b, off, e, hM, (World.cell?_setCell_other _ _ _ _ (fun q => by have := congrArg Addr.block q; simp at this; omega)).trans c⟩⟩
theorem Sl.ofRow {w : World} {a : Option Addr} {n c : Nat} {zs : List Int} (h : IsRowB .u8 w a n c zs) : Sl w w.heap.size a n zs := by
  rcases h with ⟨_, rfl, _, _⟩ | ⟨x, rfl, hl, hm, hz, hcell, _⟩
  · exact ⟨fun i hi => absurd hi (Nat.not_lt_zero i)⟩
  · refine ⟨fun i hi => ?_⟩
    obtain ⟨b, f, rfl, hc⟩ := row_at hcell (by omega)
    have h := hc i (by omega)
    exact ⟨b, f, rfl, lt_of_cell h, h⟩
theorem row_bd {w : World} {a : Option Addr} {n c : Nat} {zs : List Int} (h : IsRowB .u8 w a n c zs) (j : Nat) : 0 ≤ zs.getD j 0 ∧ zs.getD j 0 ≤ 255 := by
  rcases h with ⟨_, _, _, rfl⟩ | ⟨x, _, _, _, _, _, hw⟩
  · simp
  · have h := range_u8 hw j
    rw [List.getD_eq_getElem?_getD]
    exact h
theorem bytes18 (a0 a1 : Option Addr) (n0 n1 c0 c1 : Nat) (w : World) (h0 : n0 ≤ 4096) (h1 : n1 ≤ 4096) :
    Calls Try.prog 25 #[.slice a0 n0 c0, .slice a1 n1 c1] w fun e w' => e = .returned (.bool true) ∧ w = w' := by
  have g1 : ¬ (1048576 : Int) < (n0 : Int) := by omega
  have g2 : ¬ (1048576 : Int) < (n1 : Int) := by omega
  have g3 : ¬ (1048576 : Int) < (n0 : Int) + (n1 : Int) := by omega
  go_enter Try.func25, Try.ntmps25
  go_wp2
  go_ret
  exact ⟨rfl, rfl⟩
theorem newP (w : World) : Calls Try.prog 26 #[.slice none 0 0] w fun e w' => e = .returned (.pointer (some ⟨w.heap.size, 0, none⟩)) ∧ w'.cell? ⟨w.heap.size, 17, none⟩ = some (.int .u32 0) ∧ w'.cell? ⟨w.heap.size, 25, none⟩ = some (.int .i64 0) ∧ w'.cell? ⟨w.heap.size, 26, none⟩ = some (.slice none 0 0) ∧ (∀ k, w'.frozen? ⟨w.heap.size, k, none⟩ = false) ∧ w'.heap.size = w.heap.size + 1 ∧ Below w.heap.size w w' := by
  have c0 : (w.alloc (.cells (bigS Try.prog 92 [(19, .int .i64 1)]) 92)).cell? ⟨w.heap.size, 17, none⟩ = some (.int .u32 0) := by rw [cell_new]; kernel_rfl
  have c1 : (w.alloc (.cells (bigS Try.prog 92 [(19, .int .i64 1)]) 92)).cell? ⟨w.heap.size, 25, none⟩ = some (.int .i64 0) := by rw [cell_new]; kernel_rfl
  have c2 : (w.alloc (.cells (bigS Try.prog 92 [(19, .int .i64 1)]) 92)).cell? ⟨w.heap.size, 26, none⟩ = some (.slice none 0 0) := by rw [cell_new]; kernel_rfl
  have f0 := frozen_new w (bigS Try.prog 92 [(19, .int .i64 1)]) 92
  have s0 : (w.alloc (.cells (bigS Try.prog 92 [(19, .int .i64 1)]) 92)).heap.size = w.heap.size + 1 := by simp
  have BB : Below w.heap.size w (w.alloc (.cells (bigS Try.prog 92 [(19, .int .i64 1)]) 92)) := by go_grown
  have HH := Lib.hid (And.intro c0 (And.intro c1 (And.intro c2 (And.intro f0 (And.intro s0 BB)))))
  clear c0 c1 c2 f0 s0 BB
  go_enter Try.func26, Try.ntmps26
  go_wp2_with (first | (refine wpList_value (o := ⟨some 6, _, _, _, _, _⟩) rfl (.agg (bigS Try.prog 92 [(19, .int .i64 1)])) w (by kernel_rfl) ?_) | (refine wpList_value (o := ⟨some 7, _, _, _, _, _⟩) rfl (.pointer (some ⟨w.heap.size, 0, none⟩)) (w.alloc (.cells (bigS Try.prog 92 [(19, .int .i64 1)]) 92)) (by kernel_rfl) ?_))
  generalize w.alloc (.cells (bigS Try.prog 92 [(19, .int .i64 1)]) 92) = W at *
  refine wp_loop_rounds 1 ?_
  rw [rounds_succ]
  go_wp2
  go_ret
  exact ⟨rfl, HH.out⟩
theorem info58 : (Try.prog.info? 58).map (fun i => (i.zero, i.size, i.bytes)) = some (some (.agg #[.int .u32 0, .int .i64 0]), 2, 16) := by kernel_rfl
theorem mkQ (n : Nat) (hn : n ≤ 4096) (w' : World) : (Instr.makeSlice 41 (.int .i64 (n : Int)) (.int .i64 (n : Int))).run Try.prog w' = .ok (.slice (some ⟨w'.heap.size, 0, none⟩) n n) (w'.alloc (.cells (madeCells #[.int .u32 0] n) 46)) :=
  run_make_row' (P := Try.prog) 41 46 (.int .u32 0) 4 Try.underlying41 (by kernel_rfl) rfl .i64 .i64 n (by omega) (by omega) w'
theorem mkB (n : Nat) (hn : n ≤ 4096) (w' : World) : (Instr.makeSlice 42 (.int .i64 (n : Int)) (.int .i64 (n : Int))).run Try.prog w' = .ok (.slice (some ⟨w'.heap.size, 0, none⟩) n n) (w'.alloc (.cells (madeCells #[.int .i64 0] n) 3)) :=
  run_make_row' (P := Try.prog) 42 3 (.int .i64 0) 8 Try.underlying42 (by kernel_rfl) rfl .i64 .i64 n (by omega) (by omega) w'
theorem mkS (n : Nat) (hn : n ≤ 4096) (w' : World) : (Instr.makeSlice 43 (.int .i64 (n : Int)) (.int .i64 (n : Int))).run Try.prog w' = .ok (.slice (some ⟨w'.heap.size, 0, none⟩) n n) (w'.alloc (.cells (madeCells #[.int .u32 0, .int .i64 0] (n * 2)) 58)) := by
  obtain ⟨i0, hi, hz0, hz1, hz2⟩ := info_parts info58
  have h := run_make (P := Try.prog) w' 43 58 i0 (.agg #[.int .u32 0, .int .i64 0]) Try.underlying43 hi hz0 .i64 .i64 n n (by omega) (by omega) (by rw [hz2]; omega) (by omega)
  rw [hz1] at h
  simpa [Value.cells] using h
theorem mkU (len : Nat) (zs : List Int) (hm : len ≤ 4096) (w' : World) : (Instr.makeSlice 25 (.int .i64 (len : Int)) (.int .i64 (len : Int))).run Try.prog w' = .ok (.slice (some ⟨w'.heap.size, 0, none⟩) len len) (w'.alloc (.cells (cpL .u8 zs len 0) 5)) := by
  have h := run_make_row' (P := Try.prog) 25 5 (.int .u8 0) 1 Try.underlying25 (by kernel_rfl) rfl .i64 .i64 len (by omega) (by omega) w'
  rw [cpL_zero .u8 zs] at h
  exact h
end Go.Proofs.Ytccnpgmceoojmac.nest
