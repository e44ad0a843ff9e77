/-
  UnaryArithm: Pos and End in the postfix and the prefix form, over a word of one literal.
-/
import Derived.Test.YtccnpgmceoojmaaWord
namespace Go.Proofs.Ytccnpgmceoojmaa.unar
open Go.RowKit

theorem litPosX (b : Nat) (o l : Int) (w : World) (c0 : w.cell? ⟨b, 0, none⟩ = some (.int .u32 o)) (c1 : w.cell? ⟨b, 1, none⟩ = some (.int .u32 l)) :
    Calls Try.prog 35 #[.pointer (some ⟨b, 0, none⟩)] w fun e w' => e = .returned (.agg #[.int .u32 o, .int .u32 l]) ∧ w.alloc (.cells #[.int .u32 o, .int .u32 l] 26) = w' := by
  have hlt := lt_of_cell c0
  go_enter Try.func35, Try.ntmps35
  go_wp2
  go_returns
  exact ⟨rfl, rfl⟩
theorem litPos (b : Nat) (o l : Int) (w : World) (c0 : w.cell? ⟨b, 0, none⟩ = some (.int .u32 o)) (c1 : w.cell? ⟨b, 1, none⟩ = some (.int .u32 l)) :
    Calls Try.prog 35 #[.pointer (some ⟨b, 0, none⟩)] w fun e w' => e = .returned (.agg #[.int .u32 o, .int .u32 l]) ∧ Below w.heap.size w w' :=
  (litPosX b o l w c0 c1).mono fun e w' h => ⟨h.1, by rw [← h.2]; go_grown⟩
theorem wordPos (wb pb lb : Nat) (o l : Int) (w : World) (c0 : w.cell? ⟨wb, 0, none⟩ = some (.slice (some ⟨pb, 0, none⟩) 1 1)) (c1 : w.cell? ⟨pb, 0, none⟩ = some (.iface 55 (.pointer (some ⟨lb, 0, none⟩)))) (c2 : w.cell? ⟨lb, 0, none⟩ = some (.int .u32 o)) (c3 : w.cell? ⟨lb, 1, none⟩ = some (.int .u32 l)) :
    Calls Try.prog 43 #[.pointer (some ⟨wb, 0, none⟩)] w fun e w' => e = .returned (.agg #[.int .u32 o, .int .u32 l]) ∧ Below w.heap.size w w' := by
  have hlt := lt_of_cell c0
  have hlt1 := lt_of_cell c1
  go_enter Try.func43, Try.ntmps43
  go_wp2_with fail
  refine (litPos _ o l _ (cell_later (by go_grown) c2) (cell_later (by go_grown) c3)).mono ?_
  rintro e w1 ⟨rfl, hb⟩
  obtain ⟨hc, hf⟩ := bcell hb
  have hz : w.heap.size < w1.heap.size := by have := hb.size; simp at this; omega
  go_wp2
  refine bodyPost_ret (v := .agg #[.int .u32 o, .int .u32 l]) (by simp [results, Try.results43, go_sem, hc, hz]) rfl ⟨rfl, ?_⟩
  exact (((((Below.refl _ _).alloc (Nat.le_refl _) _).trans (hb.mono (by simp))).setCell (by simp) _).setCell (by simp) _)
theorem uaPosT (b wb pb lb : Nat) (o l : Int) (w : World) (cp : w.cell? ⟨b, 3, none⟩ = some (.bool true)) (cx : w.cell? ⟨b, 4, none⟩ = some (.iface 43 (.pointer (some ⟨wb, 0, none⟩)))) (c0 : w.cell? ⟨wb, 0, none⟩ = some (.slice (some ⟨pb, 0, none⟩) 1 1)) (c1 : w.cell? ⟨pb, 0, none⟩ = some (.iface 55 (.pointer (some ⟨lb, 0, none⟩)))) (c2 : w.cell? ⟨lb, 0, none⟩ = some (.int .u32 o)) (c3 : w.cell? ⟨lb, 1, none⟩ = some (.int .u32 l)) :
    Calls Try.prog 11 #[.pointer (some ⟨b, 0, none⟩)] w fun e w' => e = .returned (.agg #[.int .u32 o, .int .u32 l]) ∧ Below w.heap.size w w' := by
  have hlt := lt_of_cell cp
  go_enter Try.func11, Try.ntmps11
  go_wp2_with fail
  refine (wordPos _ _ _ o l _ (cell_later (by go_grown) c0) (cell_later (by go_grown) c1) (cell_later (by go_grown) c2) (cell_later (by go_grown) c3)).mono ?_
  rintro e w1 ⟨rfl, hb⟩
  obtain ⟨hc, hf⟩ := bcell hb
  have hz : w.heap.size < w1.heap.size := by have := hb.size; simp at this; omega
  go_wp2
  refine bodyPost_ret (v := .agg #[.int .u32 o, .int .u32 l]) (by simp [results, Try.results11, go_sem, hc, hz]) rfl ⟨rfl, ?_⟩
  exact (((((Below.refl _ _).alloc (Nat.le_refl _) _).trans (hb.mono (by simp))).setCell (by simp) _).setCell (by simp) _)
theorem uaEndF (b wb pb lb : Nat) (o l : Int) (w : World) (cp : w.cell? ⟨b, 3, none⟩ = some (.bool false)) (cx : w.cell? ⟨b, 4, none⟩ = some (.iface 43 (.pointer (some ⟨wb, 0, none⟩)))) (c0 : w.cell? ⟨wb, 0, none⟩ = some (.slice (some ⟨pb, 0, none⟩) 1 1)) (c1 : w.cell? ⟨pb, 0, none⟩ = some (.iface 55 (.pointer (some ⟨lb, 0, none⟩)))) (c2 : w.cell? ⟨lb, 2, none⟩ = some (.int .u32 o)) (c3 : w.cell? ⟨lb, 3, none⟩ = some (.int .u32 l)) :
    Calls Try.prog 12 #[.pointer (some ⟨b, 0, none⟩)] w fun e w' => e = .returned (.agg #[.int .u32 o, .int .u32 l]) ∧ Below w.heap.size w w' := by
  have hlt := lt_of_cell cp
  go_enter Try.func12, Try.ntmps12
  go_wp2_with fail
  refine (wordEnd _ _ _ o l _ (cell_later (by go_grown) c0) (cell_later (by go_grown) c1) (cell_later (by go_grown) c2) (cell_later (by go_grown) c3)).mono ?_
  rintro e w1 ⟨rfl, hb⟩
  obtain ⟨hc, hf⟩ := bcell hb
  have hz : w.heap.size < w1.heap.size := by have := hb.size; simp at this; omega
  go_wp2
  refine bodyPost_ret (v := .agg #[.int .u32 o, .int .u32 l]) (by simp [results, Try.results12, go_sem, hc, hz]) rfl ⟨rfl, ?_⟩
  exact (((((Below.refl _ _).alloc (Nat.le_refl _) _).trans (hb.mono (by simp))).setCell (by simp) _).setCell (by simp) _)
theorem uaPosFX (b : Nat) (o l : Int) (w : World) (cp : w.cell? ⟨b, 3, none⟩ = some (.bool false)) (c0 : w.cell? ⟨b, 0, none⟩ = some (.int .u32 o)) (c1 : w.cell? ⟨b, 1, none⟩ = some (.int .u32 l)) :
    Calls Try.prog 11 #[.pointer (some ⟨b, 0, none⟩)] w fun e w' => e = .returned (.agg #[.int .u32 o, .int .u32 l]) ∧ w.alloc (.cells #[.int .u32 o, .int .u32 l] 26) = w' := by
  have hlt := lt_of_cell c0
  go_enter Try.func11, Try.ntmps11
  go_wp2
  go_returns
  exact ⟨rfl, rfl⟩
theorem uaEndT (b : Nat) (o l : Int) (w : World) (h0 : 0 ≤ o) (h2 : 0 ≤ l) (h3 : l ≤ 4294967295) (cp : w.cell? ⟨b, 3, none⟩ = some (.bool true)) (c0 : w.cell? ⟨b, 0, none⟩ = some (.int .u32 o)) (c1 : w.cell? ⟨b, 1, none⟩ = some (.int .u32 l)) :
    Calls Try.prog 12 #[.pointer (some ⟨b, 0, none⟩)] w fun e w' => e = .returned (.agg #[.int .u32 (pO o l 2), .int .u32 (pL o l 2)]) ∧ Below w.heap.size w w' := by
  have hlt := lt_of_cell c0
  go_enter Try.func12, Try.ntmps12
  go_wp2_with fail
  refine (posAdd _ _ _ _ h0 h2 h3 (by omega) (by omega)).mono ?_
  rintro e w1 ⟨rfl, hb⟩
  obtain ⟨hc, hf⟩ := bcell hb
  have hz : w.heap.size < w1.heap.size := by have := hb.size; simp at this; omega
  go_wp2
  refine bodyPost_ret (v := .agg #[.int .u32 (pO o l 2), .int .u32 (pL o l 2)]) (by simp [results, Try.results12, go_sem, hc, hz]) rfl ⟨rfl, ?_⟩
  exact (((((Below.refl _ _).alloc (Nat.le_refl _) _).trans (hb.mono (by simp))).setCell (by simp) _).setCell (by simp) _)
theorem mkPos24 (o l : Int) (w : World) : Calls Try.prog 9 #[.int .u32 o, .int .u32 l] w fun e w' => e = .returned (.agg #[.int .u32 o, .int .u32 l]) ∧ w.alloc (.cells #[.int .u32 o, .int .u32 l] 26) = w' := by
  go_enter Try.func9, Try.ntmps9
  go_wp2
  go_returns
  exact ⟨rfl, rfl⟩
theorem zOffs50 (o l : Int) (w : World) : Calls Try.prog 50 #[.agg #[.int .u32 o, .int .u32 l]] w fun e w' => e = .returned (.int .u32 o) ∧ w.alloc (.cells #[.int .u32 o, .int .u32 l] 26) = w' := by
  go_enter Try.func50, Try.ntmps50
  go_wp2
  go_ret
  exact ⟨rfl, rfl⟩
theorem zLc51 (o l : Int) (w : World) : Calls Try.prog 51 #[.agg #[.int .u32 o, .int .u32 l]] w fun e w' => e = .returned (.int .u32 l) ∧ w.alloc (.cells #[.int .u32 o, .int .u32 l] 26) = w' := by
  go_enter Try.func51, Try.ntmps51
  go_wp2
  go_ret
  exact ⟨rfl, rfl⟩
theorem same13 (o l : Int) (w : World) : Calls Try.prog 13 #[.agg #[.int .u32 o, .int .u32 l], .int .u32 o, .int .u32 l] w fun e w' => e = .returned (.bool true) ∧ ((w.alloc (.cells #[.int .u32 o, .int .u32 l] 26)).alloc (.cells #[.int .u32 o, .int .u32 l] 26)).alloc (.cells #[.int .u32 o, .int .u32 l] 26) = w' := by
  go_enter Try.func13, Try.ntmps13
  go_wp2_with (first | (go_at_call 50; refine (zOffs50 _ _ _).mono ?_; rintro e w' ⟨rfl, rfl⟩) | (go_at_call 51; refine (zLc51 _ _ _).mono ?_; rintro e w' ⟨rfl, rfl⟩))
  go_ret
  exact ⟨rfl, rfl⟩
theorem newUA (o ol op : Int) (post : Bool) (s sl e el : Int) (w : World) : Calls Try.prog 10 #[.agg #[.int .u32 o, .int .u32 ol], .int .u32 op, .bool post, .agg #[.int .u32 s, .int .u32 sl], .agg #[.int .u32 e, .int .u32 el]] w fun r w' => r = .returned (.pointer (some ⟨w.heap.size + 1 + 1 + 1 + 1 + 1 + 1, 0, none⟩)) ∧
    ((((((w.alloc (.cells #[.int .u32 o, .int .u32 ol] 26)).alloc (.cells #[.int .u32 s, .int .u32 sl] 26)).alloc (.cells #[.int .u32 e, .int .u32 el] 26)).alloc (.cells #[.int .u32 s, .int .u32 sl, .int .u32 e, .int .u32 el, .string ⟨#[120]⟩] 57)).alloc (.cells #[.iface 55 (.pointer (some ⟨w.heap.size + 1 + 1 + 1, 0, none⟩))] 92)).alloc (.cells #[.slice (some ⟨w.heap.size + 1 + 1 + 1 + 1, 0, none⟩) 1 1] 77)).alloc (.cells #[.int .u32 o, .int .u32 ol, .int .u32 op, .bool post, .iface 43 (.pointer (some ⟨w.heap.size + 1 + 1 + 1 + 1 + 1, 0, none⟩))] 79) = w' := by
  go_enter Try.func10, Try.ntmps10
  go_wp2
  go_ret
  exact ⟨rfl, rfl⟩
end Go.Proofs.Ytccnpgmceoojmaa.unar
