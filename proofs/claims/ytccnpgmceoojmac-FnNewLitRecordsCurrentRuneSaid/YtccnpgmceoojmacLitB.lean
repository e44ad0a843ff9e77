/-
  The parser's newLit and endLit on a parser with a given input buffer.
-/
import Derived.Test.YtccnpgmceoojmacLitA
import Derived.Deep.RegionLaw
namespace Go.Proofs.Ytccnpgmceoojmac.lit
open Go.RowKit
open Go.Proofs.Ytccnpgmceoojmac
open Go.Proofs.Ytccnpgmceoojmac.red

/-- The parser block P with its input buffer and no literal yet. -/
structure Par (w : World) (P g m c : Nat) (q r k : Int) : Prop where
  x1 : w.cell? ⟨P, 1, none⟩ = some (.slice (some ⟨g, 0, none⟩) m c)
  x2 : w.cell? ⟨P, 2, none⟩ = some (.int .u64 q)
  x3 : w.cell? ⟨P, 3, none⟩ = some (.int .i32 r)
  x4 : w.cell? ⟨P, 4, none⟩ = some (.int .i64 k)
  x2087 : w.cell? ⟨P, 2087, none⟩ = some (.slice none 0 0)
  x1063 : w.cell? ⟨P, 1063, none⟩ = some (.int .u8 0)
  x1064 : w.cell? ⟨P, 1064, none⟩ = some (.int .u8 0)
  x1065 : w.cell? ⟨P, 1065, none⟩ = some (.int .u8 0)
  x1066 : w.cell? ⟨P, 1066, none⟩ = some (.int .u8 0)
  fz : ∀ o, w.frozen? ⟨P, o, none⟩ = false
theorem par (g m c : Nat) (q r k : Int) (w : World) : Calls Try.prog 19 #[.slice (some ⟨g, 0, none⟩) m c, .int .u64 q, .int .i32 r, .int .i64 k, .slice none 0 0, .int .i64 1] w fun e w' => e = .returned (.pointer (some ⟨w.heap.size, 0, none⟩)) ∧ Par w' w.heap.size g m c q r k ∧ Below w.heap.size w w' := by
  have HP : Par (w.alloc (.cells (bigS Try.prog 92 [(1, .slice (some ⟨g, 0, none⟩) m c), (2, .int .u64 q), (3, .int .i32 r), (4, .int .i64 k), (40, .slice none 0 0), (19, .int .i64 1)]) 92)) w.heap.size g m c q r k := by
    refine ⟨?_, ?_, ?_, ?_, ?_, ?_, ?_, ?_, ?_, fun o => frozen_new w (bigS Try.prog 92 [(1, .slice (some ⟨g, 0, none⟩) m c), (2, .int .u64 q), (3, .int .i32 r), (4, .int .i64 k), (40, .slice none 0 0), (19, .int .i64 1)]) 92 o⟩
    all_goals
      rw [cell_new]
      kernel_rfl
  have BB : Below w.heap.size w (w.alloc (.cells (bigS Try.prog 92 [(1, .slice (some ⟨g, 0, none⟩) m c), (2, .int .u64 q), (3, .int .i32 r), (4, .int .i64 k), (40, .slice none 0 0), (19, .int .i64 1)]) 92)) := by go_grown
  go_enter Try.func19, Try.ntmps19
  go_wp2_with (first | (refine wpList_value (o := ⟨some 19, _, _, _, _, _⟩) rfl (.agg (bigS Try.prog 92 [(1, .slice (some ⟨g, 0, none⟩) m c), (2, .int .u64 q), (3, .int .i32 r), (4, .int .i64 k), (40, .slice none 0 0), (19, .int .i64 1)])) w (by kernel_rfl) ?_) | (refine wpList_value (o := ⟨some 20, _, _, _, _, _⟩) rfl (.pointer (some ⟨w.heap.size, 0, none⟩)) (w.alloc (.cells (bigS Try.prog 92 [(1, .slice (some ⟨g, 0, none⟩) m c), (2, .int .u64 q), (3, .int .i32 r), (4, .int .i64 k), (40, .slice none 0 0), (19, .int .i64 1)]) 92)) (by kernel_rfl) ?_))
  go_ret
  exact ⟨rfl, HP, BB⟩
/-- What newLit leaves: the literal's bytes at the head of the parser's own buffer; all other blocks as they were. -/
structure Newl (P k : Nat) (xs : List Int) (r wd : Int) (w w' : World) : Prop where
  lit : w'.cell? ⟨P, 2087, none⟩ = some (.slice (some ⟨P, 1063, none⟩) k 1024)
  row : ∀ i, i < k → w'.cell? ⟨P, 1063 + i, none⟩ = some (.int .u8 (xs.getD i 0))
  c3 : w'.cell? ⟨P, 3, none⟩ = some (.int .i32 r)
  c4 : w'.cell? ⟨P, 4, none⟩ = some (.int .i64 wd)
  fz : ∀ o, w'.frozen? ⟨P, o, none⟩ = false
  oth : ∀ b o, b ≠ P → w'.cell? ⟨b, o, none⟩ = w.cell? ⟨b, o, none⟩
  bel : Below P w w'
theorem below_draw {P : Nat} {w W : World} (h : Below P w W) : Below P w { W with drawn := W.drawn + 1 } := ⟨h.os, h.tape, h.output, h.size, h.block⟩
set_option maxRecDepth 100000 in
theorem new1 (P g m c : Nat) (q r k : Int) (w : World) (h : Par w P g m c q r k) (h0 : 0 ≤ r) (h1 : r < 128) :
    Calls Try.prog 44 #[.pointer (some ⟨P, 0, none⟩), .int .i32 r] w fun e w' => e = .returned (.tuple #[]) ∧ Newl P 1 [r] r k w w' := by
  obtain ⟨x1, x2, x3, x4, x2087, x1063, x1064, x1065, x1066, fz⟩ := h
  have f1 := fz 2087
  have f2 := fz 1063
  have hlt := lt_of_cell x1
  have FZ := Lib.hid fz
  clear fz
  go_enter Try.func44, Try.ntmps44
  go_wp2
  go_end0
  refine ⟨rfl, ?_, ?_, ?_, ?_, ?_, ?_, ?_⟩
  · simp [go_sem, *]
  · intro i hi
    obtain rfl : i = 0 := by omega
    simp [go_sem, *]
  · simp [go_sem, *]
  · simp [go_sem, *]
  · intro o
    have := FZ.out o
    simp [go_sem, this]
  · intro b o hb
    have hb' : ¬ P = b := fun h => hb h.symm
    simp [go_sem, hb']
  · refine Below.setCell (Below.setCell (Below.refl P w) ?_ _) ?_ _ <;> exact Nat.le_refl P
set_option maxRecDepth 100000 in
theorem new0 (P g m c : Nat) (q r k : Int) (w : World) (h : Par w P g m c q r k) (h1 : r = 1114112 ∨ r = 1114113) :
    Calls Try.prog 44 #[.pointer (some ⟨P, 0, none⟩), .int .i32 r] w fun e w' => e = .returned (.tuple #[]) ∧ Newl P 0 [] r k w w' := by
  obtain ⟨x1, x2, x3, x4, x2087, x1063, x1064, x1065, x1066, fz⟩ := h
  have f1 := fz 2087
  have hlt := lt_of_cell x1
  have FZ := Lib.hid fz
  clear fz
  rcases h1 with rfl | rfl
  all_goals
    go_enter Try.func44, Try.ntmps44
    go_wp2
    go_end0
    refine ⟨rfl, ?_, ?_, ?_, ?_, ?_, ?_, ?_⟩
    · simp [go_sem, *]
    · intro i hi
      omega
    · simp [go_sem, *]
    · simp [go_sem, *]
    · intro o
      have := FZ.out o
      simp [go_sem, this]
    · intro b o hb
      have hb' : ¬ P = b := fun h => hb h.symm
      simp [go_sem, hb']
    · refine Below.setCell (Below.refl P w) ?_ _; exact Nat.le_refl P
set_option maxRecDepth 100000 in
set_option maxHeartbeats 2000000 in
theorem newk2 (P g m c n : Nat) (q r : Int) (a0 a1 : Int) (w : World) (h : Par w P g m c q r 2) (h1 : 128 ≤ r) (h2 : r < 2048) (hv : valB r = true) (hq : q = ((n + 2 : Nat) : Int)) (hm : n + 2 ≤ m) (hmc : m ≤ c) (hc : c ≤ 1048576) (hgP : g ≠ P) (s0 : w.cell? ⟨g, n + 0, none⟩ = some (.int .u8 a0)) (s1 : w.cell? ⟨g, n + 1, none⟩ = some (.int .u8 a1)) :
    Calls Try.prog 44 #[.pointer (some ⟨P, 0, none⟩), .int .i32 r] w fun e w' => e = .returned (.tuple #[]) ∧ Newl P 2 [a0, a1] r 2 w w' := by
  obtain ⟨x1, x2, x3, x4, x2087, x1063, x1064, x1065, x1066, fz⟩ := h
  have f1 := fz 2087
  have hlt := lt_of_cell x1
  have FZ := Lib.hid fz
  have hr := runeLen r w hv
  have hk : rlen r = 2 := by unfold rlen; rw [if_neg (by omega), if_pos (by omega)]
  rw [hk] at hr
  have g0 : ¬ r < 128 := by omega
  have g1 : (r == 1114112) = false := by simp; omega
  have g2 : (r == 1114113) = false := by simp; omega
  have hP' : ¬ P = g := fun h => hgP h.symm
  subst hq
  have y2 : IntKind.u64.wrap (((n + 2 : Nat) : Int) - 2) = (n : Int) := by rw [IntWalk.u64_in _ (by omega)]; omega
  have yk : IntKind.u64.wrap 2 = 2 := by decide
  obtain ⟨e, he⟩ : ∃ e, n + 2 = e := ⟨_, rfl⟩
  rw [he] at x2 y2
  have i1 : (0 : Int) ≤ (n : Int) := by omega
  have i2 : (n : Int) ≤ (e : Int) := by omega
  have i3 : (e : Int) ≤ (c : Int) := by omega
  have i4 : n ≤ e := by omega
  have i5 : e ≤ c := by omega
  have i6 : ¬ c = n := by omega
  have i7 : ¬ n = c := by omega
  have i8 : e - n = 2 := by omega
  obtain ⟨i0, hi, hz0, hz1, hz2⟩ := info_parts info5
  have hcn : ∀ j u, ([.int .u8 a0, .int .u8 a1] : List Value)[j]? = some u → w.cell? ((⟨g, n, none⟩ : Addr).add j) = some u := by
    intro j u hu
    have ea : (⟨g, n, none⟩ : Addr).add j = ⟨g, n + j, none⟩ := by unfold Addr.add; split <;> simp_all
    rw [ea]
    have : j = 0 ∨ j = 1 ∨ 2 ≤ j := by omega
    rcases this with rfl | rfl | hj
    · simp at hu; subst hu; exact s0
    · simp at hu; subst hu; exact s1
    · have := List.getElem?_eq_none (l := ([.int .u8 a0, .int .u8 a1] : List Value)) (i := j) (by simpa using hj)
      rw [this] at hu
      exact absurd hu (by simp)
  have h1c : ∀ u ∈ ([.int .u8 a0, .int .u8 a1] : List Value), u.oneCell' = true := by
    intro u hu
    simp at hu
    rcases hu with rfl | rfl <;> rfl
  have hsp : ∀ j, j < ([.int .u8 a0, .int .u8 a1] : List Value).length → (w.cell? ⟨P, 1063 + 0 * 1 + j, none⟩).isSome = true ∧ w.frozen? ⟨P, 1063 + 0 * 1 + j, none⟩ = false := by
    intro j hj
    have : j = 0 ∨ j = 1 := by simp at hj; omega
    rcases this with rfl | rfl
    · exact ⟨by rw [show 1063 + 0 * 1 + 0 = 1063 from rfl, x1063]; rfl, fz _⟩
    · exact ⟨by rw [show 1063 + 0 * 1 + 1 = 1064 from rfl, x1064]; rfl, fz _⟩
  have x9 : (w.drew.setCells P 1063 [.int .u8 a0, .int .u8 a1]).cell? ⟨P, 2087, none⟩ = some (.slice none 0 0) := by simp [World.setCells, go_sem, x2087]
  have f9 : (w.drew.setCells P 1063 [.int .u8 a0, .int .u8 a1]).frozen? ⟨P, 2087, none⟩ = false := by simp [World.setCells, go_sem, f1]
  have hn : Newl P 2 [a0, a1] r 2 w ((w.drew.setCells P 1063 [.int .u8 a0, .int .u8 a1]).setCell ⟨P, 2087, none⟩ (.slice (some ⟨P, 1063, none⟩) 2 1024)) := by
    refine ⟨?_, ?_, ?_, ?_, ?_, ?_, ?_⟩
    · simp [World.setCells, go_sem, *]
    · intro i hi
      have : i = 0 ∨ i = 1 := by omega
      rcases this with rfl | rfl
      all_goals simp [World.setCells, go_sem, *]
    · simp [World.setCells, go_sem, *]
    · simp [World.setCells, go_sem, *]
    · intro o
      have := fz o
      simp [World.setCells, go_sem, this]
    · intro b o hb
      have hb' : ¬ P = b := fun h => hb h.symm
      simp [World.setCells, go_sem, hb']
    · have hd : Below P w w.drew := below_draw (Below.refl P w)
      simp only [World.setCells]
      refine Below.setCell (Below.setCell (Below.setCell hd ?_ _) ?_ _) ?_ _ <;> exact Nat.le_refl P
  have HN := Lib.hid hn
  clear fz hk hv he hn
  go_enter Try.func44, Try.ntmps44
  go_wp2_with (go_at_call 52; refine hr.mono ?_; rintro e w' ⟨rfl, rfl⟩)
  go_region_law (refine step_append_room rfl _ _ 25 rfl 5 i0 1 Try.underlying25 hi hz1 P 1063 0 1024 rfl ⟨g, n, none⟩ 2 (c - n) [.int .u8 a0, .int .u8 a1] rfl rfl hcn h1c (by omega) hsp ?_)
  all_goals
    go_wp2
    go_end0
    exact ⟨rfl, HN.out⟩
set_option maxRecDepth 100000 in
set_option maxHeartbeats 2000000 in
theorem newk3 (P g m c n : Nat) (q r : Int) (a0 a1 a2 : Int) (w : World) (h : Par w P g m c q r 3) (h1 : 2048 ≤ r) (h2 : r < 65536) (hv : valB r = true) (hq : q = ((n + 3 : Nat) : Int)) (hm : n + 3 ≤ m) (hmc : m ≤ c) (hc : c ≤ 1048576) (hgP : g ≠ P) (s0 : w.cell? ⟨g, n + 0, none⟩ = some (.int .u8 a0)) (s1 : w.cell? ⟨g, n + 1, none⟩ = some (.int .u8 a1)) (s2 : w.cell? ⟨g, n + 2, none⟩ = some (.int .u8 a2)) :
    Calls Try.prog 44 #[.pointer (some ⟨P, 0, none⟩), .int .i32 r] w fun e w' => e = .returned (.tuple #[]) ∧ Newl P 3 [a0, a1, a2] r 3 w w' := by
  obtain ⟨x1, x2, x3, x4, x2087, x1063, x1064, x1065, x1066, fz⟩ := h
  have f1 := fz 2087
  have hlt := lt_of_cell x1
  have FZ := Lib.hid fz
  have hr := runeLen r w hv
  have hk : rlen r = 3 := by unfold rlen; rw [if_neg (by omega), if_neg (by omega), if_pos (by omega)]
  rw [hk] at hr
  have g0 : ¬ r < 128 := by omega
  have g1 : (r == 1114112) = false := by simp; omega
  have g2 : (r == 1114113) = false := by simp; omega
  have hP' : ¬ P = g := fun h => hgP h.symm
  subst hq
  have y2 : IntKind.u64.wrap (((n + 3 : Nat) : Int) - 3) = (n : Int) := by rw [IntWalk.u64_in _ (by omega)]; omega
  have yk : IntKind.u64.wrap 3 = 3 := by decide
  obtain ⟨e, he⟩ : ∃ e, n + 3 = e := ⟨_, rfl⟩
  rw [he] at x2 y2
  have i1 : (0 : Int) ≤ (n : Int) := by omega
  have i2 : (n : Int) ≤ (e : Int) := by omega
  have i3 : (e : Int) ≤ (c : Int) := by omega
  have i4 : n ≤ e := by omega
  have i5 : e ≤ c := by omega
  have i6 : ¬ c = n := by omega
  have i7 : ¬ n = c := by omega
  have i8 : e - n = 3 := by omega
  obtain ⟨i0, hi, hz0, hz1, hz2⟩ := info_parts info5
  have hcn : ∀ j u, ([.int .u8 a0, .int .u8 a1, .int .u8 a2] : List Value)[j]? = some u → w.cell? ((⟨g, n, none⟩ : Addr).add j) = some u := by
    intro j u hu
    have ea : (⟨g, n, none⟩ : Addr).add j = ⟨g, n + j, none⟩ := by unfold Addr.add; split <;> simp_all
    rw [ea]
    have : j = 0 ∨ j = 1 ∨ j = 2 ∨ 3 ≤ j := by omega
    rcases this with rfl | rfl | rfl | hj
    · simp at hu; subst hu; exact s0
    · simp at hu; subst hu; exact s1
    · simp at hu; subst hu; exact s2
    · have := List.getElem?_eq_none (l := ([.int .u8 a0, .int .u8 a1, .int .u8 a2] : List Value)) (i := j) (by simpa using hj)
      rw [this] at hu
      exact absurd hu (by simp)
  have h1c : ∀ u ∈ ([.int .u8 a0, .int .u8 a1, .int .u8 a2] : List Value), u.oneCell' = true := by
    intro u hu
    simp at hu
    rcases hu with rfl | rfl | rfl <;> rfl
  have hsp : ∀ j, j < ([.int .u8 a0, .int .u8 a1, .int .u8 a2] : List Value).length → (w.cell? ⟨P, 1063 + 0 * 1 + j, none⟩).isSome = true ∧ w.frozen? ⟨P, 1063 + 0 * 1 + j, none⟩ = false := by
    intro j hj
    have : j = 0 ∨ j = 1 ∨ j = 2 := by simp at hj; omega
    rcases this with rfl | rfl | rfl
    · exact ⟨by rw [show 1063 + 0 * 1 + 0 = 1063 from rfl, x1063]; rfl, fz _⟩
    · exact ⟨by rw [show 1063 + 0 * 1 + 1 = 1064 from rfl, x1064]; rfl, fz _⟩
    · exact ⟨by rw [show 1063 + 0 * 1 + 2 = 1065 from rfl, x1065]; rfl, fz _⟩
  have x9 : (w.drew.setCells P 1063 [.int .u8 a0, .int .u8 a1, .int .u8 a2]).cell? ⟨P, 2087, none⟩ = some (.slice none 0 0) := by simp [World.setCells, go_sem, x2087]
  have f9 : (w.drew.setCells P 1063 [.int .u8 a0, .int .u8 a1, .int .u8 a2]).frozen? ⟨P, 2087, none⟩ = false := by simp [World.setCells, go_sem, f1]
  have hn : Newl P 3 [a0, a1, a2] r 3 w ((w.drew.setCells P 1063 [.int .u8 a0, .int .u8 a1, .int .u8 a2]).setCell ⟨P, 2087, none⟩ (.slice (some ⟨P, 1063, none⟩) 3 1024)) := by
    refine ⟨?_, ?_, ?_, ?_, ?_, ?_, ?_⟩
    · simp [World.setCells, go_sem, *]
    · intro i hi
      have : i = 0 ∨ i = 1 ∨ i = 2 := by omega
      rcases this with rfl | rfl | rfl
      all_goals simp [World.setCells, go_sem, *]
    · simp [World.setCells, go_sem, *]
    · simp [World.setCells, go_sem, *]
    · intro o
      have := fz o
      simp [World.setCells, go_sem, this]
    · intro b o hb
      have hb' : ¬ P = b := fun h => hb h.symm
      simp [World.setCells, go_sem, hb']
    · have hd : Below P w w.drew := below_draw (Below.refl P w)
      simp only [World.setCells]
      refine Below.setCell (Below.setCell (Below.setCell (Below.setCell hd ?_ _) ?_ _) ?_ _) ?_ _ <;> exact Nat.le_refl P
  have HN := Lib.hid hn
  clear fz hk hv he hn
  go_enter Try.func44, Try.ntmps44
  go_wp2_with (go_at_call 52; refine hr.mono ?_; rintro e w' ⟨rfl, rfl⟩)
  go_region_law (refine step_append_room rfl _ _ 25 rfl 5 i0 1 Try.underlying25 hi hz1 P 1063 0 1024 rfl ⟨g, n, none⟩ 3 (c - n) [.int .u8 a0, .int .u8 a1, .int .u8 a2] rfl rfl hcn h1c (by omega) hsp ?_)
  all_goals
    go_wp2
    go_end0
    exact ⟨rfl, HN.out⟩
set_option maxRecDepth 100000 in
set_option maxHeartbeats 2000000 in
theorem newk4 (P g m c n : Nat) (q r : Int) (a0 a1 a2 a3 : Int) (w : World) (h : Par w P g m c q r 4) (h1 : 65536 ≤ r) (h2 : r ≤ 1114111) (hv : valB r = true) (hq : q = ((n + 4 : Nat) : Int)) (hm : n + 4 ≤ m) (hmc : m ≤ c) (hc : c ≤ 1048576) (hgP : g ≠ P) (s0 : w.cell? ⟨g, n + 0, none⟩ = some (.int .u8 a0)) (s1 : w.cell? ⟨g, n + 1, none⟩ = some (.int .u8 a1)) (s2 : w.cell? ⟨g, n + 2, none⟩ = some (.int .u8 a2)) (s3 : w.cell? ⟨g, n + 3, none⟩ = some (.int .u8 a3)) :
    Calls Try.prog 44 #[.pointer (some ⟨P, 0, none⟩), .int .i32 r] w fun e w' => e = .returned (.tuple #[]) ∧ Newl P 4 [a0, a1, a2, a3] r 4 w w' := by
  obtain ⟨x1, x2, x3, x4, x2087, x1063, x1064, x1065, x1066, fz⟩ := h
  have f1 := fz 2087
  have hlt := lt_of_cell x1
  have FZ := Lib.hid fz
  have hr := runeLen r w hv
  have hk : rlen r = 4 := by unfold rlen; rw [if_neg (by omega), if_neg (by omega), if_neg (by omega)]
  rw [hk] at hr
  have g0 : ¬ r < 128 := by omega
  have g1 : (r == 1114112) = false := by simp; omega
  have g2 : (r == 1114113) = false := by simp; omega
  have hP' : ¬ P = g := fun h => hgP h.symm
  subst hq
  have y2 : IntKind.u64.wrap (((n + 4 : Nat) : Int) - 4) = (n : Int) := by rw [IntWalk.u64_in _ (by omega)]; omega
  have yk : IntKind.u64.wrap 4 = 4 := by decide
  obtain ⟨e, he⟩ : ∃ e, n + 4 = e := ⟨_, rfl⟩
  rw [he] at x2 y2
  have i1 : (0 : Int) ≤ (n : Int) := by omega
  have i2 : (n : Int) ≤ (e : Int) := by omega
  have i3 : (e : Int) ≤ (c : Int) := by omega
  have i4 : n ≤ e := by omega
  have i5 : e ≤ c := by omega
  have i6 : ¬ c = n := by omega
  have i7 : ¬ n = c := by omega
  have i8 : e - n = 4 := by omega
  obtain ⟨i0, hi, hz0, hz1, hz2⟩ := info_parts info5
  have hcn : ∀ j u, ([.int .u8 a0, .int .u8 a1, .int .u8 a2, .int .u8 a3] : List Value)[j]? = some u → w.cell? ((⟨g, n, none⟩ : Addr).add j) = some u := by
    intro j u hu
    have ea : (⟨g, n, none⟩ : Addr).add j = ⟨g, n + j, none⟩ := by unfold Addr.add; split <;> simp_all
    rw [ea]
    have : j = 0 ∨ j = 1 ∨ j = 2 ∨ j = 3 ∨ 4 ≤ j := by omega
    rcases this with rfl | rfl | rfl | rfl | hj
    · simp at hu; subst hu; exact s0
    · simp at hu; subst hu; exact s1
    · simp at hu; subst hu; exact s2
    · simp at hu; subst hu; exact s3
    · have := List.getElem?_eq_none (l := ([.int .u8 a0, .int .u8 a1, .int .u8 a2, .int .u8 a3] : List Value)) (i := j) (by simpa using hj)
      rw [this] at hu
      exact absurd hu (by simp)
  have h1c : ∀ u ∈ ([.int .u8 a0, .int .u8 a1, .int .u8 a2, .int .u8 a3] : List Value), u.oneCell' = true := by
    intro u hu
    simp at hu
    rcases hu with rfl | rfl | rfl | rfl <;> rfl
  have hsp : ∀ j, j < ([.int .u8 a0, .int .u8 a1, .int .u8 a2, .int .u8 a3] : List Value).length → (w.cell? ⟨P, 1063 + 0 * 1 + j, none⟩).isSome = true ∧ w.frozen? ⟨P, 1063 + 0 * 1 + j, none⟩ = false := by
    intro j hj
    have : j = 0 ∨ j = 1 ∨ j = 2 ∨ j = 3 := by simp at hj; omega
    rcases this with rfl | rfl | rfl | rfl
    · exact ⟨by rw [show 1063 + 0 * 1 + 0 = 1063 from rfl, x1063]; rfl, fz _⟩
    · exact ⟨by rw [show 1063 + 0 * 1 + 1 = 1064 from rfl, x1064]; rfl, fz _⟩
    · exact ⟨by rw [show 1063 + 0 * 1 + 2 = 1065 from rfl, x1065]; rfl, fz _⟩
    · exact ⟨by rw [show 1063 + 0 * 1 + 3 = 1066 from rfl, x1066]; rfl, fz _⟩
  have x9 : (w.drew.setCells P 1063 [.int .u8 a0, .int .u8 a1, .int .u8 a2, .int .u8 a3]).cell? ⟨P, 2087, none⟩ = some (.slice none 0 0) := by simp [World.setCells, go_sem, x2087]
  have f9 : (w.drew.setCells P 1063 [.int .u8 a0, .int .u8 a1, .int .u8 a2, .int .u8 a3]).frozen? ⟨P, 2087, none⟩ = false := by simp [World.setCells, go_sem, f1]
  have hn : Newl P 4 [a0, a1, a2, a3] r 4 w ((w.drew.setCells P 1063 [.int .u8 a0, .int .u8 a1, .int .u8 a2, .int .u8 a3]).setCell ⟨P, 2087, none⟩ (.slice (some ⟨P, 1063, none⟩) 4 1024)) := by
    refine ⟨?_, ?_, ?_, ?_, ?_, ?_, ?_⟩
    · simp [World.setCells, go_sem, *]
    · intro i hi
      have : i = 0 ∨ i = 1 ∨ i = 2 ∨ i = 3 := by omega
      rcases this with rfl | rfl | rfl | rfl
      all_goals simp [World.setCells, go_sem, *]
    · simp [World.setCells, go_sem, *]
    · simp [World.setCells, go_sem, *]
    · intro o
      have := fz o
      simp [World.setCells, go_sem, this]
    · intro b o hb
      have hb' : ¬ P = b := fun h => hb h.symm
      simp [World.setCells, go_sem, hb']
    · have hd : Below P w w.drew := below_draw (Below.refl P w)
      simp only [World.setCells]
      refine Below.setCell (Below.setCell (Below.setCell (Below.setCell (Below.setCell hd ?_ _) ?_ _) ?_ _) ?_ _) ?_ _ <;> exact Nat.le_refl P
  have HN := Lib.hid hn
  clear fz hk hv he hn
  go_enter Try.func44, Try.ntmps44
  go_wp2_with (go_at_call 52; refine hr.mono ?_; rintro e w' ⟨rfl, rfl⟩)
  go_region_law (refine step_append_room rfl _ _ 25 rfl 5 i0 1 Try.underlying25 hi hz1 P 1063 0 1024 rfl ⟨g, n, none⟩ 4 (c - n) [.int .u8 a0, .int .u8 a1, .int .u8 a2, .int .u8 a3] rfl rfl hcn h1c (by omega) hsp ?_)
  all_goals
    go_wp2
    go_end0
    exact ⟨rfl, HN.out⟩
end Go.Proofs.Ytccnpgmceoojmac.lit
