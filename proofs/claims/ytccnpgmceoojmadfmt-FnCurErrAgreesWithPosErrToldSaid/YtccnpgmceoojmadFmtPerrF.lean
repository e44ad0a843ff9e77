/-
  The readers of a parser's error and lexer state, the comparison of two errors, copies of bytes: what they answer.
-/
import Derived.Test.YtccnpgmceoojmadFmtPerrB
namespace Go.Proofs.YtccnpgmceoojmadFmt.perr
open Go.RowKit
open Go.Proofs.YtccnpgmceoojmadFmt
open Go.Extern.Stop Go.Stop Go.Extern

theorem mkPos (o l : Int) (w : World) : Calls Tryf.prog 8 #[.int .u32 o, .int .u32 l] w fun e w' => e = .returned (.agg #[.int .u32 o, .int .u32 l]) ∧ w.alloc (.cells #[.int .u32 o, .int .u32 l] 28) = w' := by
  go_enter Tryf.func8, Tryf.ntmps8
  go_wp2
  go_returns
  exact ⟨rfl, rfl⟩
theorem zOffs (o l : Int) (w : World) : Calls Tryf.prog 27 #[.agg #[.int .u32 o, .int .u32 l]] w fun e w' => e = .returned (.int .u32 o) ∧ w.alloc (.cells #[.int .u32 o, .int .u32 l] 28) = w' := by
  go_enter Tryf.func27, Tryf.ntmps27
  go_wp2
  go_ret
  exact ⟨rfl, rfl⟩
theorem zLc (o l : Int) (w : World) : Calls Tryf.prog 28 #[.agg #[.int .u32 o, .int .u32 l]] w fun e w' => e = .returned (.int .u32 l) ∧ w.alloc (.cells #[.int .u32 o, .int .u32 l] 28) = w' := by
  go_enter Tryf.func28, Tryf.ntmps28
  go_wp2
  go_ret
  exact ⟨rfl, rfl⟩
theorem cp_nil (w : World) : Calls Tryf.prog 7 #[.slice none 0 0] w fun e w' => e = .returned (.slice none 0 0) ∧ w = w' := by
  have hn := fun (w' : World) => Lib.run_eql_slice_nil (P := Tryf.prog) w' 23 5 none 0 0 0 0 Tryf.underlying23
  go_enter Tryf.func7, Tryf.ntmps7
  go_wp2
  go_ret
  exact ⟨rfl, rfl⟩
theorem cp_zero (x : Addr) (cap : Nat) (zs : List Int) (w : World) : Calls Tryf.prog 7 #[.slice (some x) 0 cap] w fun e w' => e = .returned (.slice (some ⟨w.heap.size, 0, none⟩) 0 0) ∧ w.alloc (.cells (cpL .u8 zs 0 0) 5) = w' := by
  have hn := fun (w' : World) => Lib.run_eql_slice_nil (P := Tryf.prog) w' 23 5 (some x) 0 cap 0 0 Tryf.underlying23
  have hmk : ∀ w' : World, (Instr.makeSlice 23 (.int .i64 0) (.int .i64 0)).run Tryf.prog w' = .ok (.slice (some ⟨w'.heap.size, 0, none⟩) 0 0) (w'.alloc (.cells (cpL .u8 zs 0 0) 5)) := fun w' => by
    have h := run_make_row' (P := Tryf.prog) 23 5 (.int .u8 0) 1 Tryf.underlying23 (by kernel_rfl) rfl .i64 .i64 0 (by omega) (by omega) w'
    rw [cpL_zero .u8 zs] at h
    exact h
  go_enter Tryf.func7, Tryf.ntmps7
  go_wp2
  refine wp_loop_rounds 1 ?_
  rw [rounds_succ]
  go_wp2
  go_ret
  exact ⟨rfl, rfl⟩
theorem cp_pos (b off len cap : Nat) (zs : List Int) (w : World) (hl : 0 < len) (hm : len ≤ 1048576) (hc : ∀ i, i < len → w.cell? ⟨b, off + i, none⟩ = some (.int .u8 (zs.getD i 0))) :
    Calls Tryf.prog 7 #[.slice (some ⟨b, off, none⟩) len cap] w fun e w' => e = .returned (.slice (some ⟨w.heap.size, 0, none⟩) len len) ∧ w.alloc (.cells (cpL .u8 zs len len) 5) = w' := by
  have hn := fun (w' : World) => Lib.run_eql_slice_nil (P := Tryf.prog) w' 23 5 (some ⟨b, off, none⟩) len cap 0 0 Tryf.underlying23
  have hmk : ∀ w' : World, (Instr.makeSlice 23 (.int .i64 (len : Int)) (.int .i64 (len : Int))).run Tryf.prog w' = .ok (.slice (some ⟨w'.heap.size, 0, none⟩) len len) (w'.alloc (.cells (cpL .u8 zs len 0) 5)) := fun w' => by
    have h := run_make_row' (P := Tryf.prog) 23 5 (.int .u8 0) 1 Tryf.underlying23 (by kernel_rfl) rfl .i64 .i64 len (by omega) (by omega) w'
    rw [cpL_zero .u8 zs] at h
    exact h
  have hlt := lt_of_cell (hc 0 hl)
  have HC := Lib.hid hc
  clear hc
  go_enter Tryf.func7, Tryf.ntmps7
  go_wp2
  clear hmk hn
  go_loopw [4] (fun i wr => ∃ j : Nat, j ≤ len ∧ i = .int .i64 j ∧ wr = w.alloc (.cells (cpL .u8 zs len j) 5)) (fun i _ => len - (intOf i).toNat)
  case atStart => exact ⟨0, by omega, rfl, rfl⟩
  case round =>
    obtain ⟨j, hj, rfl, rfl⟩ := hrel
    by_cases hjl : j < len
    · have c1 := HC.out j hjl
      have c2 : (cpL .u8 zs len j)[j]? = some (.int .u8 0) := by rw [cpL_get .u8 zs len j j hjl]; simp
      have HS := Lib.hid (cpL_set .u8 zs len j hjl)
      generalize zs.getD j 0 = zj at *
      go_wp2
      go_roundw
      case rel => exact ⟨j + 1, by omega, by go_num, by rw [← HS.out]⟩
      case measure => simp [intOf]; omega
    · obtain rfl : j = len := by omega
      go_wp2
      go_ret
      exact ⟨rfl, rfl⟩
def Cop (n : Nat) (w : World) (e : Ending) (w' : World) : Prop := ∃ a c, e = .returned (.slice a n c) ∧ Below w.heap.size w w'
theorem cpAny (a : Option Addr) (n cap : Nat) (zs : List Int) (w : World) (hm : n ≤ 1048576) (h : IsRowB .u8 w a n cap zs) : Calls Tryf.prog 7 #[.slice a n cap] w (Cop n w) := by
  rcases h with ⟨rfl, rfl, rfl, rfl⟩ | ⟨x, rfl, hl, hx, hz, hcell, hwz⟩
  · exact (cp_nil w).mono fun e w' ⟨h1, h2⟩ => ⟨none, 0, h1, h2 ▸ Below.refl _ _⟩
  · by_cases h0 : n = 0
    · subst h0
      exact (cp_zero x cap zs w).mono fun e w' ⟨h1, h2⟩ => ⟨_, _, h1, h2 ▸ (Below.refl _ _).alloc (Nat.le_refl _) _⟩
    · obtain ⟨b, off, rfl, hc⟩ := row_at hcell (by omega)
      exact (cp_pos b off n cap zs w (by omega) (by omega) (fun i hi => hc i (by omega))).mono fun e w' ⟨h1, h2⟩ => ⟨_, _, h1, h2 ▸ (Below.refl _ _).alloc (Nat.le_refl _) _⟩
theorem isRowB_later {w wx : World} {a : Option Addr} {n cap : Nat} {zs : List Int} (h : IsRowB .u8 w a n cap zs) (hb : Below w.heap.size w wx) : IsRowB .u8 wx a n cap zs := by
  rcases h with h | ⟨x, h1, h2, h3, h4, h5, h6⟩
  · exact Or.inl h
  · exact Or.inr ⟨x, h1, h2, h3, h4, fun i hi => cell_later hb (h5 i hi), h6⟩
set_option maxRecDepth 100000 in
theorem isInc0 (w : World) : Calls Tryf.prog 18 #[.nilIface] w fun e w' => e = .returned (.bool false) ∧ Below w.heap.size w w' := by
  have hta : ∀ w : World, (Instr.typeAssert .nilIface 52 37 true).run Tryf.prog w = .ok (.tuple #[.agg #[.string ⟨#[]⟩, .int .u32 0, .int .u32 0, .string ⟨#[]⟩, .bool false], .bool false]) w := fun _ => by kernel_rfl
  go_enter Tryf.func18, Tryf.ntmps18
  go_wp2
  go_ret
  exact ⟨rfl, by go_grown⟩
set_option maxRecDepth 100000 in
theorem isInc1 (nm s : ByteArray) (o l : Int) (inc : Bool) (w : World) : Calls Tryf.prog 18 #[(.iface 37 (.agg #[.string nm, .int .u32 o, .int .u32 l, .string s, .bool inc]))] w fun e w' => e = .returned (.bool inc) ∧ Below w.heap.size w w' := by
  have htb : ∀ (v : Value) (w : World), (Instr.typeAssert (.iface 37 v) 52 37 true).run Tryf.prog w = .ok (.tuple #[v, .bool true]) w := fun _ _ => by kernel_rfl
  go_enter Tryf.func18, Tryf.ntmps18
  go_wp2
  go_ret
  exact ⟨rfl, by go_grown⟩
theorem errInc0 (p : Nat) (w : World) (h : w.cell? ⟨p, 7, none⟩ = some .nilIface) : Calls Tryf.prog 10 #[.pointer (some ⟨p, 0, none⟩)] w fun e w' => e = .returned (.bool false) ∧ Below w.heap.size w w' := by
  go_enter Tryf.func10, Tryf.ntmps10
  go_wp2_with fail
  refine (isInc0 _).mono ?_
  rintro e w' ⟨rfl, hb⟩
  go_wp2
  go_ret
  exact ⟨rfl, hb⟩
theorem errInc1 (p : Nat) (nm s : ByteArray) (o l : Int) (inc : Bool) (w : World) (h : w.cell? ⟨p, 7, none⟩ = some (.iface 37 (.agg #[.string nm, .int .u32 o, .int .u32 l, .string s, .bool inc]))) : Calls Tryf.prog 10 #[.pointer (some ⟨p, 0, none⟩)] w fun e w' => e = .returned (.bool inc) ∧ Below w.heap.size w w' := by
  go_enter Tryf.func10, Tryf.ntmps10
  go_wp2_with fail
  refine (isInc1 nm s o l inc _).mono ?_
  rintro e w' ⟨rfl, hb⟩
  go_wp2
  go_ret
  exact ⟨rfl, hb⟩
set_option maxRecDepth 100000 in
theorem parseErr (p : Nat) (nm s : ByteArray) (o l : Int) (inc : Bool) (w : World) (h : w.cell? ⟨p, 7, none⟩ = some (.iface 37 (.agg #[.string nm, .int .u32 o, .int .u32 l, .string s, .bool inc]))) : Calls Tryf.prog 15 #[.pointer (some ⟨p, 0, none⟩)] w fun e w' => e = .returned (.tuple #[.agg #[.string nm, .int .u32 o, .int .u32 l, .string s, .bool inc], .bool true]) ∧ Below w.heap.size w w' := by
  have hlt := lt_of_cell h
  have htb : ∀ (v : Value) (w : World), (Instr.typeAssert (.iface 37 v) 52 37 true).run Tryf.prog w = .ok (.tuple #[v, .bool true]) w := fun _ _ => by kernel_rfl
  go_enter Tryf.func15, Tryf.ntmps15
  go_wp2
  refine bodyPost_ret (v := .tuple #[.agg #[.string nm, .int .u32 o, .int .u32 l, .string s, .bool inc], .bool true]) (by simp [results, Tryf.results15, go_sem]) rfl ⟨rfl, ?_⟩
  go_grown
set_option maxHeartbeats 1000000 in
set_option maxRecDepth 100000 in
theorem samePos (o l : Int) (w : World) : Calls Tryf.prog 21 #[.agg #[.int .u32 o, .int .u32 l], .agg #[.int .u32 o, .int .u32 l]] w fun e w' => e = .returned (.bool true) ∧ Below w.heap.size w w' := by
  go_enter Tryf.func21, Tryf.ntmps21
  go_wp2
  refine wp_world (fun W => W.cell? ⟨w.heap.size, 0, none⟩ = some (.int .u32 o) ∧ W.cell? ⟨w.heap.size, 1, none⟩ = some (.int .u32 l) ∧ W.cell? ⟨w.heap.size + 1, 0, none⟩ = some (.int .u32 o) ∧ W.cell? ⟨w.heap.size + 1, 1, none⟩ = some (.int .u32 l) ∧ Below w.heap.size w W)
    ⟨by simp [go_sem], by simp [go_sem], by simp [go_sem], by simp [go_sem], by go_grown⟩ ?_
  rintro W ⟨s0, s1, s2, s3, BW⟩
  go_region_held3 (fun V => V.cell? ⟨w.heap.size, 0, none⟩ = some (.int .u32 o) ∧ V.cell? ⟨w.heap.size, 1, none⟩ = some (.int .u32 l) ∧ V.cell? ⟨w.heap.size + 1, 0, none⟩ = some (.int .u32 o) ∧ V.cell? ⟨w.heap.size + 1, 1, none⟩ = some (.int .u32 l)) (exact ⟨cell_later (w := W) (by go_grown) s0, cell_later (w := W) (by go_grown) s1, cell_later (w := W) (by go_grown) s2, cell_later (w := W) (by go_grown) s3⟩) (first | (go_at_call 27; refine (zOffs _ _ _).mono ?_; rintro e w' ⟨rfl, rfl⟩) | (go_at_call 28; refine (zLc _ _ _).mono ?_; rintro e w' ⟨rfl, rfl⟩))
  all_goals
    go_wp2
    go_ret
    exact ⟨rfl, below_next BW (by go_grown)⟩
set_option maxRecDepth 100000 in
theorem sameFields (nm s s' : ByteArray) (o l : Int) (inc : Bool) (w : World) : Calls Tryf.prog 16 #[.agg #[.string nm, .int .u32 o, .int .u32 l, .string s, .bool inc], .agg #[.string nm, .int .u32 o, .int .u32 l, .string s', .bool inc]] w fun e w' => e = .returned (.bool true) ∧ Below w.heap.size w w' := by
  go_enter Tryf.func16, Tryf.ntmps16
  go_wp2_with fail
  refine calls_world (fun W => W.cell? ⟨w.heap.size, 4, none⟩ = some (.bool inc) ∧ W.cell? ⟨w.heap.size + 1, 4, none⟩ = some (.bool inc) ∧ Below w.heap.size w W) ⟨by simp [go_sem], by simp [go_sem], by go_grown⟩ ?_
  rintro W ⟨s0, s1, BW⟩
  refine (samePos o l _).mono ?_
  rintro e w1 ⟨rfl, hb⟩
  have q0 := cell_later hb s0
  have q1 := cell_later hb s1
  have B1 := below_next BW hb
  clear hb s0 s1
  go_wp2
  go_ret
  exact ⟨by simp, B1⟩
theorem lexState (p : Nat) (bsp r wd tok : Int) (w : World) (x2 : w.cell? ⟨p, 2, none⟩ = some (.int .u64 bsp)) (x3 : w.cell? ⟨p, 3, none⟩ = some (.int .i32 r)) (x4 : w.cell? ⟨p, 4, none⟩ = some (.int .i64 wd)) (x10 : w.cell? ⟨p, 10, none⟩ = some (.int .u32 tok)) :
    Calls Tryf.prog 22 #[.pointer (some ⟨p, 0, none⟩)] w fun e w' => e = .returned (.tuple #[.int .u32 tok, .int .i32 r, .int .i64 wd, .int .u64 bsp]) ∧ Below w.heap.size w w' := by
  go_enter Tryf.func22, Tryf.ntmps22
  go_wp2
  go_quiet (fail)
  go_wp2
  refine bodyPost_ret (v := .tuple #[.int .u32 tok, .int .i32 r, .int .i64 wd, .int .u64 bsp]) (by simp [results, Tryf.results22, go_sem]) rfl ⟨rfl, ?_⟩
  exact below_drewN (Below.refl _ _) _
set_option maxRecDepth 100000 in
theorem lexErr (p n : Nat) (bsp : Int) (w : World) (hn : n ≤ 1048576) (hb : bsp = (n : Int) + 1) (x2 : w.cell? ⟨p, 2, none⟩ = some (.int .u64 bsp)) (x3 : w.cell? ⟨p, 3, none⟩ = some (.int .i32 1114112)) (x4 : w.cell? ⟨p, 4, none⟩ = some (.int .i64 1)) (x10 : w.cell? ⟨p, 10, none⟩ = some (.int .u32 1)) :
    Calls Tryf.prog 17 #[.pointer (some ⟨p, 0, none⟩), .int .i64 (n : Int)] w fun e w' => e = .returned (.bool true) ∧ Below w.heap.size w w' := by
  subst hb
  go_enter Tryf.func17, Tryf.ntmps17
  go_wp2_with fail
  refine (lexState p _ _ _ _ _ x2 x3 x4 x10).mono ?_
  rintro e w1 ⟨rfl, hb⟩
  clear x2 x3 x4 x10
  go_wp2
  go_ret
  exact ⟨by simp, hb⟩
end Go.Proofs.YtccnpgmceoojmadFmt.perr
