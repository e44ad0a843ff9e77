/-
  The parser's maker.
-/
import Derived.Test.YtccnpgmceoojmadFmtPerrB
namespace Go.Proofs.YtccnpgmceoojmadFmt.perr
open Go.RowKit
open Go.Proofs.YtccnpgmceoojmadFmt
open Go.Extern.Stop Go.Stop Go.Extern

theorem big_x1 (fb : Nat) (tok o l on : Int) (la : Option Addr) (ln lc : Nat) (ba : Option Addr) (bn bc : Nat) : (bigS Tryf.prog 62 [(5, .pointer (some ⟨fb, 0, none⟩)), (10, .int .u32 tok), (15, .agg #[.int .u32 o, .int .u32 l]), (28, .int .i64 on), (40, .slice la ln lc), (1, .slice ba bn bc)])[1]? = some (.slice ba bn bc) := by kernel_rfl
theorem big_x2 (fb : Nat) (tok o l on : Int) (la : Option Addr) (ln lc : Nat) (ba : Option Addr) (bn bc : Nat) : (bigS Tryf.prog 62 [(5, .pointer (some ⟨fb, 0, none⟩)), (10, .int .u32 tok), (15, .agg #[.int .u32 o, .int .u32 l]), (28, .int .i64 on), (40, .slice la ln lc), (1, .slice ba bn bc)])[2]? = some (.int .u64 0) := by kernel_rfl
theorem big_x3 (fb : Nat) (tok o l on : Int) (la : Option Addr) (ln lc : Nat) (ba : Option Addr) (bn bc : Nat) : (bigS Tryf.prog 62 [(5, .pointer (some ⟨fb, 0, none⟩)), (10, .int .u32 tok), (15, .agg #[.int .u32 o, .int .u32 l]), (28, .int .i64 on), (40, .slice la ln lc), (1, .slice ba bn bc)])[3]? = some (.int .i32 0) := by kernel_rfl
theorem big_x4 (fb : Nat) (tok o l on : Int) (la : Option Addr) (ln lc : Nat) (ba : Option Addr) (bn bc : Nat) : (bigS Tryf.prog 62 [(5, .pointer (some ⟨fb, 0, none⟩)), (10, .int .u32 tok), (15, .agg #[.int .u32 o, .int .u32 l]), (28, .int .i64 on), (40, .slice la ln lc), (1, .slice ba bn bc)])[4]? = some (.int .i64 0) := by kernel_rfl
theorem big_x5 (fb : Nat) (tok o l on : Int) (la : Option Addr) (ln lc : Nat) (ba : Option Addr) (bn bc : Nat) : (bigS Tryf.prog 62 [(5, .pointer (some ⟨fb, 0, none⟩)), (10, .int .u32 tok), (15, .agg #[.int .u32 o, .int .u32 l]), (28, .int .i64 on), (40, .slice la ln lc), (1, .slice ba bn bc)])[5]? = some (.pointer (some ⟨fb, 0, none⟩)) := by kernel_rfl
theorem big_x7 (fb : Nat) (tok o l on : Int) (la : Option Addr) (ln lc : Nat) (ba : Option Addr) (bn bc : Nat) : (bigS Tryf.prog 62 [(5, .pointer (some ⟨fb, 0, none⟩)), (10, .int .u32 tok), (15, .agg #[.int .u32 o, .int .u32 l]), (28, .int .i64 on), (40, .slice la ln lc), (1, .slice ba bn bc)])[7]? = some (.nilIface) := by kernel_rfl
theorem big_x10 (fb : Nat) (tok o l on : Int) (la : Option Addr) (ln lc : Nat) (ba : Option Addr) (bn bc : Nat) : (bigS Tryf.prog 62 [(5, .pointer (some ⟨fb, 0, none⟩)), (10, .int .u32 tok), (15, .agg #[.int .u32 o, .int .u32 l]), (28, .int .i64 on), (40, .slice la ln lc), (1, .slice ba bn bc)])[10]? = some (.int .u32 tok) := by kernel_rfl
theorem big_x15 (fb : Nat) (tok o l on : Int) (la : Option Addr) (ln lc : Nat) (ba : Option Addr) (bn bc : Nat) : (bigS Tryf.prog 62 [(5, .pointer (some ⟨fb, 0, none⟩)), (10, .int .u32 tok), (15, .agg #[.int .u32 o, .int .u32 l]), (28, .int .i64 on), (40, .slice la ln lc), (1, .slice ba bn bc)])[15]? = some (.int .u32 o) := by kernel_rfl
theorem big_x16 (fb : Nat) (tok o l on : Int) (la : Option Addr) (ln lc : Nat) (ba : Option Addr) (bn bc : Nat) : (bigS Tryf.prog 62 [(5, .pointer (some ⟨fb, 0, none⟩)), (10, .int .u32 tok), (15, .agg #[.int .u32 o, .int .u32 l]), (28, .int .i64 on), (40, .slice la ln lc), (1, .slice ba bn bc)])[16]? = some (.int .u32 l) := by kernel_rfl
theorem big_x29 (fb : Nat) (tok o l on : Int) (la : Option Addr) (ln lc : Nat) (ba : Option Addr) (bn bc : Nat) : (bigS Tryf.prog 62 [(5, .pointer (some ⟨fb, 0, none⟩)), (10, .int .u32 tok), (15, .agg #[.int .u32 o, .int .u32 l]), (28, .int .i64 on), (40, .slice la ln lc), (1, .slice ba bn bc)])[29]? = some (.int .i64 on) := by kernel_rfl
theorem big_x2087 (fb : Nat) (tok o l on : Int) (la : Option Addr) (ln lc : Nat) (ba : Option Addr) (bn bc : Nat) : (bigS Tryf.prog 62 [(5, .pointer (some ⟨fb, 0, none⟩)), (10, .int .u32 tok), (15, .agg #[.int .u32 o, .int .u32 l]), (28, .int .i64 on), (40, .slice la ln lc), (1, .slice ba bn bc)])[2087]? = some (.slice la ln lc) := by kernel_rfl
set_option maxRecDepth 100000 in
set_option maxHeartbeats 4000000 in
theorem newP (name : ByteArray) (tok o l on : Int) (la : Option Addr) (ln lc : Nat) (ba : Option Addr) (bn bc : Nat) (w : World) :
    Calls Tryf.prog 9 #[.string name, .int .u32 tok, .agg #[.int .u32 o, .int .u32 l], .int .i64 on, .slice la ln lc, .slice ba bn bc] w fun e w' => e = .returned (.pointer (some ⟨w.heap.size + 1 + 1, 0, none⟩)) ∧ Pst w' (w.heap.size + 1 + 1) (w.heap.size + 1) name ba bn bc 0 0 0 .nilIface tok o l on la ln lc ∧ Below w.heap.size w w' := by
  obtain ⟨fb, hfb⟩ : ∃ fb, fb = w.heap.size + 1 := ⟨_, rfl⟩
  have HX := Lib.hid (show Pst (((w.alloc (.cells #[.int .u32 o, .int .u32 l] 28)).alloc (.cells #[.string name, .slice none 0 0, .slice none 0 0] 46)).alloc (.cells (bigS Tryf.prog 62 [(5, .pointer (some ⟨w.heap.size + 1, 0, none⟩)), (10, .int .u32 tok), (15, .agg #[.int .u32 o, .int .u32 l]), (28, .int .i64 on), (40, .slice la ln lc), (1, .slice ba bn bc)]) 62)) (w.heap.size + 1 + 1) (w.heap.size + 1) name ba bn bc 0 0 0 .nilIface tok o l on la ln lc from by
    have e : w.heap.size + 1 + 1 = ((w.alloc (.cells #[.int .u32 o, .int .u32 l] 28)).alloc (.cells #[.string name, .slice none 0 0, .slice none 0 0] 46)).heap.size := by simp
    have e1 : w.heap.size + 1 = (w.alloc (.cells #[.int .u32 o, .int .u32 l] 28)).heap.size := by simp
    refine ⟨?_, ?_, ?_, ?_, ?_, ?_, ?_, ?_, ?_, ?_, ?_, ?_, fun k => ?_⟩
    · rw [e, cell_new]; exact big_x1 _ _ _ _ _ _ _ _ _ _ _
    · rw [e, cell_new]; exact big_x2 _ _ _ _ _ _ _ _ _ _ _
    · rw [e, cell_new]; exact big_x3 _ _ _ _ _ _ _ _ _ _ _
    · rw [e, cell_new]; exact big_x4 _ _ _ _ _ _ _ _ _ _ _
    · rw [e, cell_new]; exact big_x5 _ _ _ _ _ _ _ _ _ _ _
    · rw [e, cell_new]; exact big_x7 _ _ _ _ _ _ _ _ _ _ _
    · rw [e, cell_new]; exact big_x10 _ _ _ _ _ _ _ _ _ _ _
    · rw [e, cell_new]; exact big_x15 _ _ _ _ _ _ _ _ _ _ _
    · rw [e, cell_new]; exact big_x16 _ _ _ _ _ _ _ _ _ _ _
    · rw [e, cell_new]; exact big_x29 _ _ _ _ _ _ _ _ _ _ _
    · rw [e, cell_new]; exact big_x2087 _ _ _ _ _ _ _ _ _ _ _
    · refine cell_later (w := (w.alloc (.cells #[.int .u32 o, .int .u32 l] 28)).alloc (.cells #[.string name, .slice none 0 0, .slice none 0 0] 46)) (by go_grown) ?_
      rw [e1, cell_new]
      rfl
    · rw [e]
      exact frozen_new _ _ _ _)
  have HB := Lib.hid (show Below w.heap.size w (((w.alloc (.cells #[.int .u32 o, .int .u32 l] 28)).alloc (.cells #[.string name, .slice none 0 0, .slice none 0 0] 46)).alloc (.cells (bigS Tryf.prog 62 [(5, .pointer (some ⟨w.heap.size + 1, 0, none⟩)), (10, .int .u32 tok), (15, .agg #[.int .u32 o, .int .u32 l]), (28, .int .i64 on), (40, .slice la ln lc), (1, .slice ba bn bc)]) 62)) from by go_grown)
  clear hfb fb
  go_enter Tryf.func9, Tryf.ntmps9
  go_wp2_with (first | (refine wpList_value (o := ⟨some 21, _, _, _, _, _⟩) rfl (.agg (bigS Tryf.prog 62 [(5, .pointer (some ⟨w.heap.size + 1, 0, none⟩)), (10, .int .u32 tok), (15, .agg #[.int .u32 o, .int .u32 l]), (28, .int .i64 on), (40, .slice la ln lc), (1, .slice ba bn bc)])) ((w.alloc (.cells #[.int .u32 o, .int .u32 l] 28)).alloc (.cells #[.string name, .slice none 0 0, .slice none 0 0] 46)) (by kernel_rfl) ?_) | (refine wpList_value (o := ⟨some 22, _, _, _, _, _⟩) rfl (.pointer (some ⟨((w.alloc (.cells #[.int .u32 o, .int .u32 l] 28)).alloc (.cells #[.string name, .slice none 0 0, .slice none 0 0] 46)).heap.size, 0, none⟩)) (((w.alloc (.cells #[.int .u32 o, .int .u32 l] 28)).alloc (.cells #[.string name, .slice none 0 0, .slice none 0 0] 46)).alloc (.cells (bigS Tryf.prog 62 [(5, .pointer (some ⟨w.heap.size + 1, 0, none⟩)), (10, .int .u32 tok), (15, .agg #[.int .u32 o, .int .u32 l]), (28, .int .i64 on), (40, .slice la ln lc), (1, .slice ba bn bc)]) 62)) (by kernel_rfl) ?_))
  generalize (((w.alloc (.cells #[.int .u32 o, .int .u32 l] 28)).alloc (.cells #[.string name, .slice none 0 0, .slice none 0 0] 46)).alloc (.cells (bigS Tryf.prog 62 [(5, .pointer (some ⟨w.heap.size + 1, 0, none⟩)), (10, .int .u32 tok), (15, .agg #[.int .u32 o, .int .u32 l]), (28, .int .i64 on), (40, .slice la ln lc), (1, .slice ba bn bc)]) 62)) = W at *
  go_wp2
  go_ret
  exact ⟨rfl, HX.out, HB.out⟩
end Go.Proofs.YtccnpgmceoojmadFmt.perr
