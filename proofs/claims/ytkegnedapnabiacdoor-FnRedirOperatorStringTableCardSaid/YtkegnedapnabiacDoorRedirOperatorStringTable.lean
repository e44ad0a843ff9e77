/-
  The tied card of FnRedirOperatorStringTable: the walk lifted to the row, the table of indices off the row's list, the card by the given tie.
-/
import Derived.Test.YtkegnedapnabiacDoorRows
import Derived.Test.YtkegnedapnabiacDoorCards
import Derived.Test.YtkegnedapnabiacDoorTie
import Derived.Test.YtkegnedapnabiacDoorRedirW
import Derived.Test.YtkegnedapnabiacDoorBase
import Derived.ProofKit
import Derived.LaidMore
import Derived.LaidOnce
import Derived.OpenShut
import Derived.Carry
import Derived.ChangeOld
import Derived.ChangeVars
import Derived.Stop.Joined
import Derived.Stop.LaidErr
import Derived.Lib.LaidTab
import Derived.SevenTiedAt
namespace Go.Proofs.YtkegnedapnabiacDoor.fnRedirOperatorStringTable
open Go.ChangeShapes Go.WideShapes Go.ChangeAt Go.RowKit

theorem own : ownKnob Tryd.prog.godebug = none := by kernel_rfl
theorem laidOut : laidOutB Tryd.prog = true := by kernel_rfl
theorem gT : Tryd.prog.globalNamed "mvdan.cc/sh/v3/syntax._token_index" = some 0 := by kernel_rfl
theorem gTType : (Tryd.prog.globals[0]?).map (·.type) = some 30 := by kernel_rfl
theorem cells29 : Tryd.prog.cellsOf 29 = 1 := by kernel_rfl
theorem cells30 : Tryd.prog.cellsOf 30 = 145 := by kernel_rfl
def idx : List Int := [0, 10, 13, 17, 20, 27, 35, 52, 53, 54, 55, 56, 58, 60, 61, 63, 65, 67, 68, 70, 72, 74, 76, 78, 81, 82, 83, 85, 86, 88, 89, 90, 92, 93, 95, 96, 98, 100, 103, 105, 106, 107, 109, 111, 112, 114, 116, 118, 120, 122, 124, 126, 128, 130, 132, 134, 136, 138, 141, 144, 147, 150, 153, 156, 157, 159, 160, 162, 164, 166, 168, 171, 173, 176, 179, 181, 184, 187, 191, 193, 195, 197, 198, 200, 201, 203, 204, 206, 207, 209, 210, 212, 213, 215, 217, 219, 221, 222, 224, 225, 227, 228, 229, 231, 232, 233, 235, 237, 239, 241, 243, 245, 247, 249, 251, 253, 255, 257, 259, 261, 263, 265, 267, 269, 271, 273, 275, 277, 279, 281, 283, 286, 289, 292, 295, 298, 301, 304, 307, 310, 312, 314, 316, 318, 320]

theorem door_met (os : Os) (args : Array Value) : laidMetH Tryd.prog Rows.fnRedirOperatorStringTableRow.laid ((World.doorLaid Tryd.prog 29 os).forCall (fun _ _ => 0) ⟨#[], args, []⟩).memory :=
  laidMetH_of_parts3 (fuel := 8) (laidMet_of_run' 8 (by kernel_rfl) (by kernel_rfl)) (by kernel_rfl) (by kernel_rfl)

theorem of_laid {W : World} (h : laidMetH Tryd.prog Rows.fnRedirOperatorStringTableRow.laid W) : Lib.TabIs Tryd.prog W "mvdan.cc/sh/v3/syntax._token_index" .u16 idx := by
  have hp : laidMet Tryd.prog Rows.fnRedirOperatorStringTableRow.laid W := by rw [← MakeChecks.laidMetH_plain _ _ _ (by kernel_rfl)]; exact h
  have ht : laidMet Tryd.prog (("mvdan.cc/sh/v3/syntax._token_index", Lib.tabData .u16 idx) :: []) W := laidMet.tail (laidMet.tail (laidMet.tail (hp)))
  exact Lib.tabIs_of_head gT gTType Tryd.underlying30 Tryd.underlying29 cells29 cells30 ht

open Go.WideElems in
theorem vars_stay {H : Type} {enc : TypeId × Value → H} {W W' : World} {gs : List (DataW H)} {q : List MemPlace} (hb : Below W.heap.size W W') (hV : DataW.TrodVars enc Tryd.prog W (fun _ => true) ["mvdan.cc/sh/v3/syntax._token_index"] gs q) (hlt : ∀ x ∈ q, x.block < W.heap.size) (hgb : 0 < W.heap.size) :
    DataW.TrodVars enc Tryd.prog W' (fun b => decide (b < W.heap.size)) ["mvdan.cc/sh/v3/syntax._token_index"] gs q := by
  obtain ⟨g, t, cs, fuel, d, p, rfl, hg, ht, hv, hd, rfl⟩ := trodVars_one hV
  obtain rfl := Option.some.inj (gT.symm.trans hg)
  obtain rfl := Option.some.inj (gTType.symm.trans ht)
  refine trodVars_mk1 hg ht ?_ (DataW.trod_stays (kids_book laidOut (by kernel_rfl)) (book_sized (by kernel_rfl)) (fun h => by cases h) ⟨of_decide_eq_true (by kernel_rfl), book_self 30⟩ hd (fun x hx => hb.same (hlt x (by simp [hx]))) (fun x hx => by simpa using hlt x (by simp [hx])))
  unfold World.var? at hv ⊢
  rw [gT] at hv ⊢
  simp only [Option.bind_some] at hv ⊢
  rw [hb.block 0 hgb]
  exact hv

set_option maxRecDepth 100000 in
theorem lifted (os : Os) (started : os.Started) (H : Type) (enc : TypeId × Value → H) :
    ReturnsInHanded {} Tryd.checked os 3 .any (fun w args => (Rows.fnRedirOperatorStringTableSpec.pre enc Tryd.prog Tryd.f3 [] false w args ∧ laidMetH Tryd.prog Rows.fnRedirOperatorStringTableRow.laid w) ∧ sizedMet enc Tryd.prog Tryd.f3 (OpenSpec.ofChange Rows.fnRedirOperatorStringTableSpec) false w args)
      (Rows.fnRedirOperatorStringTableSpec.post enc Tryd.prog Tryd.f3 false true false false) := by
  refine returnsInHanded_of_change_and (C := Tryd.checked) (X := fun w _ => laidMetH Tryd.prog Rows.fnRedirOperatorStringTableRow.laid w) (fun _ _ _ hh h => h.of_heap hh) own started (by kernel_rfl) Tryd.func3
    (ChangeSpec.witness_shaped (enc := enc) (C := Tryd.checked) (os := os) (X := fun w _ => laidMetH Tryd.prog Rows.fnRedirOperatorStringTableRow.laid w) false (World.doorLaid Tryd.prog 29 os) #[.int .u32 0] 8 rfl (World.shaped_of_RefB (by kernel_rfl) (by kernel_rfl)) (by kernel_rfl) (by kernel_rfl) (by kernel_rfl) (door_met os _)) ?_
  intro W base args ds gs before hval0 hW _ _ hL _
  have hval : ∀ (j : Nat) t v, Tryd.f3.params[j]? = some t → args[j]? = some v → Value.okWide Tryd.prog W .any base t v := hval0
  have hW' := hW
  obtain ⟨p, q, hA0, hV, rfl, hfz, hnd⟩ := hW
  have hA : DataW.TrodAll enc Tryd.prog W 0 (fun _ => true) true Tryd.f3.params.toList args.toList ds p := hA0
  rw [Tryd.params3] at hA hval
  obtain ⟨v0, d0, rfl, rfl, h0⟩ := trodAll_one hA
  obtain ⟨x, rfl, rfl, rfl, wx⟩ := open_int Tryd.underlying22 (hval 0 22 v0 rfl rfl) h0
  have hT := of_laid hL
  have hg1 : ∃ g1, gs = [g1] := by
    obtain ⟨_, _, _, _, d, _, e, _⟩ := trodVars_one hV
    exact ⟨d, e⟩
  obtain ⟨g1, rfl⟩ := hg1
  clear hA0 hval0
  refine (redir.law x W (bounds_u32 wx) (hT.cell gT 63 (by decide)) (hT.cell gT 64 (by decide)) (hT.cell gT 65 (by decide)) (hT.cell gT 66 (by decide)) (hT.cell gT 67 (by decide)) (hT.cell gT 68 (by decide)) (hT.cell gT 69 (by decide)) (hT.cell gT 70 (by decide)) (hT.cell gT 71 (by decide)) (hT.cell gT 72 (by decide)) (hT.cell gT 73 (by decide)) (hT.cell gT 74 (by decide)) (hT.cell gT 75 (by decide)) (hT.cell gT 76 (by decide)) (hT.cell gT 77 (by decide)) (hT.cell gT 78 (by decide))).mono fun e W' ⟨he, hb⟩ => ?_
  subst he
  exact ⟨_, rfl, _, _, _, [], [], q, hW', trodAll_mk1 (shut_bool Tryd.underlying4 _), trodAll_mk1 (shut_int Tryd.underlying22 wx), vars_stay hb hV (fun x hx => by simpa using hW'.lt x (by simp [hx])) (lt_of_cell (hT.cell gT 0 (by decide))), hb.frame _, fun h => by cases h⟩

theorem row_holds : Rows.FnRedirOperatorStringTableSaid :=
  OpenClaim.holds_of_wide 3 Tryd.f3 rfl rfl rfl rfl rfl rfl rfl ⟨rfl, rfl, rfl, rfl, rfl⟩ rfl rfl rfl rfl rfl (by kernel_rfl) Tryd.func3 (by kernel_rfl)
    (of_decide_eq_true (by kernel_rfl)) (by unfold Func.isWrapper; first | (rw [if_pos (by decide +kernel)]; kernel_rfl) | (rw [if_neg (by decide +kernel)]; exact ⟨rfl, rfl⟩))
    (fun os started H enc _ => lifted os started H enc)

theorem proved : Rows.FnRedirOperatorStringTableCardSaid :=
  Claim7.holds_tied_plain_at .later [] [.data, .data, .data, .data] true (true, "e8e0483675c65d23828ee8ca052377ea79d94080fa3373a52e858f378e2835f7") false
    row_holds (fun _ h => by cases h) (by kernel_rfl) (fun _ h => by cases h) fnRedirOperatorStringTable_row_tie rfl ⟨rfl, rfl⟩ (by kernel_rfl) rfl
    (fun f fn hf hfn => by
      obtain rfl : f = 3 := Option.some.inj ((show Tryd.prog.funcNamed "mvdan.cc/sh/v3/n010_49.FnRedirOperatorStringTable" = some 3 by kernel_rfl).symm.trans hf) |>.symm
      obtain rfl : fn = Tryd.f3 := (Option.some.inj (Tryd.func3.symm.trans hfn)).symm
      exact ⟨by kernel_rfl, fun j t ht => by
        rw [Tryd.params3] at ht
        have hm : t ∈ [22] := by simpa using Array.mem_of_getElem? ht
        have hall : ([22].all fun u => !Tryd.prog.wantsStandIn u) = true := by kernel_rfl
        exact (show Tryd.prog.wantsStandIn t = false by simpa using List.all_eq_true.1 hall t hm)⟩)
    (by kernel_rfl)
#print axioms proved
end Go.Proofs.YtkegnedapnabiacDoor.fnRedirOperatorStringTable
