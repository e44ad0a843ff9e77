/-
  The tied card of FnParNamesOperatorStringBeyondTokens: the walk lifted to the row, the table of indices off the row's list, the card by the given tie.
-/
import Derived.Test.YtkegnedapnabiaaDoorRows
import Derived.Test.YtkegnedapnabiaaDoorCards
import Derived.Test.YtkegnedapnabiaaDoorTie
import Derived.Test.YtkegnedapnabiaaDoorBey
import Derived.Test.YtkegnedapnabiaaDoorBase
import Derived.ProofKit
import Derived.LaidMore
import Derived.LaidOnce
import Derived.OpenShut
import Derived.Carry
import Derived.ChangeOld
import Derived.ChangeVars
import Derived.Stop.Joined
import Derived.Stop.LaidErr
import Derived.Lib.LaidTab
import Derived.SevenTiedAt
namespace Go.Proofs.YtkegnedapnabiaaDoor.fnParNamesOperatorStringBeyondTokens
open Go.ChangeShapes Go.WideShapes Go.ChangeAt Go.RowKit

theorem own : ownKnob Tryd.prog.godebug = none := by kernel_rfl
theorem laidOut : laidOutB Tryd.prog = true := by kernel_rfl
theorem gT : Tryd.prog.globalNamed "mvdan.cc/sh/v3/syntax._token_index" = some 0 := by kernel_rfl
theorem gTType : (Tryd.prog.globals[0]?).map (·.type) = some 33 := by kernel_rfl
theorem gP : Tryd.prog.globalNamed "internal/strconv.uint64pow10" = some 1 := by kernel_rfl
theorem gPType : (Tryd.prog.globals[1]?).map (·.type) = some 45 := by kernel_rfl
theorem cellsE : Tryd.prog.cellsOf 38 = 1 := by kernel_rfl
theorem cellsT : Tryd.prog.cellsOf 45 = 20 := by kernel_rfl

theorem door_met (os : Os) (args : Array Value) : laidMetH Tryd.prog Rows.fnParNamesOperatorStringBeyondTokensRow.laid ((World.doorLaid Tryd.prog 49 os).forCall (fun _ _ => 0) ⟨#[], args, []⟩).memory :=
  laidMetH_of_parts3 (fuel := 8) (laidMet_of_run' 8 (by kernel_rfl) (by kernel_rfl)) (by kernel_rfl) (by kernel_rfl)

theorem of_laid {W : World} (h : laidMetH Tryd.prog Rows.fnParNamesOperatorStringBeyondTokensRow.laid W) : Lib.TabIs Tryd.prog W "internal/strconv.uint64pow10" .u64 Lib.pow10Tab := by
  have hp : laidMet Tryd.prog Rows.fnParNamesOperatorStringBeyondTokensRow.laid W := by rw [← MakeChecks.laidMetH_plain _ _ _ (by kernel_rfl)]; exact h
  have ht : laidMet Tryd.prog (("internal/strconv.uint64pow10", Lib.tabData .u64 Lib.pow10Tab) :: [("mvdan.cc/sh/v3/syntax._token_index", Rows.laid_mvdan_cc_sh_v3_syntax_token_index)]) W := laidMet.tail (laidMet.tail hp)
  exact Lib.tabIs_of_head gP gPType Tryd.underlying45 Tryd.underlying38 cellsE cellsT ht

open Go.WideElems in
theorem vars_stay {H : Type} {enc : TypeId × Value → H} {W W' : World} {gs : List (DataW H)} {q : List MemPlace} (hb : Below W.heap.size W W') (hV : DataW.TrodVars enc Tryd.prog W (fun _ => true) ["mvdan.cc/sh/v3/syntax._token_index"] gs q) (hlt : ∀ x ∈ q, x.block < W.heap.size) (hgb : 0 < W.heap.size) :
    DataW.TrodVars enc Tryd.prog W' (fun b => decide (b < W.heap.size)) ["mvdan.cc/sh/v3/syntax._token_index"] gs q := by
  obtain ⟨g, t, cs, fuel, d, p, rfl, hg, ht, hv, hd, rfl⟩ := trodVars_one hV
  obtain rfl := Option.some.inj (gT.symm.trans hg)
  obtain rfl := Option.some.inj (gTType.symm.trans ht)
  refine trodVars_mk1 hg ht ?_ (DataW.trod_stays (kids_book laidOut (by kernel_rfl)) (book_sized (by kernel_rfl)) (fun h => by cases h) ⟨of_decide_eq_true (by kernel_rfl), book_self 33⟩ hd (fun x hx => hb.same (hlt x (by simp [hx]))) (fun x hx => by simpa using hlt x (by simp [hx])))
  unfold World.var? at hv ⊢
  rw [gT] at hv ⊢
  simp only [Option.bind_some] at hv ⊢
  rw [hb.block 0 hgb]
  exact hv

set_option maxRecDepth 100000 in
theorem lifted (os : Os) (started : os.Started) (H : Type) (enc : TypeId × Value → H) :
    ReturnsInHanded {} Tryd.checked os 6 .any (fun w args => (Rows.fnParNamesOperatorStringBeyondTokensSpec.pre enc Tryd.prog Tryd.f6 [] false w args ∧ laidMetH Tryd.prog Rows.fnParNamesOperatorStringBeyondTokensRow.laid w) ∧ sizedMet enc Tryd.prog Tryd.f6 (OpenSpec.ofChange Rows.fnParNamesOperatorStringBeyondTokensSpec) false w args)
      (Rows.fnParNamesOperatorStringBeyondTokensSpec.post enc Tryd.prog Tryd.f6 false true false false) := by
  refine returnsInHanded_of_change_and (C := Tryd.checked) (X := fun w _ => laidMetH Tryd.prog Rows.fnParNamesOperatorStringBeyondTokensRow.laid w) (fun _ _ _ hh h => h.of_heap hh) own started (by kernel_rfl) Tryd.func6
    (ChangeSpec.witness_shaped (enc := enc) (C := Tryd.checked) (os := os) (X := fun w _ => laidMetH Tryd.prog Rows.fnParNamesOperatorStringBeyondTokensRow.laid w) false (World.doorLaid Tryd.prog 49 os) #[.int .u32 0] 8 rfl (World.shaped_of_RefB (by kernel_rfl) (by kernel_rfl)) (by kernel_rfl) (by kernel_rfl) (by kernel_rfl) (door_met os _)) ?_
  intro W base args ds gs before hval0 hW _ _ hL _
  have hval : ∀ (j : Nat) t v, Tryd.f6.params[j]? = some t → args[j]? = some v → Value.okWide Tryd.prog W .any base t v := hval0
  have hW' := hW
  obtain ⟨p, q, hA0, hV, rfl, hfz, hnd⟩ := hW
  have hA : DataW.TrodAll enc Tryd.prog W 0 (fun _ => true) true Tryd.f6.params.toList args.toList ds p := hA0
  rw [Tryd.params6] at hA hval
  obtain ⟨v0, d0, rfl, rfl, h0⟩ := trodAll_one hA
  obtain ⟨x, rfl, rfl, rfl, wx⟩ := open_int Tryd.underlying22 (hval 0 22 v0 rfl rfl) h0
  have hT := of_laid hL
  have hg1 : ∃ g1, gs = [g1] := by
    obtain ⟨_, _, _, _, d, _, e, _⟩ := trodVars_one hV
    exact ⟨d, e⟩
  obtain ⟨g1, rfl⟩ := hg1
  clear hA0 hval0
  refine (bey.law_pnm x W (bounds_u32 wx) hT).mono fun e W' ⟨he, hb⟩ => ?_
  subst he
  exact ⟨_, rfl, _, _, _, [], [], q, hW', trodAll_mk1 (shut_bool Tryd.underlying4 _), trodAll_mk1 (shut_int Tryd.underlying22 wx), vars_stay hb hV (fun x hx => by simpa using hW'.lt x (by simp [hx])) (Nat.lt_trans (by decide : 0 < 1) (lt_of_cell (hT.cell gP 0 (by decide)))), hb.frame _, fun h => by cases h⟩

theorem row_holds : Rows.FnParNamesOperatorStringBeyondTokensSaid :=
  OpenClaim.holds_of_wide 6 Tryd.f6 rfl rfl rfl rfl rfl rfl rfl ⟨rfl, rfl, rfl, rfl, rfl⟩ rfl rfl rfl rfl rfl (by kernel_rfl) Tryd.func6 (by kernel_rfl)
    (of_decide_eq_true (by kernel_rfl)) (by unfold Func.isWrapper; first | (rw [if_pos (by decide +kernel)]; kernel_rfl) | (rw [if_neg (by decide +kernel)]; exact ⟨rfl, rfl⟩))
    (fun os started H enc _ => lifted os started H enc)

theorem proved : Rows.FnParNamesOperatorStringBeyondTokensCardSaid :=
  Claim7.holds_tied_plain_at .later [] [.data, .data, .data, .data] true (true, "70b849f0d65945959855db05b149f8826d80703662d48e3c61b4579eaa482fab") false
    row_holds (fun _ h => by cases h) (by kernel_rfl) (fun _ h => by cases h) fnParNamesOperatorStringBeyondTokens_row_tie rfl ⟨rfl, rfl⟩ (by kernel_rfl) rfl
    (fun f fn hf hfn => by
      obtain rfl : f = 6 := Option.some.inj ((show Tryd.prog.funcNamed "mvdan.cc/sh/v3/n010_41.FnParNamesOperatorStringBeyondTokens" = some 6 by kernel_rfl).symm.trans hf) |>.symm
      obtain rfl : fn = Tryd.f6 := (Option.some.inj (Tryd.func6.symm.trans hfn)).symm
      exact ⟨by kernel_rfl, fun j t ht => by
        rw [Tryd.params6] at ht
        have hm : t ∈ [22] := by simpa using Array.mem_of_getElem? ht
        have hall : ([22].all fun u => !Tryd.prog.wantsStandIn u) = true := by kernel_rfl
        exact (show Tryd.prog.wantsStandIn t = false by simpa using List.all_eq_true.1 hall t hm)⟩)
    (by kernel_rfl)
#print axioms proved
end Go.Proofs.YtkegnedapnabiaaDoor.fnParNamesOperatorStringBeyondTokens
