/-
  A region whose last operation may write what the region has read: the condition on the world is asked behind every operation but the last one, which waits for all others.
-/
import Derived.OrdersHeld
import Derived.Deep.RegionHeld
namespace Go.Proofs.Ytlaihlpokpeahaa

section
variable {P : Program} {ops : Array Oper} {Q : Exit → Act → World → Prop} {md : Region.Mode} {S : World → Prop} {L : Nat}

/-- What has come up has come up behind all that it waits for. -/
def Downed (md : Region.Mode) (ops : Array Oper) (listed : Array Bool) : Prop :=
  ∀ j oj, ops[j]? = some oj → listed.getD j true = true → ∀ e ∈ oj.after, Region.binds md e = true → listed.getD e.on false = true
def downedB (md : Region.Mode) (ops : Array Oper) (listed : Array Bool) : Bool :=
  (List.range ops.size).all fun j => !listed.getD j true || ((ops[j]?).map (·.after.all fun e => !Region.binds md e || listed.getD e.on false)).getD true
theorem downed_spec {listed : Array Bool} (h : downedB md ops listed = true) : Downed md ops listed := fun j oj hj hl e he hb => by
  have hlt : j < ops.size := by
    rcases Nat.lt_or_ge j ops.size with h1 | h1
    · exact h1
    · rw [Array.getElem?_eq_none h1] at hj; cases hj
  have h1 := List.all_eq_true.1 h j (List.mem_range.2 hlt)
  simp only [hl, hj, Bool.not_true, Bool.false_or, Option.map_some, Option.getD_some] at h1
  have h2 := Array.all_eq_true_iff_forall_mem.1 h1 e he
  simpa [hb] using h2
/-- Each operation but the last is waited for by a later one. -/
def allWait (md : Region.Mode) (ops : Array Oper) (L : Nat) : Bool :=
  (List.range L).all fun k => (List.range (L + 1)).any fun j => decide (k < j) && ((ops[j]?).map (·.after.any fun e => Region.binds md e && e.on == k)).getD false
theorem allWait_spec (h : allWait md ops L = true) (k : Nat) (hk : k < L) : ∃ j oj e, k < j ∧ j ≤ L ∧ ops[j]? = some oj ∧ e ∈ oj.after ∧ Region.binds md e = true ∧ e.on = k := by
  have h1 := List.all_eq_true.1 h k (List.mem_range.2 hk)
  obtain ⟨j, hj, h2⟩ := List.any_eq_true.1 h1
  have hj' := List.mem_range.1 hj
  cases ho : ops[j]? with
  | none => simp [ho] at h2
  | some oj =>
    simp only [ho, Option.map_some, Option.getD_some, Bool.and_eq_true, decide_eq_true_eq] at h2
    obtain ⟨h3, h4⟩ := h2
    obtain ⟨e, he, h5⟩ := Array.any_eq_true'.1 h4
    simp only [Bool.and_eq_true, beq_iff_eq] at h5
    exact ⟨j, oj, e, h3, by omega, ho, he, h5.1, h5.2⟩
theorem getD_clash {listed : Array Bool} {k : Nat} (h1 : listed.getD k true = false) (h2 : listed.getD k false = true) : False := by
  rcases Nat.lt_or_ge k listed.size with h | h
  · simp [h] at h1 h2; rw [h1] at h2; cases h2
  · simp [Array.getElem?_eq_none h] at h1
theorem last_waits (hC : allWait md ops L = true) {listed : Array Bool} (hI : Downed md ops listed) : ∀ d k, k + d = L → 0 < d → listed.getD k true = false → L ∉ Region.ready md ops listed := by
  intro d
  induction d using Nat.strongRecOn with
  | _ d ih =>
    intro k hk hd hun hr
    obtain ⟨j, oj, e, hkj, hjL, hoj, he, hb, hon⟩ := allWait_spec hC k (by omega)
    rcases Nat.lt_or_ge j L with h1 | h1
    · cases hl : listed.getD j true with
      | true =>
        have h2 := hI j oj hoj hl e he hb
        rw [hon] at h2
        exact getD_clash hun h2
      | false => exact ih (L - j) (by omega) j (by omega) (by omega) hl hr
    · have hjL' : j = L := by omega
      subst hjL'
      obtain ⟨_, oL, hoL, hall⟩ := mem_ready.1 hr
      rw [hoj] at hoL
      cases hoL
      have h2 := hall e he hb
      rw [hon] at h2
      exact getD_clash hun h2
theorem Downed.set {listed : Array Bool} {j : Nat} (hI : Downed md ops listed) (hj : j ∈ Region.ready md ops listed) : Downed md ops (listed.setIfInBounds j true) := fun k ok hk hl e he hb => by
  by_cases h : k = j
  · subst h
    obtain ⟨_, o, ho, hall⟩ := mem_ready.1 hj
    rw [hk] at ho
    cases ho
    exact getD_set_true (hall e he hb)
  · rw [getD_set_ne true (Ne.symm h)] at hl
    exact getD_set_true (hI k ok hk hl e he hb)

/-- Whatever order is picked from here on; S holds behind every operation but number L. -/
def wpAnyG (P : Program) (md : Region.Mode) (ops : Array Oper) (Q : Exit → Act → World → Prop) (S : World → Prop) (L : Nat) : Nat → Array Bool → Act → World → Prop
  | 0, listed, a, w => Region.ready md ops listed = [] ∧ Q .normal a w
  | fuel + 1, listed, a, w =>
    (Region.ready md ops listed = [] → Q .normal a w) ∧
    ∀ i ∈ Region.ready md ops listed, wpOp P ops Q i (fun a' w' => (i ≠ L → S w') ∧ wpAnyG P md ops Q S L fuel (listed.setIfInBounds i true) a' w') a w
theorem wpAny_of_G : ∀ (fuel : Nat) (listed : Array Bool) (a : Act) (w : World), wpAnyG P md ops Q S L fuel listed a w → wpAny P md ops Q fuel listed a w
  | 0, _, _, _, h => h
  | fuel + 1, _, _, _, h => ⟨h.1, fun i hi => wpOp_mono (fun a' w' h' => wpAny_of_G fuel _ a' w' h'.2) (h.2 i hi)⟩
theorem wpAnyG_first {i : Nat} {oi : Oper} {v : Value} (hC : allWait md ops L = true) (hiL : i < L) (hi : ops[i]? = some oi) (hsel : ∀ (j : Nat) (o : Oper) cs b, ops[j]? = some o → o.op ≠ .select cs b)
    (hQ : ∀ c a w, Q (.panic c) (a.put oi.dst v) w → Q (.panic c) a w) :
    ∀ (fuel : Nat) (listed : Array Bool) (a : Act) (w : World), Downed md ops listed →
      (∀ j oj, ops[j]? = some oj → j ≠ i → listed.getD j true = false → (∀ e ∈ oj.after, Region.binds md e = true → e.on ≠ i) → oi.apart ops oj = true) →
      i ∈ Region.ready md ops listed → YieldsIf P ops S oi v a → S w →
      wpAnyG P md ops Q S L fuel (listed.setIfInBounds i true) (a.put oi.dst v) w → wpAnyG P md ops Q S L (fuel + 1) listed a w := by
  intro fuel
  induction fuel with
  | zero =>
    intro listed a w _ _ hr hy hS H
    refine ⟨fun h => (by rw [h] at hr; cases hr), fun j hj => ?_⟩
    by_cases hji : j = i
    · subst hji; exact hy.wpOp hi hS ⟨fun _ => hS, H⟩
    · have := ready_mono hj hji
      rw [H.1] at this
      cases this
  | succ fuel ih =>
    intro listed a w hI hfree hr hy hS H
    refine ⟨fun h => (by rw [h] at hr; cases hr), fun j hj => ?_⟩
    by_cases hji : j = i
    · subst hji; exact hy.wpOp hi hS ⟨fun _ => hS, H⟩
    · have hjL : j ≠ L := fun e => by
        subst e
        exact last_waits hC hI (j - i) i (by omega) (by omega) (mem_ready.1 hr).1 hj
      have h1 := H.2 j (ready_mono hj hji)
      obtain ⟨hjun, oj, hoj, hall⟩ := mem_ready.1 hj
      have hnot : ∀ e ∈ oj.after, Region.binds md e = true → e.on ≠ i := fun e he hb heq => by
        have h1 := hall e he hb
        rw [heq] at h1
        exact getD_clash (mem_ready.1 hr).1 h1
      have h2 := wpOp_putIf hoj (hfree j oj hoj hji hjun hnot) (fun cs b => hsel i oi cs b hi) (fun cs b => hsel j oj cs b hoj) hQ hy h1
      have hfree' : ∀ k ok, ops[k]? = some ok → k ≠ i → (listed.setIfInBounds j true).getD k true = false →
          (∀ e ∈ ok.after, Region.binds md e = true → e.on ≠ i) → oi.apart ops ok = true := fun k ok hk hki hun hno => by
        refine hfree k ok hk hki ?_ hno
        by_cases hjk : j = k
        · subst hjk; exact hjun
        · rw [getD_set_ne true hjk] at hun; exact hun
      refine wpOp_mono (fun a' w' h3 => ⟨h3.2.1, ih (listed.setIfInBounds j true) a' w' (hI.set hj) hfree' (ready_mono hr (Ne.symm hji)) h3.1 (h3.2.1 hjL) ?_⟩) h2
      rw [Array.setIfInBounds_comm _ _ hji]
      exact h3.2.2
theorem wpAnyG_take {i : Nat} {oi : Oper} {v : Value} {fuel : Nat} {listed : Array Bool} {a : Act} {w : World} (hi : ops[i]? = some oi) (hC : allWait md ops L = true) (hiL : decide (i < L) = true) (hI : downedB md ops listed = true)
    (hs : Region.noSelect ops = true) (hf : Region.free md ops listed i = true) (hr : (Region.ready md ops listed).contains i = true)
    (hQ : ∀ c a w, Q (.panic c) (a.put oi.dst v) w → Q (.panic c) a w) (hy : YieldsIf P ops S oi v a) (hS : S w)
    (h : wpAnyG P md ops Q S L fuel (listed.setIfInBounds i true) (a.put oi.dst v) w) : wpAnyG P md ops Q S L (fuel + 1) listed a w :=
  wpAnyG_first hC (of_decide_eq_true hiL) hi (Region.noSelect_spec hs) hQ fuel listed a w (downed_spec hI) (Region.free_spec hi hf) (by simpa using hr) hy hS h
/-- One alone may come up. -/
theorem wpAnyG_one {i : Nat} {o : Oper} {fuel : Nat} {listed : Array Bool} {a : Act} {w : World} (hr : Region.ready md ops listed = [i]) (ho : ops[i]? = some o)
    (h : ∀ K' : Act → World → Prop, Shut (∀ a w, (i ≠ L → S w) → ((i ≠ L → S w) → wpAnyG P md ops Q S L fuel (listed.setIfInBounds i true) a w) → K' a w) → if Region.wanted o (yielded ops a.tmps) = true then Oper.wp P o a w K' Q else K' (a.put o.dst undef) w) :
    wpAnyG P md ops Q S L (fuel + 1) listed a w := by
  refine ⟨fun h0 => ?_, fun j hj => ?_⟩
  · rw [hr] at h0
    cases h0
  · rw [hr] at hj
    rcases List.mem_cons.1 hj with rfl | hj
    · exact wpOp_step ho (fun K' hK => h K' (fun a w hS hW => hK a w ⟨hS, hW hS⟩))
    · cases hj
theorem wpAnyG_done {listed : Array Bool} {a : Act} {w : World} (hr : Region.ready md ops listed = []) (h : Q .normal a w) : ∀ fuel, wpAnyG P md ops Q S L fuel listed a w
  | 0 => ⟨hr, h⟩
  | _ + 1 => ⟨fun _ => h, by rw [hr]; simp⟩
theorem wp_region_G {id : Nat} {a : Act} {w : World} (hm : P.follows .mixedOrders = true) (h : wpAnyG P .any ops Q S L ops.size (Array.replicate ops.size false) a w.drew) : (Code.region id ops true).wp P Q a w :=
  wp_region_any hm (wpAny_of_G _ _ _ _ h)
end
end Go.Proofs.Ytlaihlpokpeahaa
