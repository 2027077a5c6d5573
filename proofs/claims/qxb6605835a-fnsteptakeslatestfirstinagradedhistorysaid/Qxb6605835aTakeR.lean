import Derived.Test.Qxb6605835aSame
namespace Go.Proofs.Qxb6605835a
open Go.ChangeShapes Go.WideShapes Go.ChangeAt Go.RowKit
set_option linter.unusedVariables false

/-! ### A region that draws its order, by a property of the operations done -/
section
variable {P : Program} {ops : Array Oper} {Q : Exit → Act → World → Prop} {md : Region.Mode}

theorem set_getD (l : Array Bool) (i j : Nat) (d : Bool) (h : i < l.size) : (l.setIfInBounds i true).getD j d = if j = i then true else l.getD j d := by
  by_cases e : j = i
  · subst e
    simp [Array.getD, h]
  · rw [if_neg e]
    have e' : ¬ i = j := fun h => e h.symm
    rw [Array.getD_eq_getD_getElem?, Array.getD_eq_getD_getElem?, Array.getElem?_setIfInBounds, if_neg e']

/-- What holds behind every operation, holds behind all. -/
theorem wpAny_inv (Inv : (Nat → Bool) → Act → World → Prop)
    (hstep : ∀ (p : Nat → Bool) (listed : Array Bool) a w i, listed.size = ops.size → (∀ j, p j = listed.getD j false) → Inv p a w → i ∈ Region.ready md ops listed → wpOp P ops Q i (Inv (fun j => if j = i then true else p j)) a w)
    (hend : ∀ (p : Nat → Bool) (listed : Array Bool) a w, listed.size = ops.size → (∀ j, p j = listed.getD j false) → Inv p a w → Region.ready md ops listed = [] → Q .normal a w) :
    ∀ (fuel : Nat) (listed : Array Bool) a w, listed.size = ops.size → listed.toList.count false ≤ fuel → Inv (fun j => listed.getD j false) a w → wpAny P md ops Q fuel listed a w := by
  intro fuel
  induction fuel with
  | zero =>
    intro listed a w hs hc hI
    have hr : Region.ready md ops listed = [] := by
      rw [List.eq_nil_iff_forall_not_mem]
      intro i hi
      unfold Region.ready at hi
      rw [List.mem_filter, List.mem_range] at hi
      obtain ⟨hlt, hi⟩ := hi
      rw [Bool.and_eq_true] at hi
      have h1 : listed.getD i true = false := by simpa using hi.1
      have hlt' : i < listed.size := by omega
      have h2 : false ∈ listed.toList := by
        simp only [Array.getD, hlt', dite_true] at h1
        rw [← h1]
        simp
      have := List.count_pos_iff.2 h2
      omega
    exact ⟨hr, hend _ listed a w hs (fun _ => rfl) hI hr⟩
  | succ fuel ih =>
    intro listed a w hs hc hI
    refine ⟨hend _ listed a w hs (fun _ => rfl) hI, fun i hi => ?_⟩
    have hi' := hi
    unfold Region.ready at hi'
    rw [List.mem_filter, List.mem_range] at hi'
    obtain ⟨hlt, hi'⟩ := hi'
    rw [Bool.and_eq_true] at hi'
    have h1 : listed.getD i true = false := by simpa using hi'.1
    have hlt' : i < listed.size := by omega
    refine wpOp_mono (fun a' w' hI' => ?_) (hstep _ listed a w i hs (fun _ => rfl) hI hi)
    refine ih _ a' w' (by simp [hs]) ?_ ?_
    · have hg : listed[i] = false := by simpa [Array.getD, hlt'] using h1
      have hcnt : (listed.setIfInBounds i true).toList.count false + 1 = listed.toList.count false := by
        rw [Array.toList_setIfInBounds, List.count_set (by simpa using hlt')]
        have hpos : 0 < listed.toList.count false := List.count_pos_iff.2 (by rw [← hg]; simp)
        have h3 : (listed.toList[i]'(by simpa using hlt') == false) = true := by simp [hg]
        rw [h3]
        simp only [if_true]
        have h4 : (true == false) = false := rfl
        rw [h4]
        simp only [Bool.false_eq_true, if_false]
        omega
      omega
    · have : (fun j => (listed.setIfInBounds i true).getD j false) = fun j => if j = i then true else listed.getD j false := by
        funext j
        exact set_getD listed i j false hlt'
      rw [this]
      exact hI'

theorem wpOp_of {i : Nat} {o : Oper} {K : Act → World → Prop} {a : Act} {w : World} (ho : ops[i]? = some o) (hg : o.guard = none) (h : o.wp P a w K Q) : wpOp P ops Q i K a w := by
  unfold wpOp
  rw [ho]
  have hw : Region.wanted o (yielded ops a.tmps) = true := by simp [Region.wanted, hg]
  show if Region.wanted o (yielded ops a.tmps) = true then _ else _
  rw [if_pos hw]
  exact .inl h

theorem wp_value {o : Oper} {K : Act → World → Prop} {a : Act} {w w' : World} {v : Value} (h : (execOp a.eval o).run P w = .ok (.value v) w') (hk : K (a.put o.dst v) w') : o.wp P a w K Q := by
  unfold Oper.wp
  rw [h]
  exact hk

theorem wp_skip {o : Oper} {K : Act → World → Prop} {a : Act} {w w' : World} (h : (execOp a.eval o).run P w = .ok .skip w') (hk : K (a.put o.dst undef) w') : o.wp P a w K Q := by
  unfold Oper.wp
  rw [h]
  exact hk
end
end Go.Proofs.Qxb6605835a
