import Derived.Test.Qxb6605835aTake
namespace Go.Proofs.Qxb6605835a
open Go.ChangeShapes Go.WideShapes Go.ChangeAt Go.RowKit
set_option linter.unusedVariables false

theorem nodeFor_mem {K : Nat → Cm} {N : List Nd} {id : ByteArray} {x : Nd} (h : nodeFor K N id = some x) : x ∈ N ∧ (K x.b).id = id := by
  refine ⟨List.mem_of_find?_eq_some h, ?_⟩
  have := List.find?_some h
  rw [beq_iff_eq] at this
  exact toList_inj this

theorem nodeFor_none {K : Nat → Cm} {N : List Nd} {id : ByteArray} : nodeFor K N id = none ↔ ∀ x ∈ N, (K x.b).id ≠ id := by
  unfold nodeFor
  rw [List.find?_eq_none]
  constructor
  · intro h x hx e
    have := h x hx
    rw [e] at this
    simp at this
  · intro h x hx
    rw [beq_iff_eq]
    intro e
    exact h x hx (toList_inj e)

/-- The IDs of the nodes are distinct, and so are their blocks. -/
def NOk (K : Nat → Cm) (N : List Nd) : Prop := (N.map (·.b)).Nodup ∧ ∀ x ∈ N, ∀ y ∈ N, (K x.b).id = (K y.b).id → x.b = y.b

theorem NOk.uniq {K : Nat → Cm} {N : List Nd} (h : NOk K N) {x y : Nd} (hx : x ∈ N) (hy : y ∈ N) (e : x.b = y.b) : x = y := by
  obtain ⟨i, hi, rfl⟩ := List.mem_iff_getElem.1 hx
  obtain ⟨j, hj, rfl⟩ := List.mem_iff_getElem.1 hy
  have := (List.getElem_inj (h₀ := by simpa using hi) (h₁ := by simpa using hj) h.1).1 (by simpa using e)
  subst this
  rfl

theorem nodeFor_some {K : Nat → Cm} {N : List Nd} (h : NOk K N) {x : Nd} (hx : x ∈ N) : nodeFor K N (K x.b).id = some x := by
  cases e : nodeFor K N (K x.b).id with
  | none => exact absurd rfl (nodeFor_none.1 e x hx)
  | some y =>
    obtain ⟨hy, hi⟩ := nodeFor_mem e
    rw [h.uniq hy hx (h.2 y hy x hx hi)]

/-- The nodes that the first k IDs name. -/
def FK (K : Nat → Cm) (N : List Nd) (l : List ByteArray) (k : Nat) : List Nd := (l.take k).filterMap (nodeFor K N)

theorem FK_perm {K : Nat → Cm} {N : List Nd} (h : NOk K N) {l : List ByteArray} (hl : l.Nodup) (hin : ∀ x ∈ N, (K x.b).id ∈ l) : (l.filterMap (nodeFor K N)).Perm N := by
  have hN : N.Nodup := by
    have := h.1
    rw [List.Nodup, List.pairwise_map] at this
    exact this.imp (fun hne e => hne (by rw [e]))
  rw [List.perm_ext_iff_of_nodup ?_ hN]
  · intro x
    rw [List.mem_filterMap]
    constructor
    · rintro ⟨id, _, e⟩
      exact (nodeFor_mem e).1
    · intro hx
      exact ⟨_, hin x hx, nodeFor_some h hx⟩
  · rw [List.Nodup, List.pairwise_filterMap]
    refine List.Pairwise.imp ?_ hl
    intro a a' hne b hb b' hb' e
    subst e
    exact hne ((nodeFor_mem hb).2.symm.trans (nodeFor_mem hb').2)

theorem FK_succ {K : Nat → Cm} {N : List Nd} {l : List ByteArray} {k : Nat} (hk : k < l.length) : FK K N l (k + 1) = FK K N l k ++ (nodeFor K N l[k]).toList := by
  unfold FK
  rw [List.take_succ_eq_append_getElem hk, List.filterMap_append]
  cases e : nodeFor K N l[k] <;> simp [e]

theorem FK_all {K : Nat → Cm} {N : List Nd} {l : List ByteArray} {k : Nat} (hk : l.length ≤ k) : FK K N l k = l.filterMap (nodeFor K N) := by
  unfold FK
  rw [List.take_of_length_le hk]

theorem FK_len (K : Nat → Cm) (N : List Nd) (l : List ByteArray) (k : Nat) : (FK K N l k).length ≤ k := by
  unfold FK
  exact Nat.le_trans (List.length_filterMap_le _ _) (List.length_take_le _ _)
end Go.Proofs.Qxb6605835a
