import Derived.Test.Qxb6605835aBooks
namespace Go.Proofs.Qxb6605835a
open Go.ChangeShapes Go.WideShapes Go.ChangeAt Go.RowKit
set_option linter.unusedVariables false

/-- The nodes behind a step. -/
abbrev stepN (K : Nat → Cm) (N : List Nd) (x : Nd) (M : List Nd) : List Nd := parN K (passed x.p) (K x.b).ps (setNd N x.b (offNd x)) M

theorem paintNd_p (pt : Nat) (y : Nd) : (paintNd pt y).p = y.p ||| pt := by
  unfold paintNd
  split
  · next h => exact h.symm
  · rfl

theorem paintNd_q (pt : Nat) (y : Nd) : (paintNd pt y).q = (y.q || decide (y.p ||| pt ≠ y.p)) := by
  unfold paintNd
  split
  · next h => simp [h]
  · next h => simp [h]

/-- What a step does to the node of an ID that has one. -/
def after1 (K : Nat → Cm) (x y : Nd) : Nd :=
  let y1 : Nd := if y.b = x.b then offNd x y else y
  if hasId (K x.b).ps (K y.b).id then paintNd (passed x.p) y1 else y1

theorem after1_b (K : Nat → Cm) (x y : Nd) : (after1 K x y).b = y.b := by
  unfold after1
  by_cases e : y.b = x.b
  · simp only [e, if_true]
    split
    · rw [paintNd_b]; simp [offNd, e]
    · simp [offNd, e]
  · simp only [if_neg e]
    split
    · rw [paintNd_b]
    · rfl

theorem stepN_eq (K : Nat → Cm) (N : List Nd) (x : Nd) (M : List Nd) : stepN K N x M = N.map (after1 K x) ++ M.map (paintNd (passed x.p)) := by
  unfold stepN parN setNd
  rw [List.map_map]
  congr 1
  apply List.map_congr_left
  intro y _
  unfold after1
  by_cases e : y.b = x.b
  · simp [e, offNd]
  · simp [e]

theorem setNd_ids {K : Nat → Cm} {N : List Nd} {x : Nd} {id : ByteArray} : (∃ y ∈ setNd N x.b (offNd x), (K y.b).id = id) ↔ ∃ y ∈ N, (K y.b).id = id := by
  unfold setNd
  constructor
  · rintro ⟨y, hy, e⟩
    obtain ⟨z, hz, rfl⟩ := List.mem_map.1 hy
    refine ⟨z, hz, ?_⟩
    rw [← e]
    split <;> rfl
  · rintro ⟨y, hy, e⟩
    refine ⟨_, List.mem_map.2 ⟨y, hy, rfl⟩, ?_⟩
    rw [← e]
    split <;> rfl

section
variable {T : List Cm} {K K' : Nat → Cm} {N M : List Nd} {ung ung' : Bool} {x : Nd}

theorem step_keep (hp : PInv T (passed x.p) K (setNd N x.b (offNd x)) ung (K x.b).ps K' M ung') {y : Nd} (hy : y ∈ N) : K' y.b = K y.b := by
  have := hp.keep _ (List.mem_map.2 ⟨y, hy, rfl⟩)
  by_cases e : y.b = x.b
  · simpa [e, offNd] using this
  · simpa [e] using this

theorem ent_some (hp : PInv T (passed x.p) K (setNd N x.b (offNd x)) ung (K x.b).ps K' M ung') (hok : NOk K' (stepN K N x M)) {y : Nd} (hy : y ∈ N) : nodeFor K' (stepN K N x M) (K y.b).id = some (after1 K x y) := by
  have hm : after1 K x y ∈ stepN K N x M := by
    rw [stepN_eq]
    exact List.mem_append.2 (.inl (List.mem_map.2 ⟨y, hy, rfl⟩))
  have := nodeFor_some hok hm
  rw [after1_b, step_keep hp hy] at this
  exact this

theorem ent_new (hp : PInv T (passed x.p) K (setNd N x.b (offNd x)) ung (K x.b).ps K' M ung') (hok : NOk K' (stepN K N x M)) {id : ByteArray} (h0 : nodeFor K N id = none) (hh : hasId (K x.b).ps id = true) :
    ∃ z ∈ M, nodeFor K' (stepN K N x M) id = some (paintNd (passed x.p) z) ∧ z.p = 0 ∧ z.q = false ∧ K' z.b = resolveC T id := by
  rcases hp.all id hh with h | ⟨z, hz, e⟩
  · obtain ⟨y, hy, e⟩ := setNd_ids.1 h
    exact absurd e (nodeFor_none.1 h0 y hy)
  · obtain ⟨h1, h2, _, h4, _⟩ := hp.fresh z hz
    have hm : paintNd (passed x.p) z ∈ stepN K N x M := by
      rw [stepN_eq]
      exact List.mem_append.2 (.inr (List.mem_map.2 ⟨z, hz, rfl⟩))
    have := nodeFor_some hok hm
    rw [paintNd_b, e] at this
    exact ⟨z, hz, this, h1, h2, by rw [h4, e]⟩

theorem ent_no (hp : PInv T (passed x.p) K (setNd N x.b (offNd x)) ung (K x.b).ps K' M ung') {id : ByteArray} (h0 : nodeFor K N id = none) (hh : hasId (K x.b).ps id = false) : nodeFor K' (stepN K N x M) id = none := by
  rw [nodeFor_none]
  intro y hy e
  rw [stepN_eq] at hy
  rcases List.mem_append.1 hy with hy | hy
  · obtain ⟨z, hz, rfl⟩ := List.mem_map.1 hy
    rw [after1_b, step_keep hp hz] at e
    exact nodeFor_none.1 h0 z hz e
  · obtain ⟨z, hz, rfl⟩ := List.mem_map.1 hy
    rw [paintNd_b] at e
    have := (hp.fresh z hz).2.2.1
    rw [e, hh] at this
    cases this
end
end Go.Proofs.Qxb6605835a
