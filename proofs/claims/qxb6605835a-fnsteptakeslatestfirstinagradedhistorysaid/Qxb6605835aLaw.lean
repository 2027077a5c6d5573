import Derived.Test.Qxb6605835aStepP
namespace Go.Proofs.Qxb6605835a
open Go.ChangeShapes Go.WideShapes Go.ChangeAt Go.RowKit
set_option linter.unusedVariables false

/-- What the law's loop keeps of the walk, but for memory. -/
structure LawN (w0 : World) (T : List Cm) (l : List ByteArray) (K : Nat → Cm) (N : List Nd) (C : List Nat) (steps : Nat) : Prop where
  par : ∀ y ∈ N, Par w0 (K y.b)
  ids : ∀ y ∈ N, (K y.b).id ∈ l
  pin : ∀ y ∈ N, ∀ p ∈ (K y.b).ps, p ∈ l
  psl : ∀ y ∈ N, (K y.b).ps.length ≤ 10000
  cin : ∀ b ∈ C, ∃ y ∈ N, y.b = b
  cl : C.length ≤ steps

/-- What it keeps of the table. -/
structure LawT (w0 : World) (sb : Nat) (ta : Option Addr) (tc : Nat) (T : List Cm) (l : List ByteArray) : Prop where
  store : Store w0 sb ta tc T
  par : ∀ c ∈ T, Par w0 c
  pin : ∀ c ∈ T, ∀ p ∈ c.ps, p ∈ l
  psl : ∀ c ∈ T, c.ps.length ≤ 10000
  nd : l.Nodup
  ll : l.length ≤ 100000

theorem resolve_mem (T : List Cm) (id : ByteArray) : resolveC T id ∈ T ∨ resolveC T id = rootCm id := by
  unfold resolveC
  cases h : T.find? (fun c => c.id.toList == id.toList) with
  | none => exact .inr rfl
  | some c => exact .inl (List.mem_of_find?_eq_some h)

theorem LawN.step {w0 : World} {sb : Nat} {ta : Option Addr} {tc : Nat} {T : List Cm} {l : List ByteArray} {K K' : Nat → Cm} {N M : List Nd} {C : List Nat} {steps : Nat} {ung ung' : Bool} {x : Nd} (h : LawN w0 T l K N C steps) (ht : LawT w0 sb ta tc T l) (hx : x ∈ N)
    (hp : PInv T (passed x.p) K (setNd N x.b (offNd x)) ung (K x.b).ps K' M ung') (hpm : ∀ z ∈ M, Par w0 (K' z.b)) : LawN w0 T l K' (stepN K N x M) (if becomes x.p = true then C ++ [x.b] else C) (steps + 1) := by
  have hall : ∀ y ∈ stepN K N x M, (∃ z ∈ N, y.b = z.b ∧ K' y.b = K z.b) ∨ ∃ z ∈ M, y.b = z.b := fun y hy => by
    rw [stepN_eq] at hy
    rcases List.mem_append.1 hy with hy | hy
    · obtain ⟨z, hz, rfl⟩ := List.mem_map.1 hy
      exact .inl ⟨z, hz, after1_b _ _ _, by rw [after1_b]; exact step_keep hp hz⟩
    · obtain ⟨z, hz, rfl⟩ := List.mem_map.1 hy
      exact .inr ⟨z, hz, paintNd_b _ _⟩
  have hin : ∀ z ∈ N, ∃ y ∈ stepN K N x M, y.b = z.b := fun z hz => ⟨after1 K x z, by rw [stepN_eq]; exact List.mem_append.2 (.inl (List.mem_map.2 ⟨z, hz, rfl⟩)), after1_b _ _ _⟩
  refine ⟨fun y hy => ?_, fun y hy => ?_, fun y hy => ?_, fun y hy => ?_, fun b hb => ?_, ?_⟩
  · rcases hall y hy with ⟨z, hz, _, e⟩ | ⟨z, hz, e⟩
    · rw [e]; exact h.par z hz
    · rw [e]; exact hpm z hz
  · rcases hall y hy with ⟨z, hz, _, e⟩ | ⟨z, hz, e⟩
    · rw [e]; exact h.ids z hz
    · rw [e]
      exact h.pin x hx _ (hasId_iff.1 (hp.fresh z hz).2.2.1)
  · rcases hall y hy with ⟨z, hz, _, e⟩ | ⟨z, hz, e⟩
    · rw [e]; exact h.pin z hz
    · rw [e, (hp.fresh z hz).2.2.2.1]
      rcases resolve_mem T (K' z.b).id with hm | hm
      · exact ht.pin _ hm
      · rw [hm]; intro p hp; simp [rootCm] at hp
  · rcases hall y hy with ⟨z, hz, _, e⟩ | ⟨z, hz, e⟩
    · rw [e]; exact h.psl z hz
    · rw [e, (hp.fresh z hz).2.2.2.1]
      rcases resolve_mem T (K' z.b).id with hm | hm
      · exact ht.psl _ hm
      · rw [hm]; simp [rootCm]
  · have hb' : b ∈ C ∨ b = x.b := by
      split at hb
      · rcases List.mem_append.1 hb with hb | hb
        · exact .inl hb
        · simp at hb; exact .inr hb
      · exact .inl hb
    rcases hb' with hb' | rfl
    · obtain ⟨y, hy, rfl⟩ := h.cin b hb'
      exact hin y hy
    · exact hin x hx
  · have := h.cl
    split
    · rw [List.length_append, List.length_cons, List.length_nil]; omega
    · omega
end Go.Proofs.Qxb6605835a
