import Derived.Test.Qxb6605835aGrS
import Derived.Test.Qxb6605835aStart
namespace Go.Proofs.Qxb6605835a
open Go.ChangeShapes Go.WideShapes Go.ChangeAt Go.RowKit
set_option linter.unusedVariables false

theorem nodup_le : ∀ {l m : List ByteArray}, l.Nodup → (∀ x ∈ l, x ∈ m) → l.length ≤ m.length
  | [], _, _, _ => Nat.zero_le _
  | x :: l, m, hn, hs => by
    obtain ⟨u, v, rfl⟩ := List.append_of_mem (hs x (by simp))
    have hn' := List.nodup_cons.1 hn
    have := nodup_le (l := l) (m := u ++ v) hn'.2 (fun y hy => by
      have h1 := hs y (by simp [hy])
      simp only [List.mem_append, List.mem_cons] at h1 ⊢
      rcases h1 with h1 | h1 | h1
      · exact .inl h1
      · subst h1; exact absurd hy hn'.1
      · exact .inr h1)
    simp only [List.length_append, List.length_cons] at this ⊢
    omega

section
variable {w : World} {B : Nat → Prop} {wb mb : Nat} {fnv qv cv : Value} {G : List Cm} {a b : Cm} {T : List Cm} {K : Nat → Cm} {N : List Nd} {Q C P : List Nat} {ung : Bool} {x : Nd}

theorem key_gen {c : Cm} (h : c.gen ≠ 0) : c.key = c.gen := by unfold Cm.key; rw [if_neg h]

/-- The queue's head is latest. -/
theorem top_gen (hs : WS w B wb mb fnv K N qv cv Q C ung) (hi : WInv G a b K N P C) (hG : Gra G a b T) (hxN : x ∈ N) (hxb : x.b = nth Q 0) : ∀ y ∈ N, y.q = true → (K y.b).gen ≤ (K x.b).gen := by
  intro y hy hq
  have hm : y.b ∈ Q := hs.qperm.mem_iff.2 (qd_mem.2 ⟨y, hy, rfl, hq⟩)
  obtain ⟨i, hi', e⟩ := List.mem_iff_getElem.1 hm
  have h := heap_min (ordK K) hs.ms.heap i hi'
  rw [nth_eq Q i hi', e, ← hxb] at h
  unfold ltK Cm.less at h
  simp only [Bool.or_eq_false_iff, decide_eq_false_iff_not] at h
  have h1 := h.1
  rw [key_gen (hG.gr _ (hi.inG y hy)), key_gen (hG.gr _ (hi.inG x hxN))] at h1
  omega

/-- At the start. b' is the graph's commit for b: a itself where the two share an ID. -/
theorem WInv.start {b' : Cm} (hst : StartN a b K N ung) (hG : Gra G a b' T) (hb : (a.id = b.id ∧ b' = a) ∨ (a.id ≠ b.id ∧ b' = b)) : WInv G a b' K N [] [] := by
  rcases hst with ⟨hid, n1, rfl, hk, _⟩ | ⟨hid, n1, n2, rfl, hk1, hk2, _⟩
  · have hb' : b' = a := by
      rcases hb with ⟨_, h⟩ | ⟨h, _⟩
      · exact h
      · exact absurd hid h
    subst hb'
    refine ⟨?_, ?_, ?_, ?_, ?_, ?_, ?_, ?_, ?_, ?_, ?_, ?_, ?_, ?_, ?_, ?_⟩
    all_goals simp only [List.mem_singleton, forall_eq, List.not_mem_nil, false_implies, implies_true, exists_eq_left, false_and, List.nodup_nil, hk]
    all_goals first | exact hG.a0 | decide | (intro; exact .refl _) | simp | trivial
  · have hb' : b' = b := by
      rcases hb with ⟨h, _⟩ | ⟨_, h⟩
      · exact absurd h hid
      · exact h
    subst hb'
    refine ⟨fun y hy => ?_, fun y hy => ?_, fun y hy => ?_, fun y hy h => by simp at h, fun k hk => by simp at hk, by simp, fun y hy _ z hz h => by simp at h, ⟨⟨n1, 1, true⟩, by simp, hk1, (by decide : (1 : Nat) &&& 1 ≠ 0)⟩, ⟨⟨n2, 2, true⟩, by simp, hk2, (by decide : (2 : Nat) &&& 2 ≠ 0)⟩, fun z hz h => by simp at h, fun y hy => ?_, fun y hy => ?_, fun y hy => ?_, fun y hy => by simp, fun k hk => by simp at hk, by simp⟩
    all_goals simp only [List.mem_cons, List.not_mem_nil, or_false] at hy
    all_goals rcases hy with rfl | rfl
    · rw [hk1]; exact hG.a0
    · rw [hk2]; exact hG.b0
    · simp
    · simp
    · simp
    · simp
    · intro _; rw [hk1]; exact .refl _
    · intro h; exact absurd (by decide : (2 : Nat) &&& 1 = 0) h
    · intro h; exact absurd (by decide : (1 : Nat) &&& 2 = 0) h
    · intro _; rw [hk2]; exact .refl _
    · intro h; exact absurd (by decide : (1 : Nat) &&& 4 = 0) h
    · intro h; exact absurd (by decide : (2 : Nat) &&& 4 = 0) h

/-- All nodes graded: the walk is not ungraded. -/
theorem start_graded {b' : Cm} (hst : StartN a b K N ung) (hG : Gra G a b' T) (hb : (a.id = b.id ∧ b' = a) ∨ (a.id ≠ b.id ∧ b' = b)) : ung = false := by
  rcases hst with ⟨hid, n1, rfl, hk, hu⟩ | ⟨hid, n1, n2, rfl, hk1, hk2, hu⟩
  · rw [hu]
    simpa using hG.gr _ hG.a0
  · have hb' : b' = b := by
      rcases hb with ⟨h, _⟩ | ⟨_, h⟩
      · exact absurd h hid
      · exact h
    subst hb'
    rw [hu]
    simp [hG.gr _ hG.a0, hG.gr _ hG.b0]

theorem step_graded {K' : Nat → Cm} {M : List Nd} {ung' : Bool} (h : WInv G a b K' (stepN K N x M) P C) (hG : Gra G a b T) (hp : PInv T (passed x.p) K (setNd N x.b (offNd x)) false (K x.b).ps K' M ung') : ung' = false := by
  rw [hp.ung]
  simp only [Bool.false_or, List.any_eq_false, decide_eq_true_eq]
  intro z hz e
  have := h.inG _ (stepN_new (K := K) (N := N) (x := x) hz)
  rw [paintNd_b] at this
  exact hG.gr _ this e

/-- No more is taken than there is. -/
theorem WInv.count (h : WInv G a b K N P C) (hk : NOk K N) (hg : (G.map (·.id)).Nodup) : P.length ≤ G.length := by
  have h1 : (P.map (fun k => (K k).id)).Nodup := by
    rw [List.Nodup, List.pairwise_map]
    refine List.Pairwise.imp_of_mem ?_ h.pnd
    intro k k' hk1 hk2 hne e
    obtain ⟨y, hy, rfl⟩ := h.pin k hk1
    obtain ⟨y', hy', rfl⟩ := h.pin k' hk2
    exact hne (hk.2 y hy y' hy' e)
  have h2 : ∀ i ∈ P.map (fun k => (K k).id), i ∈ G.map (·.id) := by
    intro i hi
    obtain ⟨k, hk1, rfl⟩ := List.mem_map.1 hi
    obtain ⟨y, hy, rfl⟩ := h.pin k hk1
    exact List.mem_map.2 ⟨_, h.inG y hy, rfl⟩
  have := nodup_le h1 h2
  simpa using this

/-- Where as many were taken as there are, nothing is queued. -/
theorem WInv.full (h : WInv G a b K N P C) (hk : NOk K N) (hg : (G.map (·.id)).Nodup) (hl : G.length ≤ P.length) : ∀ y ∈ N, y.q = false := by
  intro y hy
  cases hq : y.q with
  | false => rfl
  | true =>
    have hyP : y.b ∉ P := fun hp => by
      have := h.pq y hy hp
      rw [hq] at this
      cases this
    have h1 : ((P ++ [y.b]).map (fun k => (K k).id)).Nodup := by
      rw [List.Nodup, List.pairwise_map]
      have hnd : (P ++ [y.b]).Nodup := by
        rw [List.nodup_append]
        refine ⟨h.pnd, by simp, fun k hk1 k' hk2 => ?_⟩
        simp at hk2
        subst hk2
        exact fun e => hyP (e ▸ hk1)
      refine List.Pairwise.imp_of_mem ?_ hnd
      have hin : ∀ k ∈ P ++ [y.b], ∃ z ∈ N, z.b = k := fun k hk1 => by
        rcases List.mem_append.1 hk1 with hk1 | hk1
        · exact h.pin k hk1
        · simp at hk1; exact ⟨y, hy, hk1.symm⟩
      intro k k' hk1 hk2 hne e
      obtain ⟨z, hz, rfl⟩ := hin k hk1
      obtain ⟨z', hz', rfl⟩ := hin k' hk2
      exact hne (hk.2 z hz z' hz' e)
    have h2 : ∀ i ∈ (P ++ [y.b]).map (fun k => (K k).id), i ∈ G.map (·.id) := by
      intro i hi
      obtain ⟨k, hk1, rfl⟩ := List.mem_map.1 hi
      rcases List.mem_append.1 hk1 with hk1 | hk1
      · obtain ⟨z, hz, rfl⟩ := h.pin k hk1
        exact List.mem_map.2 ⟨_, h.inG z hz, rfl⟩
      · simp at hk1
        subst hk1
        exact List.mem_map.2 ⟨_, h.inG y hy, rfl⟩
    have := nodup_le h1 h2
    simp at this
    omega
end
end Go.Proofs.Qxb6605835a
