import Derived.Test.Qxb6605835aLnk
namespace Go.Proofs.Qxb6605835a
open Go.ChangeShapes Go.WideShapes Go.ChangeAt Go.RowKit
set_option linter.unusedVariables false

/-- The nodes so far. -/
structure PB (w : World) (a b : Cm) (T : List Cm) (M : List ByteArray) (G : List Cm) : Prop where
  nd : (G.map (·.id)).Nodup
  ha : G[0]? = some a
  hb : a.id = b.id ∨ (a.id ≠ b.id ∧ G[1]? = some b)
  res : ∀ c ∈ G, c.id ≠ a.id → c.id ≠ b.id → c = resolveC T c.id
  inM : ∀ c ∈ G, c.id ∈ M
  par : ∀ c ∈ G, Par w c ∧ (∀ p ∈ c.ps, p ∈ M) ∧ c.ps.length ≤ 9000

/-- The first of the indices of the parents ps. -/
def rowOk (G : List Cm) (ps : List ByteArray) (X : List Nat) : Prop := X.length ≤ ps.length ∧ ∀ j (hj : j < X.length) (hj' : j < ps.length), ∃ hl : X[j] < G.length, G[X[j]].id = ps[j]

def rowsOk (G : List Cm) (PI : List (List Nat)) : Prop := PI.length ≤ G.length ∧ ∀ i (h : i < PI.length) (h' : i < G.length), PI[i].length = G[i].ps.length ∧ rowOk G G[i].ps PI[i]

section
variable {w : World} {a b : Cm} {T : List Cm} {M : List ByteArray} {G : List Cm} {PI : List (List Nat)} {X : List Nat} {ps : List ByteArray}

theorem PB.len (h : PB w a b T M G) : G.length ≤ M.length := by
  have := nodup_le h.nd (fun i hi => by
    obtain ⟨c, hc, rfl⟩ := List.mem_map.1 hi
    exact h.inM c hc)
  simpa using this

theorem PB.grow (h : PB w a b T M G) {id : ByteArray} (hno : id ∉ G.map (·.id)) (hin : id ∈ M) (hT : ∀ c ∈ T, Par w c ∧ (∀ p ∈ c.ps, p ∈ M) ∧ c.ps.length ≤ 9000) : PB w a b T M (G ++ [resolveC T id]) := by
  have hid : (resolveC T id).id = id := by
    unfold resolveC
    cases hf : T.find? (fun c => c.id.toList == id.toList) with
    | none => rfl
    | some c =>
      have := List.find?_some hf
      rw [beq_iff_eq] at this
      exact toList_inj this
  have h0 : 0 < G.length := by
    have := h.ha
    rw [List.getElem?_eq_some_iff] at this
    exact this.1
  refine ⟨?_, by rw [List.getElem?_append_left h0]; exact h.ha, ?_, fun c hc h1 h2 => ?_, fun c hc => ?_, fun c hc => ?_⟩
  · rw [List.map_append, List.nodup_append]
    refine ⟨h.nd, by simp, fun x hx y hy e => ?_⟩
    simp at hy
    subst hy
    rw [e, hid] at hx
    exact hno hx
  · rcases h.hb with hb | ⟨h1, h2⟩
    · exact .inl hb
    · have := h2
      rw [List.getElem?_eq_some_iff] at this
      exact .inr ⟨h1, by rw [List.getElem?_append_left this.1]; exact h2⟩
  · rcases List.mem_append.1 hc with hc | hc
    · exact h.res c hc h1 h2
    · simp at hc
      subst hc
      rw [hid]
  · rcases List.mem_append.1 hc with hc | hc
    · exact h.inM c hc
    · simp at hc
      subst hc
      rw [hid]
      exact hin
  · rcases List.mem_append.1 hc with hc | hc
    · exact h.par c hc
    · simp at hc
      subst hc
      rcases resolve_mem T id with hm | hm
      · exact hT _ hm
      · rw [hm]
        exact ⟨Par.root w id, fun p hp => by simp [rootCm] at hp, by simp [rootCm]⟩

theorem rowOk.grow (h : rowOk G ps X) (c : Cm) : rowOk (G ++ [c]) ps X :=
  ⟨h.1, fun j hj hj' => by
    obtain ⟨hl, e⟩ := h.2 j hj hj'
    exact ⟨by simp; omega, by rw [List.getElem_append_left hl]; exact e⟩⟩

theorem rowOk.snoc (h : rowOk G ps X) {k : Nat} (hk : k < G.length) (hq : X.length < ps.length) (e : G[k].id = ps[X.length]) : rowOk G ps (X ++ [k]) := by
  refine ⟨by simp; omega, fun j hj hj' => ?_⟩
  by_cases hlt : j < X.length
  · obtain ⟨hl, e'⟩ := h.2 j hlt hj'
    refine ⟨by rw [List.getElem_append_left hlt]; exact hl, ?_⟩
    simp only [List.getElem_append_left hlt]
    exact e'
  · have : j = X.length := by simp at hj; omega
    subst this
    refine ⟨by simp; exact hk, ?_⟩
    simp [e]

theorem rowsOk.grow (h : rowsOk G PI) (c : Cm) : rowsOk (G ++ [c]) PI := by
  refine ⟨by have := h.1; simp; omega, fun i hi hi' => ?_⟩
  have hiG : i < G.length := by have := h.1; omega
  obtain ⟨h1, h2⟩ := h.2 i hi hiG
  rw [List.getElem_append_left hiG]
  exact ⟨h1, h2.grow c⟩

theorem rowsOk.snoc (h : rowsOk G PI) (hlt : PI.length < G.length) (h1 : X.length = G[PI.length].ps.length) (h2 : rowOk G G[PI.length].ps X) : rowsOk G (PI ++ [X]) := by
  refine ⟨by simp; omega, fun i hi hi' => ?_⟩
  by_cases e : i < PI.length
  · simp only [List.getElem_append_left e]
    exact h.2 i e hi'
  · have : i = PI.length := by simp at hi; omega
    subst this
    simp
    exact ⟨h1, h2⟩

theorem PB.done (h : PB w a b T M G) (hr : rowsOk G PI) (hl : PI.length = G.length) {bi : Nat} (hbi : (a.id = b.id ∧ bi = 0) ∨ (a.id ≠ b.id ∧ bi = 1)) : BG a b T G PI bi := by
  have h0 := h.ha
  rw [List.getElem?_eq_some_iff] at h0
  obtain ⟨hl0, e0⟩ := h0
  refine ⟨⟨hl, fun i hi => ?_, fun i hi j hj => ?_, fun i hi hi' d => ?_⟩, h.nd, ⟨hl0, e0⟩, ?_, h.res⟩
  · have hiG : i < G.length := by omega
    have h1 := (hr.2 i hi hiG).1
    have h2 := (h.par _ (List.getElem_mem hiG)).2.2
    omega
  · have hiG : i < G.length := by omega
    obtain ⟨h1, h2⟩ := hr.2 i hi hiG
    obtain ⟨t, ht, rfl⟩ := List.mem_iff_getElem.1 hj
    exact (h2.2 t ht (by omega)).1
  · obtain ⟨h1, h2⟩ := hr.2 i hi hi'
    constructor
    · intro hd
      obtain ⟨t, ht, rfl⟩ := List.mem_iff_getElem.1 hd
      obtain ⟨hk, e⟩ := h2.2 t (by omega) ht
      exact ⟨PI[i][t], List.getElem_mem _, hk, e⟩
    · rintro ⟨j, hj, hjl, e⟩
      obtain ⟨t, ht, rfl⟩ := List.mem_iff_getElem.1 hj
      obtain ⟨_, e'⟩ := h2.2 t ht (by omega)
      rw [← e, e']
      exact List.getElem_mem _
  · rcases hbi with ⟨e, rfl⟩ | ⟨e, rfl⟩
    · exact ⟨hl0, .inl ⟨e, e0⟩⟩
    · rcases h.hb with hb | ⟨_, hb⟩
      · exact absurd hb e
      · rw [List.getElem?_eq_some_iff] at hb
        exact ⟨hb.1, .inr ⟨e, hb.2⟩⟩
end

/-- The row of rows in memory. -/
structure BR (w W : World) (pv : Value) (PI : List (List Nat)) (R : List Nat) : Prop where
  len : R.length = PI.length
  own : W.ownsRow w.heap.size 46 1 pv PI.length (List.zipWith (fun (r : Nat) (l : List Nat) => Value.slice (some ⟨r, 0, none⟩) l.length l.length) R PI)
  row : ∀ t (h : t < R.length) (h' : t < PI.length), Blk W R[t] 3 (PI[t].map (fun k : Nat => Value.int .i64 (k : Int))).toArray

theorem BR.blk {w W : World} {pv : Value} {PI : List (List Nat)} {R : List Nat} (h : BR w W pv PI R) {g : Nat} (hg : pv.ownBlock = some g) : ∃ cur, Blk W g 46 cur ∧ w.heap.size ≤ g := by
  rcases h.own.2 with ⟨hv, _⟩ | ⟨g', cap, cur, hv, hb, hh, _⟩
  · rw [hv] at hg; simp [Value.ownBlock] at hg
  · rw [hv] at hg
    simp [Value.ownBlock] at hg
    subst hg
    exact ⟨cur, hh, hb⟩

theorem BR.kept {w W W' : World} {pv : Value} {PI : List (List Nat)} {R : List Nat} {S : Nat → Prop} (h : BR w W pv PI R) (hk : Keeps W W' S) (hs : ∀ g, pv.ownBlock = some g → ¬ S g) (hr : ∀ r ∈ R, ¬ S r) : BR w W' pv PI R := by
  refine ⟨h.len, ⟨h.own.1, ?_⟩, fun t ht ht' => (h.row t ht ht').kept hk (hr _ (List.getElem_mem ht))⟩
  rcases h.own.2 with hv | ⟨g, cap, cur, hv, hb, hh, hrr⟩
  · exact .inl hv
  · refine .inr ⟨g, cap, cur, hv, hb, ?_, hrr⟩
    exact Blk.kept (t := 46) hh hk (hs g (by rw [hv]; rfl))

theorem BR.lt {w W : World} {pv : Value} {PI : List (List Nat)} {R : List Nat} (h : BR w W pv PI R) : ∀ r ∈ R, r < W.heap.size := fun r hr => by
  obtain ⟨t, ht, rfl⟩ := List.mem_iff_getElem.1 hr
  exact (h.row t ht (by have := h.len; omega)).lt

theorem BR.below {w W W' : World} {pv : Value} {PI : List (List Nat)} {R : List Nat} (h : BR w W pv PI R) (hb : Below W.heap.size W W') : BR w W' pv PI R := h.kept (Keeps.of_below hb (fun _ => False)) (fun _ _ => id) (fun _ _ => id)
end Go.Proofs.Qxb6605835a
