import Derived.Test.Qxb6605835aBst
namespace Go.Proofs.Qxb6605835a
open Go.ChangeShapes Go.WideShapes Go.ChangeAt Go.RowKit
set_option linter.unusedVariables false

/-- What zzBuildGraph makes, plainly. -/
structure BG (a b : Cm) (T : List Cm) (G : List Cm) (PI : List (List Nat)) (bi : Nat) : Prop where
  gp : GP G PI
  nd : (G.map (·.id)).Nodup
  ha : ∃ h : 0 < G.length, G[0] = a
  hb : ∃ h : bi < G.length, (a.id = b.id ∧ G[bi] = a) ∨ (a.id ≠ b.id ∧ G[bi] = b)
  res : ∀ c ∈ G, c.id ≠ a.id → c.id ≠ b.id → c = resolveC T c.id

section
variable {a b : Cm} {T G : List Cm} {PI : List (List Nat)} {bi : Nat}

theorem id_inj (h : (G.map (·.id)).Nodup) {i j : Nat} (hi : i < G.length) (hj : j < G.length) (e : G[i].id = G[j].id) : i = j := by
  have := (List.getElem_inj (h₀ := by simpa using hi) (h₁ := by simpa using hj) h).1 (by simpa using e)
  exact this

theorem BG.gra (h : BG a b T G PI bi) (hg : Graded G PI) (hbi : bi < G.length) : Gra G a G[bi] T := by
  obtain ⟨h0, ea⟩ := h.ha
  obtain ⟨_, hb⟩ := h.hb
  have hbid : G[bi].id = b.id := by
    rcases hb with ⟨e1, e2⟩ | ⟨e1, e2⟩
    · rw [e2, e1]
    · rw [e2]
  refine ⟨fun c hc d hd e => ?_, ea ▸ List.getElem_mem h0, List.getElem_mem hbi, fun c hc p hp => ?_, fun c hc h1 h2 => h.res c hc h1 (by rw [← hbid]; exact h2), fun c hc => ?_, fun c hc d hd hp => ?_⟩
  · obtain ⟨i, hi, rfl⟩ := List.mem_iff_getElem.1 hc
    obtain ⟨j, hj, rfl⟩ := List.mem_iff_getElem.1 hd
    have := id_inj h.nd hi hj e
    subst this
    rfl
  · obtain ⟨i, hi, rfl⟩ := List.mem_iff_getElem.1 hc
    have hiP : i < PI.length := by rw [h.gp.len]; exact hi
    obtain ⟨j, _, hj, e⟩ := (h.gp.par i hiP hi p).1 hp
    exact ⟨G[j], List.getElem_mem hj, e⟩
  · obtain ⟨i, hi, rfl⟩ := List.mem_iff_getElem.1 hc
    exact (hg i hi (by rw [h.gp.len]; exact hi)).1
  · obtain ⟨i, hi, rfl⟩ := List.mem_iff_getElem.1 hc
    obtain ⟨k, hk, rfl⟩ := List.mem_iff_getElem.1 hd
    have hiP : i < PI.length := by rw [h.gp.len]; exact hi
    obtain ⟨j, hjm, hj, e⟩ := (h.gp.par i hiP hi _).1 hp
    have := id_inj h.nd hj hk e
    subst this
    exact (hg i hi hiP).2 j hjm hj

theorem RI.lt (h : BG a b T G PI bi) {i j : Nat} (hr : RI PI i j) (hi : i < G.length) : j < G.length := by
  cases hr with
  | refl => exact hi
  | step _ hl hj => exact h.gp.lt _ hl _ hj

theorem RI.des (h : BG a b T G PI bi) {i j : Nat} (hr : RI PI i j) (hi : i < G.length) (hj : j < G.length) : Des G G[i] G[j] := by
  induction hr with
  | refl => exact .refl _
  | @step k j hr hl hm ih =>
    have hk : k < G.length := by rw [← h.gp.len]; exact hl
    exact .step (ih hk) (List.getElem_mem hj) ((h.gp.par k hl hk _).2 ⟨j, hm, hj, rfl⟩)

theorem Des.ri (h : BG a b T G PI bi) {c e : Cm} (hr : Des G c e) {i : Nat} (hi : i < G.length) (hc : G[i] = c) : ∃ j, ∃ hj : j < G.length, G[j] = e ∧ RI PI i j := by
  induction hr with
  | refl => exact ⟨i, hi, hc, .refl _⟩
  | @step d e hr he hp ih =>
    obtain ⟨k, hk, rfl, hrk⟩ := ih
    have hkP : k < PI.length := by rw [h.gp.len]; exact hk
    obtain ⟨j, hjm, hj, e1⟩ := (h.gp.par k hkP hk _).1 hp
    obtain ⟨j', hj', rfl⟩ := List.mem_iff_getElem.1 he
    have := id_inj h.nd hj hj' e1
    subst this
    exact ⟨j, hj, rfl, .step hrk hkP hjm⟩

theorem des_iff (h : BG a b T G PI bi) {i j : Nat} (hi : i < G.length) (hj : j < G.length) : RI PI i j ↔ Des G G[i] G[j] := by
  refine ⟨fun hr => hr.des h hi hj, fun hd => ?_⟩
  obtain ⟨j', hj', e, hr⟩ := hd.ri h hi rfl
  have : j' = j := id_inj h.nd hj' hj (by rw [e])
  subst this
  exact hr

theorem blw_head {c e : Cm} : Blw G c e ↔ ∃ s ∈ G, s.id ∈ c.ps ∧ Des G s e := by
  constructor
  · rintro ⟨d, hd, he, hp⟩
    induction hd generalizing e with
    | refl => exact ⟨e, he, hp, .refl _⟩
    | step hd' he' hp' ih =>
      obtain ⟨s, hs, hsp, hse⟩ := ih he' hp'
      exact ⟨s, hs, hsp, .step hse he hp⟩
  · rintro ⟨s, hs, hsp, hse⟩
    have hb : Blw G c s := ⟨c, .refl _, hs, hsp⟩
    exact hb.down hse

/-- What best lists. -/
theorem best_iff (h : BG a b T G PI bi) (hbi : bi < G.length) {sa sb su : Nat → Bool} (hsa : ∀ i, sa i = true ↔ RI PI 0 i) (hsb : ∀ i, sb i = true ↔ RI PI bi i) (hsu : ∀ i, su i = true ↔ ∃ s ∈ bl PI (fun i => sa i && sb i) G.length, RI PI s i) {i : Nat} (hi : i < G.length) :
    (sa i && sb i && !su i) = true ↔ Best G a G[bi] G[i] := by
  obtain ⟨h0, ea⟩ := h.ha
  have hA : ∀ j (hj : j < G.length), sa j = true ↔ Des G a G[j] := fun j hj => by rw [hsa, des_iff h h0 hj, ea]
  have hB : ∀ j (hj : j < G.length), sb j = true ↔ Des G G[bi] G[j] := fun j hj => by rw [hsb, des_iff h hbi hj]
  have hU : su i = true ↔ ∃ c ∈ G, Des G a c ∧ Des G G[bi] c ∧ Blw G c G[i] := by
    rw [hsu]
    constructor
    · rintro ⟨s, hs, hr⟩
      obtain ⟨j, hj, hf, hjs⟩ := bl_mem.1 hs
      have hjP : j < PI.length := by rw [h.gp.len]; exact hj
      rw [show PI.getD j [] = PI[j] by simp [List.getD, hjP]] at hjs
      simp only [Bool.and_eq_true] at hf
      have hsl := h.gp.lt j hjP s hjs
      exact ⟨G[j], List.getElem_mem hj, (hA j hj).1 hf.1, (hB j hj).1 hf.2, blw_head.2 ⟨G[s], List.getElem_mem hsl, (h.gp.par j hjP hj _).2 ⟨s, hjs, hsl, rfl⟩, (des_iff h hsl hi).1 hr⟩⟩
    · rintro ⟨c, hc, h1, h2, h3⟩
      obtain ⟨j, hj, rfl⟩ := List.mem_iff_getElem.1 hc
      have hjP : j < PI.length := by rw [h.gp.len]; exact hj
      obtain ⟨s, hs, hsp, hse⟩ := blw_head.1 h3
      obtain ⟨q, hqm, hq, e⟩ := (h.gp.par j hjP hj _).1 hsp
      obtain ⟨s', hs', rfl⟩ := List.mem_iff_getElem.1 hs
      have := id_inj h.nd hq hs' e
      subst this
      refine ⟨q, bl_mem.2 ⟨j, hj, ?_, ?_⟩, (des_iff h hq hi).2 hse⟩
      · simp only [Bool.and_eq_true]
        exact ⟨(hA j hj).2 h1, (hB j hj).2 h2⟩
      · rw [show PI.getD j [] = PI[j] by simp [List.getD, hjP]]
        exact hqm
  unfold Best
  simp only [Bool.and_eq_true, Bool.not_eq_true']
  rw [hA i hi, hB i hi]
  constructor
  · rintro ⟨⟨h1, h2⟩, h3⟩
    exact ⟨h1, h2, fun hc => by rw [hU.2 hc] at h3; cases h3⟩
  · rintro ⟨h1, h2, h3⟩
    refine ⟨⟨h1, h2⟩, ?_⟩
    cases hs : su i with
    | false => rfl
    | true => exact absurd (hU.1 hs) h3

theorem ol_mem {f : Nat → Bool} {d : Cm} : d ∈ ol G f G.length ↔ ∃ i, ∃ hi : i < G.length, f i = true ∧ G[i] = d := by
  unfold ol
  rw [List.mem_map]
  constructor
  · rintro ⟨i, hi, e⟩
    obtain ⟨h1, h2⟩ := List.mem_filter.1 hi
    have hl := List.mem_range.1 h1
    exact ⟨i, hl, h2, by rw [← e]; simp [List.getD, hl]⟩
  · rintro ⟨i, hi, hf, e⟩
    exact ⟨i, List.mem_filter.2 ⟨List.mem_range.2 hi, hf⟩, by rw [← e]; simp [List.getD, hi]⟩

theorem ol_nodup (h : (G.map (·.id)).Nodup) (f : Nat → Bool) : (ol G f G.length).Nodup := by
  unfold ol
  rw [List.Nodup, List.pairwise_map]
  have h1 : ((List.range G.length).filter f).Nodup := List.Pairwise.filter _ List.nodup_range
  refine List.Pairwise.imp_of_mem ?_ h1
  intro i j hi hj hne e
  have hi' := List.mem_range.1 (List.mem_filter.1 hi).1
  have hj' := List.mem_range.1 (List.mem_filter.1 hj).1
  rw [show G.getD i (rootCm ⟨#[]⟩) = G[i] by simp [List.getD, hi'], show G.getD j (rootCm ⟨#[]⟩) = G[j] by simp [List.getD, hj']] at e
  exact hne (id_inj h hi' hj' (by rw [e]))

/-- At the end: what the walk has and what best lists are the same commits. -/
theorem end_perm (h : BG a b T G PI bi) (hg : Graded G PI) (hbi : bi < G.length) {K : Nat → Cm} {N : List Nd} {P C : List Nat} (hi : WInv G a G[bi] K N P C) (hk : NOk K N) (h8 : ∀ y ∈ N, y.p < 8) (hu : ∀ y ∈ N, y.q = true → y.p &&& 4 ≠ 0)
    {sa sb su : Nat → Bool} (hsa : ∀ i, sa i = true ↔ RI PI 0 i) (hsb : ∀ i, sb i = true ↔ RI PI bi i) (hsu : ∀ i, su i = true ↔ ∃ s ∈ bl PI (fun i => sa i && sb i) G.length, RI PI s i) :
    (C.map K).Perm (ol G (fun i => sa i && sb i && !su i) G.length) := by
  have hG := h.gra hg hbi
  have hCN : ∀ k ∈ C, ∃ y ∈ N, y.b = k := fun k hkC => hi.pin k (hi.csub k hkC)
  have hnd : (C.map K).Nodup := by
    rw [List.Nodup, List.pairwise_map]
    refine List.Pairwise.imp_of_mem ?_ hi.cnd
    intro k k' hk1 hk2 hne e
    obtain ⟨y, hy, rfl⟩ := hCN k hk1
    obtain ⟨y', hy', rfl⟩ := hCN k' hk2
    exact hne (hk.2 y hy y' hy' (by rw [e]))
  rw [List.perm_ext_iff_of_nodup hnd (ol_nodup h.nd _)]
  intro d
  rw [ol_mem, List.mem_map]
  constructor
  · rintro ⟨k, hkC, rfl⟩
    obtain ⟨y, hy, rfl⟩ := hCN k hkC
    obtain ⟨i, hil, e⟩ := List.mem_iff_getElem.1 (hi.inG y hy)
    refine ⟨i, hil, (best_iff h hbi hsa hsb hsu hil).2 ?_, e⟩
    rw [e]
    exact (hi.best hG hk h8 hu _ (hi.inG y hy)).2 ⟨y, hy, hkC, rfl⟩
  · rintro ⟨i, hil, hf, rfl⟩
    have := (best_iff h hbi hsa hsb hsu hil).1 hf
    obtain ⟨y, hy, hyC, e⟩ := (hi.best hG hk h8 hu _ (List.getElem_mem hil)).1 this
    exact ⟨y.b, hyC, e⟩

theorem end_same (h : BG a b T G PI bi) {f : Nat → Bool} {L1 L2 X : List Cm} (hX : X.Perm (ol G f G.length)) (h1 : L1.Perm X) (h2 : L2.Perm (ol G f G.length)) (s1 : L1.Pairwise nb) (s2 : L2.Pairwise nb) : L1 = L2 := by
  refine sorted_uniq (h1.trans (hX.trans h2.symm)) s1 s2 (fun x hx y hy e => ?_)
  have hx' := (h1.trans hX).mem_iff.1 hx
  have hy' := (h1.trans hX).mem_iff.1 hy
  obtain ⟨i, hi, _, rfl⟩ := ol_mem.1 hx'
  obtain ⟨j, hj, _, rfl⟩ := ol_mem.1 hy'
  have := id_inj h.nd hi hj e
  subst this
  rfl
end
end Go.Proofs.Qxb6605835a
