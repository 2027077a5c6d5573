import Derived.Test.Qxb6605835aGr
namespace Go.Proofs.Qxb6605835a
open Go.ChangeShapes Go.WideShapes Go.ChangeAt Go.RowKit
set_option linter.unusedVariables false

section
variable {G : List Cm} {a b : Cm} {T : List Cm} {K K' : Nat → Cm} {N M : List Nd} {P C : List Nat} {ung ung' : Bool} {x : Nd}

/-- A node behind a step: an old one, or a new one. -/
theorem stepN_cases {y' : Nd} (h : y' ∈ stepN K N x M) : (∃ y ∈ N, y' = after1 K x y) ∨ ∃ z ∈ M, y' = paintNd (passed x.p) z := by
  rw [stepN_eq] at h
  rcases List.mem_append.1 h with h | h
  · obtain ⟨y, hy, rfl⟩ := List.mem_map.1 h
    exact .inl ⟨y, hy, rfl⟩
  · obtain ⟨z, hz, rfl⟩ := List.mem_map.1 h
    exact .inr ⟨z, hz, rfl⟩

theorem stepN_old {y : Nd} (hy : y ∈ N) : after1 K x y ∈ stepN K N x M := by
  rw [stepN_eq]
  exact List.mem_append.2 (.inl (List.mem_map.2 ⟨y, hy, rfl⟩))

theorem stepN_new {z : Nd} (hz : z ∈ M) : paintNd (passed x.p) z ∈ stepN K N x M := by
  rw [stepN_eq]
  exact List.mem_append.2 (.inr (List.mem_map.2 ⟨z, hz, rfl⟩))

theorem WInv.step (h : WInv G a b K N P C) (hG : Gra G a b T) (hk : NOk K N) (h8 : ∀ y ∈ N, y.p < 8) (hx : x ∈ N) (hxq : x.q = true) (htop : ∀ y ∈ N, y.q = true → (K y.b).gen ≤ (K x.b).gen)
    (hp : PInv T (passed x.p) K (setNd N x.b (offNd x)) ung (K x.b).ps K' M ung') (hk' : NOk K' (stepN K N x M)) : WInv G a b K' (stepN K N x M) (P ++ [x.b]) (if becomes x.p = true then C ++ [x.b] else C) := by
  have hxP : x.b ∉ P := fun hp => by
    have := h.pq x hx hp
    rw [hxq] at this
    cases this
  have hxC : x.b ∉ C := fun hc => hxP (h.csub _ hc)
  have hxG := h.inG x hx
  have hx8 := h8 x hx
  have hpd := passed_bits hx8
  have hpd8 := hpd.1
  have hK : ∀ y ∈ N, K' y.b = K y.b := fun y hy => step_keep hp hy
  -- what the step does to an old node
  have hself : hasId (K x.b).ps (K x.b).id = false := by
    cases e : hasId (K x.b).ps (K x.b).id with
    | false => rfl
    | true =>
      have := hG.fall _ hxG _ hxG (hasId_iff.1 e)
      omega
  have hax : after1 K x x = ⟨x.b, x.p, false⟩ := by
    unfold after1
    rw [hself]
    simp [offNd]
  have hno : ∀ y ∈ N, hasId (K x.b).ps (K y.b).id = true → y.b ∉ P := fun y hy hh hyP => by
    have h1 := hG.fall _ hxG _ (h.inG y hy) (hasId_iff.1 hh)
    have h2 := h.ord x hx hxq y hy hyP
    omega
  have hne : ∀ y ∈ N, y.b ≠ x.b → after1 K x y = if hasId (K x.b).ps (K y.b).id then paintNd (passed x.p) y else y := fun y hy e => by
    unfold after1
    simp [e]
  have hpar : ∀ y ∈ N, y.b ≠ x.b → hasId (K x.b).ps (K y.b).id = true → (K y.b).gen < (K x.b).gen := fun y hy _ hh => hG.fall _ hxG _ (h.inG y hy) (hasId_iff.1 hh)
  have hold : ∀ y ∈ N, ∀ m, (m = 1 ∨ m = 2 ∨ m = 4) → (after1 K x y).p &&& m ≠ 0 → y.p &&& m ≠ 0 ∨ (hasId (K x.b).ps (K y.b).id = true ∧ passed x.p &&& m ≠ 0) := fun y hy m hm hb => by
    by_cases e : y.b = x.b
    · have := hk.uniq hy hx e
      subst this
      rw [hax] at hb
      exact .inl hb
    · rw [hne y hy e] at hb
      cases hh : hasId (K x.b).ps (K y.b).id with
      | false => rw [hh] at hb; exact .inl hb
      | true =>
        rw [hh] at hb
        simp only [if_true] at hb
        rw [paintNd_p, bit_or m hm (h8 y hy) hpd8] at hb
        rcases hb with hb | hb
        · exact .inl hb
        · exact .inr ⟨rfl, hb⟩
  have hgrow : ∀ y ∈ N, y.p ||| (after1 K x y).p = (after1 K x y).p := fun y hy => by
    by_cases e : y.b = x.b
    · have := hk.uniq hy hx e
      subst this
      rw [hax]
      simp
    · rw [hne y hy e]
      cases hasId (K x.b).ps (K y.b).id with
      | false => simp
      | true =>
        simp only [if_true]
        rw [paintNd_p, ← Nat.or_assoc, Nat.or_self]
  -- the new nodes
  have hnew : ∀ z ∈ M, K' z.b ∈ G ∧ (K' z.b).id ∈ (K x.b).ps ∧ (paintNd (passed x.p) z).p = passed x.p ∧ (paintNd (passed x.p) z).q = true := fun z hz => by
    obtain ⟨z0, zq, zi, zr, zn⟩ := hp.fresh z hz
    have hid := hasId_iff.1 zi
    have hnn : ∀ y ∈ N, (K y.b).id ≠ (K' z.b).id := fun y hy e => by
      obtain ⟨y', hy', e'⟩ := setNd_ids.2 ⟨y, hy, e⟩
      exact zn y' hy' e'
    obtain ⟨d, hd, e⟩ := hG.cl _ hxG _ hid
    have hda : d.id ≠ a.id := fun e' => by
      obtain ⟨y, hy, ey, _⟩ := h.stA
      exact hnn y hy (by rw [ey, ← e', e])
    have hdb : d.id ≠ b.id := fun e' => by
      obtain ⟨y, hy, ey, _⟩ := h.stB
      exact hnn y hy (by rw [ey, ← e', e])
    have : d = K' z.b := by
      rw [hG.res d hd hda hdb, zr, e]
    refine ⟨this ▸ hd, hid, by rw [paintNd_p, z0]; simp, ?_⟩
    rw [paintNd_q, z0, zq]
    simp [hpd.2.2.2.2.2 (h.nz x hx)]
  have hnb : ∀ z ∈ M, ∀ y ∈ N, z.b ≠ y.b := fun z hz y hy e => by
    have h1 := hk'.uniq (stepN_new (K := K) (N := N) (x := x) hz) (stepN_old (M := M) (K := K) (x := x) hy) (by rw [paintNd_b, after1_b]; exact e)
    have h2 := (hp.fresh z hz).2.2.2.2
    obtain ⟨y', hy', e'⟩ := setNd_ids.2 ⟨y, hy, rfl⟩
    refine h2 y' hy' ?_
    rw [e', ← hK y hy, e]
  have hnP : ∀ z ∈ M, z.b ∉ P ++ [x.b] := fun z hz hin => by
    rcases List.mem_append.1 hin with hin | hin
    · obtain ⟨y, hy, e⟩ := h.pin _ hin
      exact hnb z hz y hy e.symm
    · simp at hin
      exact hnb z hz x hx hin
  have hqold : ∀ y ∈ N, y.b ≠ x.b → y.q = true → (after1 K x y).q = true := fun y hy e hq => by
    rw [hne y hy e]
    cases hasId (K x.b).ps (K y.b).id with
    | false => simpa using hq
    | true => simp only [if_true]; rw [paintNd_q, hq]; rfl
  have hPold : ∀ y ∈ N, y.b ∈ P → after1 K x y = y := fun y hy hyP => by
    have e : y.b ≠ x.b := fun e => hxP (e ▸ hyP)
    rw [hne y hy e]
    cases hh : hasId (K x.b).ps (K y.b).id with
    | false => simp
    | true => exact absurd hyP (hno y hy hh)
  have hqn : ∀ y ∈ N, (after1 K x y).q = true → y.b ≠ x.b ∧ (K y.b).gen ≤ (K x.b).gen ∧ (y.q = true ∨ (K y.b).gen < (K x.b).gen) := fun y hy hq => by
    by_cases e : y.b = x.b
    · have := hk.uniq hy hx e
      subst this
      rw [hax] at hq
      cases hq
    · rw [hne y hy e] at hq
      cases hh : hasId (K x.b).ps (K y.b).id with
      | false =>
        rw [hh] at hq
        have hq' : y.q = true := by simpa using hq
        exact ⟨e, htop y hy hq', .inl hq'⟩
      | true =>
        have := hpar y hy e hh
        exact ⟨e, by omega, .inr this⟩
  refine ⟨?_, ?_, ?_, ?_, ?_, ?_, ?_, ?_, ?_, ?_, ?_, ?_, ?_, ?_, ?_, ?_⟩
  · intro y' hy'
    rcases stepN_cases hy' with ⟨y, hy, rfl⟩ | ⟨z, hz, rfl⟩
    · rw [after1_b, hK y hy]; exact h.inG y hy
    · rw [paintNd_b]; exact (hnew z hz).1
  · intro y' hy'
    rcases stepN_cases hy' with ⟨y, hy, rfl⟩ | ⟨z, hz, rfl⟩
    · intro e
      have := hgrow y hy
      rw [e] at this
      simp at this
      exact h.nz y hy this
    · rw [(hnew z hz).2.2.1]
      exact hpd.2.2.2.2.2 (h.nz x hx)
  · intro y' hy'
    rcases stepN_cases hy' with ⟨y, hy, rfl⟩ | ⟨z, hz, rfl⟩
    · rw [after1_b]
      by_cases e : y.b = x.b
      · right; simp [e]
      · rcases h.qp y hy with h' | h'
        · exact .inl (hqold y hy e h')
        · right; simp [h']
    · exact .inl (hnew z hz).2.2.2
  · intro y' hy' hin
    rcases stepN_cases hy' with ⟨y, hy, rfl⟩ | ⟨z, hz, rfl⟩
    · rw [after1_b] at hin
      rcases List.mem_append.1 hin with hin | hin
      · rw [hPold y hy hin]; exact h.pq y hy hin
      · have e : y.b = x.b := by simpa using hin
        have := hk.uniq hy hx e
        subst this
        rw [hax]
    · rw [paintNd_b] at hin
      exact absurd hin (hnP z hz)
  · intro k hk1
    rcases List.mem_append.1 hk1 with hk1 | hk1
    · obtain ⟨y, hy, rfl⟩ := h.pin k hk1
      exact ⟨_, stepN_old hy, after1_b _ _ _⟩
    · simp at hk1
      subst hk1
      exact ⟨_, stepN_old hx, after1_b _ _ _⟩
  · rw [List.nodup_append]
    refine ⟨h.pnd, by simp, fun k hk1 k' hk2 => ?_⟩
    simp at hk2
    subst hk2
    exact fun e => hxP (e ▸ hk1)
  · intro y' hy' hq z' hz' hin
    have hgy : (K' y'.b).gen ≤ (K x.b).gen ∧ ∀ z ∈ N, z.b ∈ P → (K' y'.b).gen ≤ (K z.b).gen := by
      rcases stepN_cases hy' with ⟨y, hy, rfl⟩ | ⟨z, hz, rfl⟩
      · obtain ⟨_, h1, h2⟩ := hqn y hy hq
        rw [after1_b, hK y hy]
        refine ⟨h1, fun z hz hzP => ?_⟩
        rcases h2 with h2 | h2
        · exact h.ord y hy h2 z hz hzP
        · have := h.ord x hx hxq z hz hzP
          omega
      · rw [paintNd_b]
        have h1 := hG.fall _ hxG _ (hnew z hz).1 (hnew z hz).2.1
        refine ⟨by omega, fun y hy hyP => ?_⟩
        have := h.ord x hx hxq y hy hyP
        omega
    rcases stepN_cases hz' with ⟨z, hz, rfl⟩ | ⟨z, hz, rfl⟩
    · rw [after1_b] at hin ⊢
      rw [hK z hz]
      rcases List.mem_append.1 hin with hin | hin
      · exact hgy.2 z hz hin
      · have e : z.b = x.b := by simpa using hin
        rw [e]; exact hgy.1
    · rw [paintNd_b] at hin
      exact absurd hin (hnP z hz)
  · obtain ⟨y, hy, e, hb⟩ := h.stA
    refine ⟨_, stepN_old hy, by rw [after1_b, hK y hy]; exact e, ?_⟩
    have := hgrow y hy
    intro h0
    rw [← this] at h0
    rw [Nat.and_or_distrib_right, Nat.or_eq_zero_iff] at h0
    exact hb h0.1
  · obtain ⟨y, hy, e, hb⟩ := h.stB
    refine ⟨_, stepN_old hy, by rw [after1_b, hK y hy]; exact e, ?_⟩
    have := hgrow y hy
    intro h0
    rw [← this] at h0
    rw [Nat.and_or_distrib_right, Nat.or_eq_zero_iff] at h0
    exact hb h0.1
  · intro z' hz' hin p hpp
    rcases stepN_cases hz' with ⟨z, hz, rfl⟩ | ⟨z, hz, rfl⟩
    · rw [after1_b] at hin hpp
      rw [hK z hz] at hpp
      rcases List.mem_append.1 hin with hin | hin
      · obtain ⟨y, hy, e, hb⟩ := h.pass z hz hin p hpp
        refine ⟨_, stepN_old hy, by rw [after1_b, hK y hy]; exact e, ?_⟩
        rw [hPold z hz hin, ← hgrow y hy]
        conv => rhs; rw [← hb]
        rw [Nat.or_assoc, Nat.or_assoc, Nat.or_comm _ (passed z.p)]
      · have e : z.b = x.b := by simpa using hin
        have := hk.uniq hz hx e
        subst this
        rw [hax]
        show ∃ y ∈ stepN K N z M, (K' y.b).id = p ∧ y.p ||| passed z.p = y.p
        rcases hp.all p (hasId_iff.2 hpp) with ha | ⟨m, hm, em⟩
        · obtain ⟨y, hy, ey⟩ := setNd_ids.1 ha
          refine ⟨_, stepN_old hy, by rw [after1_b, hK y hy]; exact ey, ?_⟩
          have hyx : y.b ≠ z.b := fun e' => by
            have := hk.uniq hy hz e'
            subst this
            rw [← ey] at hpp
            rw [hasId_iff.2 hpp] at hself
            cases hself
          rw [hne y hy hyx, ey, hasId_iff.2 hpp]
          simp only [if_true]
          rw [paintNd_p, Nat.or_assoc, Nat.or_self]
        · refine ⟨_, stepN_new hm, by rw [paintNd_b]; exact em, ?_⟩
          rw [(hnew m hm).2.2.1, Nat.or_self]
    · rw [paintNd_b] at hin
      exact absurd hin (hnP z hz)
  · intro y' hy' hb
    rcases stepN_cases hy' with ⟨y, hy, rfl⟩ | ⟨z, hz, rfl⟩
    · rw [after1_b, hK y hy]
      rcases hold y hy 1 (.inl rfl) hb with hb | ⟨hh, hb⟩
      · exact h.sA y hy hb
      · exact .step (h.sA x hx (hpd.2.2.1.1 hb)) (h.inG y hy) (hasId_iff.1 hh)
    · rw [paintNd_b]
      rw [(hnew z hz).2.2.1] at hb
      exact .step (h.sA x hx (hpd.2.2.1.1 hb)) (hnew z hz).1 (hnew z hz).2.1
  · intro y' hy' hb
    rcases stepN_cases hy' with ⟨y, hy, rfl⟩ | ⟨z, hz, rfl⟩
    · rw [after1_b, hK y hy]
      rcases hold y hy 2 (.inr (.inl rfl)) hb with hb | ⟨hh, hb⟩
      · exact h.sB y hy hb
      · exact .step (h.sB x hx (hpd.2.2.2.1.1 hb)) (h.inG y hy) (hasId_iff.1 hh)
    · rw [paintNd_b]
      rw [(hnew z hz).2.2.1] at hb
      exact .step (h.sB x hx (hpd.2.2.2.1.1 hb)) (hnew z hz).1 (hnew z hz).2.1
  · have hM : passed x.p &&& 4 ≠ 0 → ∀ e ∈ G, e.id ∈ (K x.b).ps → ∃ c ∈ G, Des G a c ∧ Des G b c ∧ Blw G c e := fun hb e he hpe => by
      rcases hpd.2.2.2.2.1.1 hb with h4 | ⟨h1, h2⟩
      · obtain ⟨c, hc, e1, e2, e3⟩ := h.sM x hx h4
        exact ⟨c, hc, e1, e2, e3.down (.step (.refl _) he hpe)⟩
      · exact ⟨K x.b, hxG, h.sA x hx h1, h.sB x hx h2, K x.b, .refl _, he, hpe⟩
    intro y' hy' hb
    rcases stepN_cases hy' with ⟨y, hy, rfl⟩ | ⟨z, hz, rfl⟩
    · rw [after1_b, hK y hy]
      rcases hold y hy 4 (.inr (.inr rfl)) hb with hb | ⟨hh, hb⟩
      · exact h.sM y hy hb
      · exact hM hb _ (h.inG y hy) (hasId_iff.1 hh)
    · rw [paintNd_b]
      rw [(hnew z hz).2.2.1] at hb
      exact hM hb _ (hnew z hz).1 (hnew z hz).2.1
  · have hCm : ∀ k, k ∈ (if becomes x.p = true then C ++ [x.b] else C) ↔ k ∈ C ∨ (k = x.b ∧ becomes x.p = true) := fun k => by
      split
      · next hb => simp [hb]
      · next hb => simp [hb]
    intro y' hy'
    rw [hCm]
    rcases stepN_cases hy' with ⟨y, hy, rfl⟩ | ⟨z, hz, rfl⟩
    · rw [after1_b]
      by_cases e : y.b = x.b
      · have := hk.uniq hy hx e
        subst this
        rw [hax]
        constructor
        · rintro (hc | ⟨_, hb⟩)
          · exact absurd hc hxC
          · exact ⟨by simp, hb⟩
        · rintro ⟨_, hb⟩
          exact .inr ⟨rfl, hb⟩
      · constructor
        · rintro (hc | ⟨he, _⟩)
          · obtain ⟨h1, h2⟩ := (h.cin y hy).1 hc
            rw [hPold y hy h1]
            exact ⟨by simp [h1], h2⟩
          · exact absurd he e
        · rintro ⟨hin, hb⟩
          rcases List.mem_append.1 hin with hin | hin
          · rw [hPold y hy hin] at hb
            exact .inl ((h.cin y hy).2 ⟨hin, hb⟩)
          · simp at hin
            exact absurd hin e
    · rw [paintNd_b]
      constructor
      · rintro (hc | ⟨he, _⟩)
        · exact absurd (List.mem_append.2 (.inl (h.csub _ hc))) (hnP z hz)
        · exact absurd he (hnb z hz x hx)
      · rintro ⟨hin, _⟩
        exact absurd hin (hnP z hz)
  · intro k hkc
    split at hkc
    · rcases List.mem_append.1 hkc with hkc | hkc
      · exact List.mem_append.2 (.inl (h.csub k hkc))
      · exact List.mem_append.2 (.inr hkc)
    · exact List.mem_append.2 (.inl (h.csub k hkc))
  · split
    · rw [List.nodup_append]
      refine ⟨h.cnd, by simp, fun k hk1 k' hk2 => ?_⟩
      simp at hk2
      subst hk2
      exact fun e => hxC (e ▸ hk1)
    · exact h.cnd
end
end Go.Proofs.Qxb6605835a
