import Derived.Test.Qxb6605835aStepP
namespace Go.Proofs.Qxb6605835a
open Go.ChangeShapes Go.WideShapes Go.ChangeAt Go.RowKit
set_option linter.unusedVariables false

/-! ### The history as a graph, and the walk over a graded one -/
/-- From c one comes to e by parents, in any number of steps. -/
inductive Des (G : List Cm) : Cm → Cm → Prop
  | refl (c : Cm) : Des G c c
  | step {c d e : Cm} : Des G c d → e ∈ G → e.id ∈ d.ps → Des G c e

/-- .. in one step or more. -/
def Blw (G : List Cm) (c e : Cm) : Prop := ∃ d, Des G c d ∧ e ∈ G ∧ e.id ∈ d.ps

/-- All commits of G have a Generation, more than each parent's; G is closed; every ID of G once; what is neither a nor b is resolved by the table. -/
structure Gra (G : List Cm) (a b : Cm) (T : List Cm) : Prop where
  nd : ∀ c ∈ G, ∀ d ∈ G, c.id = d.id → c = d
  a0 : a ∈ G
  b0 : b ∈ G
  cl : ∀ c ∈ G, ∀ p ∈ c.ps, ∃ d ∈ G, d.id = p
  res : ∀ c ∈ G, c.id ≠ a.id → c.id ≠ b.id → c = resolveC T c.id
  gr : ∀ c ∈ G, c.gen ≠ 0
  fall : ∀ c ∈ G, ∀ d ∈ G, d.id ∈ c.ps → d.gen < c.gen

section
variable {G : List Cm} {a b : Cm} {T : List Cm}

theorem Des.mem {c e : Cm} (h : Des G c e) (hc : c ∈ G) : e ∈ G := by
  cases h with
  | refl => exact hc
  | step _ he _ => exact he

theorem Des.trans {c d e : Cm} (h : Des G c d) (k : Des G d e) : Des G c e := by
  induction k with
  | refl => exact h
  | step _ he hp ih => exact .step ih he hp

theorem Des.gen (hG : Gra G a b T) {c e : Cm} (h : Des G c e) (hc : c ∈ G) : e.gen ≤ c.gen := by
  induction h with
  | refl => exact Int.le_refl _
  | step h he hp ih =>
    have := hG.fall _ (h.mem hc) _ he hp
    omega

theorem Blw.gen (hG : Gra G a b T) {c e : Cm} (h : Blw G c e) (hc : c ∈ G) : e.gen < c.gen := by
  obtain ⟨d, h1, h2, h3⟩ := h
  have h4 := h1.gen hG hc
  have h5 := hG.fall _ (h1.mem hc) _ h2 h3
  omega

theorem Blw.des {c e : Cm} (h : Blw G c e) : Des G c e := by
  obtain ⟨d, h1, h2, h3⟩ := h
  exact .step h1 h2 h3

theorem Blw.down {c d e : Cm} (h : Blw G c d) (k : Des G d e) : Blw G c e := by
  cases k with
  | refl => exact h
  | step k he hp => exact ⟨_, h.des.trans k, he, hp⟩

theorem Des.blw {c d e : Cm} (h : Des G c d) (k : Blw G d e) : Blw G c e := by
  obtain ⟨d', h1, h2, h3⟩ := k
  exact ⟨d', h.trans h1, h2, h3⟩

/-- A best common ancestor. -/
def Best (G : List Cm) (a b d : Cm) : Prop := Des G a d ∧ Des G b d ∧ ¬ ∃ c ∈ G, Des G a c ∧ Des G b c ∧ Blw G c d

/-- What the walk keeps in a graded history: P is what was taken. -/
structure WInv (G : List Cm) (a b : Cm) (K : Nat → Cm) (N : List Nd) (P C : List Nat) : Prop where
  inG : ∀ y ∈ N, K y.b ∈ G
  nz : ∀ y ∈ N, y.p ≠ 0
  qp : ∀ y ∈ N, y.q = true ∨ y.b ∈ P
  pq : ∀ y ∈ N, y.b ∈ P → y.q = false
  pin : ∀ k ∈ P, ∃ y ∈ N, y.b = k
  pnd : P.Nodup
  ord : ∀ y ∈ N, y.q = true → ∀ z ∈ N, z.b ∈ P → (K y.b).gen ≤ (K z.b).gen
  stA : ∃ y ∈ N, K y.b = a ∧ y.p &&& 1 ≠ 0
  stB : ∃ y ∈ N, K y.b = b ∧ y.p &&& 2 ≠ 0
  pass : ∀ z ∈ N, z.b ∈ P → ∀ p ∈ (K z.b).ps, ∃ y ∈ N, (K y.b).id = p ∧ y.p ||| passed z.p = y.p
  sA : ∀ y ∈ N, y.p &&& 1 ≠ 0 → Des G a (K y.b)
  sB : ∀ y ∈ N, y.p &&& 2 ≠ 0 → Des G b (K y.b)
  sM : ∀ y ∈ N, y.p &&& 4 ≠ 0 → ∃ c ∈ G, Des G a c ∧ Des G b c ∧ Blw G c (K y.b)
  cin : ∀ y ∈ N, (y.b ∈ C ↔ y.b ∈ P ∧ becomes y.p = true)
  csub : ∀ k ∈ C, k ∈ P
  cnd : C.Nodup

theorem bit_or (m : Nat) (hm : m = 1 ∨ m = 2 ∨ m = 4) {p q : Nat} (hp : p < 8) (hq : q < 8) : (p ||| q) &&& m ≠ 0 ↔ p &&& m ≠ 0 ∨ q &&& m ≠ 0 := by
  have h : ∀ m ∈ [1, 2, 4], ∀ p q : Fin 8, (p.val ||| q.val) &&& m ≠ 0 ↔ p.val &&& m ≠ 0 ∨ q.val &&& m ≠ 0 := by decide +kernel
  exact h m (by rcases hm with rfl | rfl | rfl <;> simp) ⟨p, hp⟩ ⟨q, hq⟩

theorem passed_bits {p : Nat} (hp : p < 8) : passed p < 8 ∧ p ||| passed p = passed p ∧ (passed p &&& 1 ≠ 0 ↔ p &&& 1 ≠ 0) ∧ (passed p &&& 2 ≠ 0 ↔ p &&& 2 ≠ 0) ∧ (passed p &&& 4 ≠ 0 ↔ p &&& 4 ≠ 0 ∨ (p &&& 1 ≠ 0 ∧ p &&& 2 ≠ 0)) ∧ (p ≠ 0 → passed p ≠ 0) := by
  have h : ∀ p : Fin 8, passed p.val < 8 ∧ p.val ||| passed p.val = passed p.val ∧ (passed p.val &&& 1 ≠ 0 ↔ p.val &&& 1 ≠ 0) ∧ (passed p.val &&& 2 ≠ 0 ↔ p.val &&& 2 ≠ 0) ∧ (passed p.val &&& 4 ≠ 0 ↔ p.val &&& 4 ≠ 0 ∨ (p.val &&& 1 ≠ 0 ∧ p.val &&& 2 ≠ 0)) ∧ (p.val ≠ 0 → passed p.val ≠ 0) := by decide +kernel
  exact h ⟨p, hp⟩

theorem becomes_bits {p : Nat} (hp : p < 8) : becomes p = true ↔ p &&& 1 ≠ 0 ∧ p &&& 2 ≠ 0 ∧ p &&& 4 = 0 := by
  have h : ∀ p : Fin 8, becomes p.val = true ↔ p.val &&& 1 ≠ 0 ∧ p.val &&& 2 ≠ 0 ∧ p.val &&& 4 = 0 := by decide +kernel
  exact h ⟨p, hp⟩

variable {K : Nat → Cm} {N : List Nd} {P C : List Nat}

/-- Nothing queued lies above x: then the paint of x is complete. -/
theorem WInv.doneA (h : WInv G a b K N P C) (hG : Gra G a b T) (hk : NOk K N) (h8 : ∀ y ∈ N, y.p < 8) {m : Nat} (hm : m = 1 ∨ m = 2) {s : Cm} (hs : ∃ y ∈ N, K y.b = s ∧ y.p &&& m ≠ 0) {d : Cm} (hd : Des G s d) (hq : ∀ z ∈ N, Blw G (K z.b) d → Des G s (K z.b) → z.q = false) : ∃ y ∈ N, K y.b = d ∧ y.p &&& m ≠ 0 := by
  induction hd with
  | refl => exact hs
  | @step d e hcd he hp ih =>
    obtain ⟨y, hy, e1, hb⟩ := ih (fun z hz hbz hsz => hq z hz (hbz.down (.step (.refl _) he hp)) hsz)
    have hyq : y.q = false := hq y hy (by rw [e1]; exact ⟨d, .refl _, he, hp⟩) (by rw [e1]; exact hcd)
    have hyp : y.b ∈ P := by
      rcases h.qp y hy with h' | h'
      · rw [hyq] at h'; cases h'
      · exact h'
    obtain ⟨y', hy', e2, hb'⟩ := h.pass y hy hyp e.id (by rw [e1]; exact hp)
    have e3 : K y'.b = e := hG.nd _ (h.inG y' hy') _ he e2
    refine ⟨y', hy', e3, ?_⟩
    rw [← hb', bit_or m (by omega) (h8 y' hy') (passed_bits (h8 y hy)).1]
    right
    rcases hm with rfl | rfl
    · exact (passed_bits (h8 y hy)).2.2.1.2 hb
    · exact (passed_bits (h8 y hy)).2.2.2.1.2 hb

theorem WInv.doneM (h : WInv G a b K N P C) (hG : Gra G a b T) (hk : NOk K N) (h8 : ∀ y ∈ N, y.p < 8) {c d : Cm} (hc : c ∈ G) (ha : Des G a c) (hb : Des G b c) (hd : Blw G c d) (hq : ∀ z ∈ N, Blw G (K z.b) d → z.q = false) : ∃ y ∈ N, K y.b = d ∧ y.p &&& 4 ≠ 0 := by
  obtain ⟨e, hce, hdG, hp⟩ := hd
  have hbd : Blw G c d := ⟨e, hce, hdG, hp⟩
  -- every commit from c down to e is a node that was taken and passes the mark on
  have key : ∀ e, Des G c e → Des G e d → ¬ e = d → ∃ y ∈ N, K y.b = e ∧ y.b ∈ P ∧ passed y.p &&& 4 ≠ 0 := by
    intro e he
    induction he with
    | refl =>
      intro hed hne
      have hbl : Blw G c d := by
        cases hed with
        | refl => exact absurd rfl hne
        | step h1 h2 h3 => exact ⟨_, h1, h2, h3⟩
      obtain ⟨y, hy, e1, b1⟩ := h.doneA hG hk h8 (.inl rfl) h.stA ha (fun z hz hbz _ => hq z hz (hbz.down hed))
      obtain ⟨y', hy', e2, b2⟩ := h.doneA hG hk h8 (.inr rfl) h.stB hb (fun z hz hbz _ => hq z hz (hbz.down hed))
      have : y = y' := hk.uniq hy hy' (hk.2 y hy y' hy' (by rw [e1, e2]))
      subst this
      refine ⟨y, hy, e1, ?_, (passed_bits (h8 y hy)).2.2.2.2.1.2 (.inr ⟨b1, b2⟩)⟩
      have hyq := hq y hy (by rw [e1]; exact hbl)
      rcases h.qp y hy with h' | h'
      · rw [hyq] at h'; cases h'
      · exact h'
    | @step f g hcf hg hpg ih =>
      intro hgd hne
      have hfd : Des G f d := (Des.step (.refl _) hg hpg).trans hgd
      have hfG : f ∈ G := hcf.mem hc
      have hne' : ¬ f = d := fun e => by
        subst e
        have h1 := hG.fall _ hfG _ hg hpg
        have h2 := hgd.gen hG hg
        omega
      obtain ⟨y, hy, e1, hyP, hb4⟩ := ih hfd hne'
      obtain ⟨y', hy', e2, hb'⟩ := h.pass y hy hyP g.id (by rw [e1]; exact hpg)
      have e3 : K y'.b = g := hG.nd _ (h.inG y' hy') _ hg e2
      have hb4' : y'.p &&& 4 ≠ 0 := by
        rw [← hb', bit_or 4 (by omega) (h8 y' hy') (passed_bits (h8 y hy)).1]
        exact .inr hb4
      have hbl : Blw G g d := by
        cases hgd with
        | refl => exact absurd rfl hne
        | step h1 h2 h3 => exact ⟨_, h1, h2, h3⟩
      refine ⟨y', hy', e3, ?_, (passed_bits (h8 y' hy')).2.2.2.2.1.2 (.inl hb4')⟩
      have hyq := hq y' hy' (by rw [e3]; exact hbl)
      rcases h.qp y' hy' with h' | h'
      · rw [hyq] at h'; cases h'
      · exact h'
  have heG : e ∈ G := hce.mem hc
  have hne : ¬ e = d := fun h' => by
    subst h'
    have := hG.fall _ heG _ heG hp
    omega
  obtain ⟨y, hy, e1, hyP, hb4⟩ := key e hce (.step (.refl _) hdG hp) hne
  obtain ⟨y', hy', e2, hb'⟩ := h.pass y hy hyP d.id (by rw [e1]; exact hp)
  have e3 : K y'.b = d := hG.nd _ (h.inG y' hy') _ hdG e2
  refine ⟨y', hy', e3, ?_⟩
  rw [← hb', bit_or 4 (by omega) (h8 y' hy') (passed_bits (h8 y hy)).1]
  exact .inr hb4

/-- At the walk's end the candidates are the best common ancestors. -/
theorem WInv.best (h : WInv G a b K N P C) (hG : Gra G a b T) (hk : NOk K N) (h8 : ∀ y ∈ N, y.p < 8) (hu : ∀ y ∈ N, y.q = true → y.p &&& 4 ≠ 0) (d : Cm) (hd : d ∈ G) : Best G a b d ↔ ∃ y ∈ N, y.b ∈ C ∧ K y.b = d := by
  constructor
  · rintro ⟨ha, hb, hno⟩
    have hnq : ∀ z ∈ N, Blw G (K z.b) d → z.q = false := fun z hz hbz => by
      cases hzq : z.q with
      | false => rfl
      | true =>
        obtain ⟨c, hc, h1, h2, h3⟩ := h.sM z hz (hu z hz hzq)
        exact absurd ⟨c, hc, h1, h2, h3.down hbz.des⟩ hno
    obtain ⟨y, hy, e1, b1⟩ := h.doneA hG hk h8 (.inl rfl) h.stA ha (fun z hz hbz _ => hnq z hz hbz)
    obtain ⟨y', hy', e2, b2⟩ := h.doneA hG hk h8 (.inr rfl) h.stB hb (fun z hz hbz _ => hnq z hz hbz)
    have : y = y' := hk.uniq hy hy' (hk.2 y hy y' hy' (by rw [e1, e2]))
    subst this
    have b4 : y.p &&& 4 = 0 := by
      rcases Nat.eq_zero_or_pos (y.p &&& 4) with h0 | h0
      · exact h0
      · obtain ⟨c, hc, h1, h2, h3⟩ := h.sM y hy (by omega)
        rw [e1] at h3
        exact absurd ⟨c, hc, h1, h2, h3⟩ hno
    have hyP : y.b ∈ P := by
      rcases h.qp y hy with h' | h'
      · exact absurd b4 (hu y hy h')
      · exact h'
    exact ⟨y, hy, (h.cin y hy).2 ⟨hyP, (becomes_bits (h8 y hy)).2 ⟨b1, b2, b4⟩⟩, e1⟩
  · rintro ⟨y, hy, hyC, e1⟩
    obtain ⟨hyP, hbc⟩ := (h.cin y hy).1 hyC
    obtain ⟨b1, b2, b4⟩ := (becomes_bits (h8 y hy)).1 hbc
    refine ⟨e1 ▸ h.sA y hy b1, e1 ▸ h.sB y hy b2, ?_⟩
    rintro ⟨c, hc, h1, h2, h3⟩
    obtain ⟨y', hy', e2, b'⟩ := h.doneM hG hk h8 hc h1 h2 h3 (fun z hz hbz => by
      cases hzq : z.q with
      | false => rfl
      | true =>
        have h4 := h.ord z hz hzq y hy hyP
        have h5 := hbz.gen hG (h.inG z hz)
        rw [← e1] at h5
        omega)
    have : y = y' := hk.uniq hy hy' (hk.2 y hy y' hy' (by rw [e1, e2]))
    subst this
    exact b' b4
end
end Go.Proofs.Qxb6605835a
