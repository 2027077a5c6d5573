import Derived.Test.Qxb6605835aGh
namespace Go.Proofs.Qxb6605835a
open Go.ChangeShapes Go.WideShapes Go.ChangeAt Go.RowKit
set_option linter.unusedVariables false

/-! ### The order of the results -/
def zg (c : Cm) : Cm := { c with gen := 0 }

theorem before_less (x y : Cm) : x.before y = (zg x).less (zg y) := by
  unfold Cm.before Cm.less Cm.key zg
  simp only [if_true]

theorem before_tr {a b c : Cm} (h1 : b.before a = false) (h2 : c.before b = false) : c.before a = false := by
  rw [before_less] at *
  exact Cm.less_tr _ _ _ h1 h2

theorem before_asym {a b : Cm} (h : a.before b = true) : b.before a = false := by
  rw [before_less] at *
  exact Cm.less_asym _ _ h

theorem before_anti {a b : Cm} (h1 : a.before b = false) (h2 : b.before a = false) : a.id = b.id := by
  rw [before_less] at *
  exact (Cm.less_antisym _ _ h1 h2).2

/-- The later one does not come before the earlier one. -/
def nb (x y : Cm) : Prop := y.before x = false

/-- Two sorted rows of the same commits, every ID once, are one. -/
theorem sorted_uniq : ∀ {l m : List Cm}, l.Perm m → l.Pairwise nb → m.Pairwise nb → (∀ x ∈ l, ∀ y ∈ l, x.id = y.id → x = y) → l = m
  | [], m, hp, _, _, _ => (List.nil_perm.1 hp).symm
  | x :: l, m, hp, hl, hm, hid => by
    cases m with
    | nil => exact absurd hp.symm (by simp)
    | cons y m =>
      have hxm : x ∈ y :: m := hp.mem_iff.1 (by simp)
      have hyl : y ∈ x :: l := hp.mem_iff.2 (by simp)
      have hl' := List.pairwise_cons.1 hl
      have hm' := List.pairwise_cons.1 hm
      have hxy : x = y := by
        rcases List.mem_cons.1 hxm with e | hx
        · exact e
        · rcases List.mem_cons.1 hyl with e | hy
          · exact e.symm
          · exact hid x (by simp) y hyl (before_anti (hm'.1 x hx) (hl'.1 y hy))
      subst hxy
      rw [sorted_uniq (List.Perm.cons_inv hp) hl'.2 hm'.2 (fun a ha b hb => hid a (by simp [ha]) b (by simp [hb]))]

/-- The first i sorted. -/
def SO (L0 L : List Cm) (i : Nat) : Prop := L.Perm L0 ∧ (L.take i).Pairwise nb
/-- .. and the next one on its way down, at j. -/
def SI (L0 L : List Cm) (i j : Nat) : Prop := L.Perm L0 ∧ ∃ A x Bs R, L = A ++ x :: (Bs ++ R) ∧ A.length = j ∧ j + Bs.length = i ∧ (A ++ Bs).Pairwise nb ∧ ∀ y ∈ Bs, y.before x = false

theorem SO.begin {L0 L : List Cm} {i : Nat} (h : SO L0 L i) (hi : i < L.length) : SI L0 L i i := by
  refine ⟨h.1, L.take i, L[i], [], L.drop (i + 1), ?_, by simp; omega, by simp, by simpa using h.2, fun y hy => by simp at hy⟩
  rw [List.nil_append, List.getElem_cons_drop, List.take_append_drop]

theorem SI.at {L0 L : List Cm} {i j : Nat} (h : SI L0 L i (j + 1)) (hj : j + 1 < L.length) (hj' : j < L.length) : (L[j + 1].before L[j] = false → SO L0 L (i + 1)) ∧ (L[j + 1].before L[j] = true → SI L0 ((L.set (j + 1) L[j]).set j L[j + 1]) i j) := by
  obtain ⟨hp, A, x, Bs, R, rfl, hA, hB, hs, hx⟩ := h
  rcases List.eq_nil_or_concat A with rfl | ⟨A', y, hcat⟩
  · simp at hA
  · rw [List.concat_eq_append] at hcat
    subst hcat
    have hA' : A'.length = j := by simpa using hA
    have e1 : (A' ++ [y] ++ x :: (Bs ++ R))[j + 1] = x := by
      rw [List.getElem_append_right (by simp; omega)]
      simp [hA']
    have e2 : (A' ++ [y] ++ x :: (Bs ++ R))[j] = y := by
      rw [List.getElem_append_left (by simp; omega), List.getElem_append_right (by omega)]
      simp [hA']
    rw [e1, e2]
    constructor
    · intro hb
      refine ⟨hp, ?_⟩
      have ht : (A' ++ [y] ++ x :: (Bs ++ R)).take (i + 1) = A' ++ [y] ++ x :: Bs := by
        rw [List.take_append, List.take_of_length_le (by simp; omega)]
        congr 1
        have : i + 1 - (A' ++ [y]).length = Bs.length + 1 := by simp; omega
        rw [this, List.take_succ_cons, List.take_append_of_le_length (Nat.le_refl _), List.take_of_length_le (Nat.le_refl _)]
      rw [ht, List.pairwise_append]
      rw [List.pairwise_append] at hs
      obtain ⟨s1, s2, s3⟩ := hs
      refine ⟨s1, List.pairwise_cons.2 ⟨hx, s2⟩, fun u hu v hv => ?_⟩
      rcases List.mem_cons.1 hv with rfl | hv
      · rcases List.mem_append.1 hu with hu | hu
        · have hyu : nb u y := (List.pairwise_append.1 s1).2.2 u hu y (by simp)
          exact before_tr hyu hb
        · simp at hu
          subst hu
          exact hb
      · exact s3 u hu v hv
    · intro hb
      have hset : ((A' ++ [y] ++ x :: (Bs ++ R)).set (j + 1) y).set j x = A' ++ x :: ((y :: Bs) ++ R) := by
        rw [List.append_assoc, List.set_append_right _ _ (by omega), List.set_append_right _ _ (by omega)]
        have h1 : j + 1 - A'.length = 1 := by omega
        have h2 : j - A'.length = 0 := by omega
        rw [h1, h2]
        rfl
      rw [hset]
      refine ⟨List.Perm.trans ?_ hp, A', x, y :: Bs, R, rfl, hA', by simp at hA ⊢; omega, ?_, fun z hz => ?_⟩
      · rw [List.append_assoc]
        refine List.Perm.append_left _ ?_
        simp only [List.cons_append, List.nil_append]
        exact List.Perm.swap _ _ _
      · rw [List.append_assoc] at hs
        exact hs
      · rcases List.mem_cons.1 hz with rfl | hz
        · exact before_asym hb
        · exact hx z hz

theorem SI.zero {L0 L : List Cm} {i : Nat} (h : SI L0 L i 0) : SO L0 L (i + 1) := by
  obtain ⟨hp, A, x, Bs, R, rfl, hA, hB, hs, hx⟩ := h
  have : A = [] := List.eq_nil_of_length_eq_zero hA
  subst this
  refine ⟨hp, ?_⟩
  rw [List.nil_append, List.take_succ_cons, List.take_append_of_le_length (by omega), List.take_of_length_le (by omega)]
  exact List.pairwise_cons.2 ⟨hx, by simpa using hs⟩

theorem SI.len {L0 L : List Cm} {i j : Nat} (h : SI L0 L i j) : i < L.length ∧ j ≤ i := by
  obtain ⟨hp, A, x, Bs, R, rfl, hA, hB, hs, hx⟩ := h
  simp
  omega

/-! ### A row of commits in memory -/
def CRow (w : World) (ob : Nat) (L : List Cm) : Prop := ∃ arr, Blk w ob 39 arr ∧ L.length * 8 ≤ arr.size ∧ ∀ i (h : i < L.length), CArr arr (i * 8) L[i]

theorem CRow.at {w : World} {ob : Nat} {L : List Cm} (h : CRow w ob L) {i : Nat} (hi : i < L.length) : CAt w ob (i * 8) L[i] := by
  obtain ⟨arr, hb, _, hc⟩ := h
  obtain ⟨c0, c1, c2, c3, c4, c5, c6, c7⟩ := hc i hi
  exact ⟨(hb.cell _).trans c0, (hb.cell _).trans c1, (hb.cell _).trans c2, (hb.cell _).trans c3, (hb.cell _).trans c4, (hb.cell _).trans c5, (hb.cell _).trans c6, (hb.cell _).trans c7⟩

theorem CRow.free {w : World} {ob : Nat} {L : List Cm} (h : CRow w ob L) (j : Nat) : w.frozen? ⟨ob, j, none⟩ = false := by
  obtain ⟨arr, hb, _, _⟩ := h
  exact hb.free j

theorem CRow.kept {w w' : World} {ob : Nat} {L : List Cm} {S : Nat → Prop} (h : CRow w ob L) (hk : Keeps w w' S) (hs : ¬ S ob) : CRow w' ob L := by
  obtain ⟨arr, hb, h1, h2⟩ := h
  exact ⟨arr, hb.kept hk hs, h1, h2⟩

theorem CRow.below {w w' : World} {ob : Nat} {L : List Cm} (h : CRow w ob L) (hb : Below w.heap.size w w') : CRow w' ob L := h.kept (Keeps.of_below hb (fun _ => False)) id

/-- Eight cells stored from offset o on. -/
def set8 (w : World) (b o : Nat) (c : Cm) : World :=
  (((((((w.setCell ⟨b, o, none⟩ (.string c.id)).setCell ⟨b, o + 1, none⟩ (.slice c.pa c.pn c.pc)).setCell ⟨b, o + 2, none⟩ (.string c.com)).setCell ⟨b, o + 3, none⟩ (.string c.msg)).setCell ⟨b, o + 4, none⟩ (.int .i64 c.cr)).setCell ⟨b, o + 5, none⟩ (.map none)).setCell ⟨b, o + 6, none⟩ (.string c.mr)).setCell ⟨b, o + 7, none⟩ (.int .i64 c.gen)

theorem set8_keeps (w : World) (b o : Nat) (c : Cm) : Keeps w (set8 w b o c) (· = b) :=
  (((((((((Keeps.refl w (· = b)).set b _ _ (.inl rfl)).set b _ _ (.inl rfl)).set b _ _ (.inl rfl)).set b _ _ (.inl rfl)).set b _ _ (.inl rfl)).set b _ _ (.inl rfl)).set b _ _ (.inl rfl)).set b _ _ (.inl rfl))

theorem CRow.set {w : World} {ob : Nat} {L : List Cm} (h : CRow w ob L) {j : Nat} (hj : j < L.length) (c : Cm) : CRow (set8 w ob (j * 8) c) ob (L.set j c) := by
  obtain ⟨arr, hb, h1, h2⟩ := h
  refine ⟨setC8 arr (j * 8) c, ((((((((hb.set _ _).set _ _).set _ _).set _ _).set _ _).set _ _).set _ _).set _ _), by simp [setC8, h1], fun i hi => ?_⟩
  have hi' : i < L.length := by simpa using hi
  by_cases e : j = i
  · subst e
    rw [List.getElem_set_self]
    exact setC8_same _ _ _ (by omega)
  · rw [List.getElem_set_ne e]
    obtain ⟨v0, v1, v2, v3, v4, v5, v6, v7⟩ := h2 i hi'
    refine ⟨?_, ?_, ?_, ?_, ?_, ?_, ?_, ?_⟩ <;> rw [setC8_get _ _ _ _ (by omega)] <;> assumption
end Go.Proofs.Qxb6605835a
