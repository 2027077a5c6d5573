import GoSem.Claims
import Derived.Laws.Strings
namespace Go.Proofs.Qxb6605835a

/-- A commit as data: pa, pn, pc are its parents' slice (where it lies, its length, its capacity), ps the parents themselves. -/
structure Cm where
  id : ByteArray
  pa : Option Addr
  pn : Nat
  pc : Nat
  ps : List ByteArray
  com : ByteArray
  msg : ByteArray
  cr : Int
  mr : ByteArray
  gen : Int

namespace Cm
/-- Where the commit comes in the walk. -/
def key (c : Cm) : Int := if c.gen = 0 then c.cr else c.gen

/-- a is taken before b. -/
def less (a b : Cm) : Bool := decide (b.key < a.key) || (decide (a.key = b.key) && Op.bytesLess a.id.toList b.id.toList)
end Cm

/-! ### The order on strings -/
theorem bl_asym : ∀ x y : List UInt8, Op.bytesLess x y = true → Op.bytesLess y x = false
  | [], [], h => by simp [Op.bytesLess] at h
  | [], _ :: _, _ => rfl
  | _ :: _, [], h => by simp [Op.bytesLess] at h
  | a :: x, b :: y, h => by
    simp only [Op.bytesLess, Bool.or_eq_true, Bool.and_eq_true, decide_eq_true_eq, beq_iff_eq] at h
    simp only [Op.bytesLess, Bool.or_eq_false_iff, Bool.and_eq_false_iff, decide_eq_false_iff_not, beq_eq_false_iff_ne]
    rcases h with h | ⟨h, h'⟩
    · rw [UInt8.lt_iff_toNat_lt] at h
      refine ⟨fun h2 => ?_, .inl fun h2 => ?_⟩
      · rw [UInt8.lt_iff_toNat_lt] at h2; omega
      · rw [h2] at h; omega
    · subst h
      exact ⟨fun h2 => by rw [UInt8.lt_iff_toNat_lt] at h2; omega, .inr (bl_asym x y h')⟩

theorem bl_tr : ∀ x y z : List UInt8, Op.bytesLess y x = false → Op.bytesLess z y = false → Op.bytesLess z x = false
  | [], _, [], _, _ => rfl
  | _ :: _, [], _, h, _ => by simp [Op.bytesLess] at h
  | _, _ :: _, [], _, h => by simp [Op.bytesLess] at h
  | [], _, _ :: _, _, _ => rfl
  | a :: x, b :: y, c :: z, h1, h2 => by
    simp only [Op.bytesLess, Bool.or_eq_false_iff, Bool.and_eq_false_iff, decide_eq_false_iff_not, beq_eq_false_iff_ne] at h1 h2 ⊢
    obtain ⟨h1, h1'⟩ := h1
    obtain ⟨h2, h2'⟩ := h2
    rw [UInt8.lt_iff_toNat_lt] at h1 h2
    refine ⟨by rw [UInt8.lt_iff_toNat_lt]; omega, ?_⟩
    by_cases e : c = a
    · right
      subst e
      have hb : b = c := UInt8.toNat_inj.1 (by omega)
      subst hb
      rcases h1' with h | h1'
      · exact absurd rfl h
      rcases h2' with h | h2'
      · exact absurd rfl h
      exact bl_tr x y z h1' h2'
    · exact .inl e

theorem bl_antisym : ∀ x y : List UInt8, Op.bytesLess x y = false → Op.bytesLess y x = false → x = y
  | [], [], _, _ => rfl
  | [], _ :: _, h, _ => by simp [Op.bytesLess] at h
  | _ :: _, [], _, h => by simp [Op.bytesLess] at h
  | a :: x, b :: y, h1, h2 => by
    simp only [Op.bytesLess, Bool.or_eq_false_iff, Bool.and_eq_false_iff, decide_eq_false_iff_not, beq_eq_false_iff_ne] at h1 h2
    obtain ⟨h1, h1'⟩ := h1
    obtain ⟨h2, h2'⟩ := h2
    rw [UInt8.lt_iff_toNat_lt] at h1 h2
    have hb : a = b := UInt8.toNat_inj.1 (by omega)
    subst hb
    rcases h1' with h | h1'
    · exact absurd rfl h
    rcases h2' with h | h2'
    · exact absurd rfl h
    rw [bl_antisym x y h1' h2']

theorem Cm.less_asym (a b : Cm) (h : a.less b = true) : b.less a = false := by
  unfold Cm.less at *
  simp only [Bool.or_eq_true, Bool.and_eq_true, decide_eq_true_eq] at h
  simp only [Bool.or_eq_false_iff, Bool.and_eq_false_iff, decide_eq_false_iff_not]
  rcases h with h | ⟨h, h'⟩
  · exact ⟨by omega, .inl (by omega)⟩
  · exact ⟨by omega, .inr (bl_asym _ _ h')⟩

theorem Cm.less_tr (a b c : Cm) (h1 : b.less a = false) (h2 : c.less b = false) : c.less a = false := by
  unfold Cm.less at *
  simp only [Bool.or_eq_false_iff, Bool.and_eq_false_iff, decide_eq_false_iff_not] at *
  obtain ⟨h1, h1'⟩ := h1
  obtain ⟨h2, h2'⟩ := h2
  refine ⟨by omega, ?_⟩
  by_cases e : c.key = a.key
  · right
    rcases h1' with h | h1'
    · omega
    rcases h2' with h | h2'
    · omega
    exact bl_tr _ _ _ h1' h2'
  · exact .inl e

theorem Cm.less_antisym (a b : Cm) (h1 : a.less b = false) (h2 : b.less a = false) : a.key = b.key ∧ a.id = b.id := by
  unfold Cm.less at *
  simp only [Bool.or_eq_false_iff, Bool.and_eq_false_iff, decide_eq_false_iff_not] at *
  obtain ⟨h1, h1'⟩ := h1
  obtain ⟨h2, h2'⟩ := h2
  have e : a.key = b.key := by omega
  refine ⟨e, ?_⟩
  rcases h1' with h | h1'
  · exact absurd e h
  rcases h2' with h | h2'
  · exact absurd e.symm h
  have := bl_antisym _ _ h1' h2'
  rw [ByteArray.toList_eq, ByteArray.toList_eq] at this
  cases ha : a.id
  cases hb : b.id
  rw [ha, hb] at this
  simp at this
  rw [this]

/-! ### A heap of block numbers -/
/-- The i-th of a list of block numbers. -/
abbrev nth (l : List Nat) (i : Nat) : Nat := l.getD i 0

def swp (l : List Nat) (i j : Nat) : List Nat := (l.set i (nth l j)).set j (nth l i)

theorem swp_len (l : List Nat) (i j : Nat) : (swp l i j).length = l.length := by simp [swp]

theorem swp_nth (l : List Nat) (i j : Nat) (hi : i < l.length) (hj : j < l.length) (k : Nat) : nth (swp l i j) k = if k = j then nth l i else if k = i then nth l j else nth l k := by
  unfold swp nth
  by_cases h1 : k = j
  · subst h1; simp [List.getD, hj]
  · have h1' : ¬ j = k := fun e => h1 e.symm
    by_cases h2 : k = i
    · subst h2; simp [List.getD, h1, h1', hi]
    · have h2' : ¬ i = k := fun e => h2 e.symm
      simp [List.getD, h1, h1', h2, h2']

theorem nth_eq (l : List Nat) (i : Nat) (h : i < l.length) : nth l i = l[i] := by simp [nth, List.getD, h]

theorem nth_mem (l : List Nat) (i : Nat) (h : i < l.length) : nth l i ∈ l := by rw [nth_eq l i h]; exact List.getElem_mem h

theorem swp_perm (l : List Nat) (i j : Nat) (hi : i < l.length) (hj : j < l.length) : (swp l i j).Perm l := by
  rw [List.perm_iff_count]
  intro a
  have hjl : j < (l.set i l[j]).length := by simpa using hj
  have es : swp l i j = (l.set i l[j]).set j l[i] := by unfold swp; rw [nth_eq l j hj, nth_eq l i hi]
  have hp1 : 0 < l.count l[i] := List.count_pos_iff.2 (List.getElem_mem hi)
  have hp2 : 0 < l.count l[j] := List.count_pos_iff.2 (List.getElem_mem hj)
  rw [es, List.count_set hjl, List.count_set hi]
  by_cases hij : i = j
  · subst hij
    simp
    by_cases h : l[i] = a
    · subst h; simp
    · simp [h]
  · have e1 : (l.set i l[j])[j] = l[j] := by rw [List.getElem_set_ne hij]
    rw [e1]
    by_cases h1 : l[i] = a
    · by_cases h2 : l[j] = a
      · have hp : 0 < l.count a := by rw [← h1]; exact hp1
        simp [h1, h2]; omega
      · have hp : 0 < l.count a := by rw [← h1]; exact hp1
        simp [h1, h2]; omega
    · by_cases h2 : l[j] = a
      · simp [h1, h2]
      · simp [h1, h2]

section
variable (lt : Nat → Nat → Bool)

/-- The order that the heap goes by. -/
structure Ord : Prop where
  asym : ∀ a b, lt a b = true → lt b a = false
  tr : ∀ a b c, lt b a = false → lt c b = false → lt c a = false

/-- No child before its parent, among the first n. -/
def HeapN (l : List Nat) (n : Nat) : Prop := ∀ i, 0 < i → i < n → lt (nth l i) (nth l ((i - 1) / 2)) = false

def UpInv (l : List Nat) (j : Nat) : Prop :=
  (∀ i, 0 < i → i < l.length → i ≠ j → lt (nth l i) (nth l ((i - 1) / 2)) = false) ∧
  (∀ i, 0 < i → i < l.length → (i - 1) / 2 = j → 0 < j → lt (nth l i) (nth l ((j - 1) / 2)) = false)

def DownInv (l : List Nat) (i n : Nat) : Prop :=
  (∀ k, 0 < k → k < n → (k - 1) / 2 ≠ i → lt (nth l k) (nth l ((k - 1) / 2)) = false) ∧
  (∀ k, 0 < k → k < n → (k - 1) / 2 = i → 0 < i → lt (nth l k) (nth l ((i - 1) / 2)) = false)

variable {lt}

theorem up_zero {l : List Nat} (h : UpInv lt l 0) : HeapN lt l l.length := fun i h0 h1 => h.1 i h0 h1 (by omega)

theorem up_stop {l : List Nat} {j : Nat} (h : UpInv lt l j) (hs : lt (nth l j) (nth l ((j - 1) / 2)) = false) : HeapN lt l l.length := by
  intro i h0 h1
  by_cases e : i = j
  · subst e; exact hs
  · exact h.1 i h0 h1 e

theorem up_step (O : Ord lt) {l : List Nat} {j : Nat} (h : UpInv lt l j) (hj : j < l.length) (h0 : 0 < j) (hs : lt (nth l j) (nth l ((j - 1) / 2)) = true) : UpInv lt (swp l ((j - 1) / 2) j) ((j - 1) / 2) := by
  obtain ⟨p, hp⟩ : ∃ p, p = (j - 1) / 2 := ⟨_, rfl⟩
  rw [← hp] at hs ⊢
  have hpj : p < j := by omega
  have hpl : p < l.length := by omega
  have hab := O.asym _ _ hs
  have g := swp_nth l p j hpl hj
  refine ⟨fun i h1 h2 h3 => ?_, fun i h1 h2 h3 h4 => ?_⟩
  · rw [swp_len] at h2
    rw [g i, g ((i - 1) / 2)]
    by_cases e1 : i = j
    · subst e1
      rw [if_pos rfl, ← hp, if_neg (by omega), if_pos rfl]
      exact hab
    · rw [if_neg e1, if_neg h3]
      by_cases e2 : (i - 1) / 2 = j
      · rw [if_pos e2]
        have := h.2 i h1 h2 e2 h0
        rwa [← hp] at this
      · rw [if_neg e2]
        by_cases e3 : (i - 1) / 2 = p
        · rw [if_pos e3]
          have := h.1 i h1 h2 e1
          rw [e3] at this
          exact O.tr _ _ _ hab this
        · rw [if_neg e3]
          exact h.1 i h1 h2 e1
  · rw [swp_len] at h2
    rw [g i, g ((p - 1) / 2)]
    have hpp : (p - 1) / 2 ≠ j := by omega
    have hpp2 : (p - 1) / 2 ≠ p := by omega
    rw [if_neg hpp, if_neg hpp2]
    have hpar := h.1 p h4 hpl (by omega)
    by_cases e1 : i = j
    · rw [if_pos e1]
      exact hpar
    · rw [if_neg e1, if_neg (by omega)]
      have := h.1 i h1 h2 e1
      rw [h3] at this
      exact O.tr _ _ _ hpar this

theorem down_end {l : List Nat} {i n : Nat} (h : DownInv lt l i n) (hn : n ≤ 2 * i + 1) : HeapN lt l n := fun k h0 h1 => h.1 k h0 h1 (by omega)

/-- The smaller child. -/
theorem down_stop (O : Ord lt) {l : List Nat} {i n j : Nat} (h : DownInv lt l i n) (hmin : ∀ k, (k = 2 * i + 1 ∨ k = 2 * i + 2) → k < n → lt (nth l k) (nth l j) = false) (hs : lt (nth l j) (nth l i) = false) : HeapN lt l n := by
  intro k h0 h1
  by_cases e : (k - 1) / 2 = i
  · rw [e]
    exact O.tr _ _ _ hs (hmin k (by omega) h1)
  · exact h.1 k h0 h1 e

theorem down_step (O : Ord lt) {l : List Nat} {i n j : Nat} (h : DownInv lt l i n) (hn : n ≤ l.length) (hj : j < n) (hjc : j = 2 * i + 1 ∨ j = 2 * i + 2) (hmin : ∀ k, (k = 2 * i + 1 ∨ k = 2 * i + 2) → k < n → lt (nth l k) (nth l j) = false) (hs : lt (nth l j) (nth l i) = true) : DownInv lt (swp l i j) j n := by
  have hij : i < j := by omega
  have hab := O.asym _ _ hs
  have hpj : (j - 1) / 2 = i := by omega
  have g := swp_nth l i j (by omega) (by omega)
  refine ⟨fun k h0 h1 h2 => ?_, fun k h0 h1 h2 h3 => ?_⟩
  · rw [g k, g ((k - 1) / 2), if_neg h2]
    by_cases e1 : k = j
    · rw [if_pos e1, e1, if_pos hpj]
      exact hab
    · rw [if_neg e1]
      by_cases e2 : (k - 1) / 2 = i
      · rw [if_pos e2, if_neg (by omega)]
        exact hmin k (by omega) h1
      · rw [if_neg e2]
        by_cases e3 : k = i
        · rw [if_pos e3, e3]
          exact h.2 j (by omega) hj hpj (by omega)
        · rw [if_neg e3]
          exact h.1 k h0 h1 e2
  · rw [g k, g ((j - 1) / 2), if_neg (by omega), if_neg (by omega), hpj, if_neg (by omega), if_pos rfl]
    have := h.1 k h0 h1 (by omega)
    rw [h2] at this
    exact this

theorem heap_min (O : Ord lt) {l : List Nat} {n : Nat} (h : HeapN lt l n) : ∀ i, i < n → lt (nth l i) (nth l 0) = false := by
  intro i
  induction i using Nat.strongRecOn with
  | _ i ih =>
    intro hi
    by_cases h0 : i = 0
    · subst h0
      cases hh : lt (nth l 0) (nth l 0)
      · rfl
      · exact absurd (O.asym _ _ hh) (by rw [hh]; decide)
    · exact O.tr _ _ _ (ih ((i - 1) / 2) (by omega) (by omega)) (h i (by omega) hi)

theorem push_inv {l : List Nat} (h : HeapN lt l l.length) (x : Nat) : UpInv lt (l ++ [x]) l.length := by
  have g : ∀ i, i < l.length → nth (l ++ [x]) i = nth l i := fun i hi => by simp [nth, List.getD, List.getElem?_append_left hi]
  refine ⟨fun i h0 h1 h2 => ?_, fun i h0 h1 h2 h3 => ?_⟩
  · simp at h1
    rw [g i (by omega), g ((i - 1) / 2) (by omega)]
    exact h i h0 (by omega)
  · simp at h1
    omega

theorem pop_inv {l : List Nat} (h : HeapN lt l l.length) {n : Nat} (hn : l.length = n + 1) : DownInv lt (swp l 0 n) 0 n := by
  have g := swp_nth l 0 n (by omega) (by omega)
  refine ⟨fun k h0 h1 h2 => ?_, fun k h0 h1 h2 h3 => by omega⟩
  rw [g k, g ((k - 1) / 2), if_neg (by omega), if_neg (by omega), if_neg (by omega), if_neg (by omega)]
  exact h k h0 (by omega)

end

end Go.Proofs.Qxb6605835a
