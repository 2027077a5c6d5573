import Derived.Test.Qxb6605835aAll
namespace Go.Proofs.Qxb6605835a
open Go.ChangeShapes Go.WideShapes Go.ChangeAt Go.RowKit
set_option linter.unusedVariables false

/-! ### A row of numbers that a slice owns -/
def OwnI (w : World) (B : Nat) (v : Value) (l : List Nat) : Prop := w.ownsRow B 3 1 v l.length (l.map fun k : Nat => Value.int .i64 (k : Int))

theorem OwnI.nil (w : World) (B : Nat) : OwnI w B (.slice none 0 0) [] := World.ownsRow_nil w B 3 1

theorem OwnI.kept {w w' : World} {B : Nat} {v : Value} {l : List Nat} {S : Nat → Prop} (h : OwnI w B v l) (hk : Keeps w w' S) (hs : ∀ g, v.ownBlock = some g → ¬ S g) : OwnI w' B v l := by
  refine ⟨h.1, ?_⟩
  rcases h.2 with hv | ⟨g, cap, cur, hv, hb, hh, hr⟩
  · exact .inl hv
  · refine .inr ⟨g, cap, cur, hv, hb, ?_, hr⟩
    exact Blk.kept (t := 3) hh hk (hs g (by rw [hv]; rfl))

theorem OwnI.below {w w' : World} {B : Nat} {v : Value} {l : List Nat} (h : OwnI w B v l) (hb : Below w.heap.size w w') : OwnI w' B v l := h.kept (Keeps.of_below hb (fun _ => False)) (fun _ _ => id)

/-- The block that a slice owns is one of numbers. -/
theorem OwnI.blk {w : World} {B : Nat} {v : Value} {l : List Nat} (h : OwnI w B v l) {g : Nat} (hg : v.ownBlock = some g) : ∃ cur, Blk w g 3 cur ∧ B ≤ g := by
  rcases h.2 with ⟨hv, _⟩ | ⟨g', cap, cur, hv, hb, hh, _⟩
  · rw [hv] at hg; simp [Value.ownBlock] at hg
  · rw [hv] at hg
    simp [Value.ownBlock] at hg
    subst hg
    exact ⟨cur, hh, hb⟩

theorem OwnI.form {w : World} {B : Nat} {v : Value} {l : List Nat} (h : OwnI w B v l) : (v = .slice none 0 0 ∧ l = []) ∨ ∃ g cap, v = .slice (some ⟨g, 0, none⟩) l.length cap ∧ B ≤ g ∧ l.length ≤ cap ∧ cap ≤ maxLen ∧ ∀ i (hi : i < l.length), w.cell? ⟨g, i, none⟩ = some (.int .i64 l[i]) := by
  rcases h.2 with ⟨hv, h0⟩ | ⟨g, cap, cur, hv, hb, hh, hn, hm, hs, ht⟩
  · exact .inl ⟨hv, List.eq_nil_of_length_eq_zero h0⟩
  · refine .inr ⟨g, cap, hv, hb, hn, hm, fun i hi => ?_⟩
    have hc := Blk.cell (w := w) (t := 3) hh i
    rw [hc]
    have h1 : (cur.toList.take (l.length * 1))[i]? = some (.int .i64 l[i]) := by
      rw [ht, List.getElem?_map, List.getElem?_eq_getElem hi]; rfl
    rw [List.getElem?_take_of_lt (by omega)] at h1
    simpa using h1

/-- The slice without its last. -/
theorem OwnI.pop {w : World} {B g cap : Nat} {l : List Nat} {x : Nat} (h : OwnI w B (.slice (some ⟨g, 0, none⟩) (l.length + 1) cap) (l ++ [x])) : OwnI w B (.slice (some ⟨g, 0, none⟩) l.length cap) l := by
  refine ⟨by simp, ?_⟩
  rcases h.2 with ⟨hv, _⟩ | ⟨g', cap', cur, hv, hb, hh, hn, hm, hs, ht⟩
  · simp at hv
  · simp only [Value.slice.injEq, Option.some.injEq, Addr.mk.injEq] at hv
    obtain ⟨⟨rfl, _⟩, _, rfl⟩ := hv
    refine .inr ⟨g, cap, cur, rfl, hb, hh, by simp at hn; omega, hm, hs, ?_⟩
    have h1 := congrArg (List.take l.length) ht
    rw [List.take_take] at h1
    simp only [List.length_append, List.length_cons, List.length_nil, Nat.mul_one, List.map_append] at h1
    rw [Nat.min_eq_left (by omega)] at h1
    rw [Nat.mul_one, h1, List.take_append_of_le_length (by simp), List.take_of_length_le (by simp)]

/-! ### What is reached, by indices -/
inductive RI (PI : List (List Nat)) : Nat → Nat → Prop
  | refl (s : Nat) : RI PI s s
  | step {s i j : Nat} : RI PI s i → ∀ h : i < PI.length, j ∈ PI[i] → RI PI s j

def upd1 (sn : Nat → Bool) (j : Nat) : Nat → Bool := fun i => if i = j then true else sn i

/-- What the search keeps: all that is seen is reached; the parents of what is seen and not on the stack are seen; but of the one in hand only the first q. -/
structure RV (PI : List (List Nat)) (S : List Nat) (n : Nat) (sn : Nat → Bool) (st : List Nat) (cur : Option Nat) (q : Nat) : Prop where
  lt : ∀ i, sn i = true → i < n
  sound : ∀ i, sn i = true → ∃ s ∈ S, RI PI s i
  stk : ∀ i ∈ st, sn i = true
  nd : st.Nodup
  curs : ∀ c, cur = some c → sn c = true ∧ c ∉ st
  closed : ∀ i, sn i = true → i ∉ st → cur ≠ some i → ∀ h : i < PI.length, ∀ j ∈ PI[i], sn j = true
  part : ∀ c, cur = some c → ∀ h : c < PI.length, ∀ t (ht : t < PI[c].length), t < q → sn PI[c][t] = true

section
variable {PI : List (List Nat)} {S st : List Nat} {n q : Nat} {sn : Nat → Bool} {cur : Option Nat} {cc : Nat}

theorem RV.push (h : RV PI S n sn st cur q) {j : Nat} (hj : j < n) (hs : ∃ s ∈ S, RI PI s j) (hn : sn j = false) : RV PI S n (upd1 sn j) (st ++ [j]) cur q := by
  have hup : ∀ i, sn i = true → upd1 sn j i = true := fun i hi => by unfold upd1; split <;> simp [hi]
  have hjs : j ∉ st := fun hin => by have := h.stk j hin; rw [hn] at this; cases this
  refine ⟨fun i hi => ?_, fun i hi => ?_, fun i hi => ?_, ?_, fun c hc => ?_, fun i hi hst hcu hl k hk => ?_, fun c hc hl t ht htq => hup _ (h.part c hc hl t ht htq)⟩
  · unfold upd1 at hi
    split at hi
    · next e => omega
    · exact h.lt i hi
  · unfold upd1 at hi
    split at hi
    · next e => rw [e]; exact hs
    · exact h.sound i hi
  · rcases List.mem_append.1 hi with hi | hi
    · exact hup i (h.stk i hi)
    · simp at hi; unfold upd1; simp [hi]
  · rw [List.nodup_append]
    refine ⟨h.nd, by simp, fun a ha b hb e => ?_⟩
    simp at hb
    subst hb
    exact hjs (e ▸ ha)
  · obtain ⟨h1, h2⟩ := h.curs c hc
    refine ⟨hup c h1, fun hin => ?_⟩
    rcases List.mem_append.1 hin with hin | hin
    · exact h2 hin
    · simp at hin
      rw [hin, hn] at h1
      cases h1
  · have hij : i ≠ j := fun e => hst (by simp [e])
    have hi' : sn i = true := by unfold upd1 at hi; rw [if_neg hij] at hi; exact hi
    exact hup k (h.closed i hi' (fun hin => hst (List.mem_append.2 (.inl hin))) hcu hl k hk)

theorem RV.pop (h : RV PI S n sn (st ++ [q]) none 0) : RV PI S n sn st (some q) 0 := by
  have hnd := h.nd
  rw [List.nodup_append] at hnd
  have hq : q ∉ st := fun hin => hnd.2.2 q hin q (by simp) rfl
  refine ⟨h.lt, h.sound, fun i hi => h.stk i (List.mem_append.2 (.inl hi)), hnd.1, fun c hc => ?_, fun i hi hst hcu hl k hk => ?_, fun c hc hl t ht htq => by omega⟩
  · simp at hc
    subst hc
    exact ⟨h.stk q (by simp), hq⟩
  · refine h.closed i hi (fun hin => ?_) (by simp) hl k hk
    rcases List.mem_append.1 hin with hin | hin
    · exact hst hin
    · simp at hin
      exact hcu (by rw [hin])

theorem RV.more (h : RV PI S n sn st (some cc) q) (hl : cc < PI.length) (hq : q < PI[cc].length) (hs : sn PI[cc][q] = true) : RV PI S n sn st (some cc) (q + 1) :=
  ⟨h.lt, h.sound, h.stk, h.nd, h.curs, h.closed, fun c hc hl' t ht htq => by
    by_cases e : t = q
    · simp at hc; subst hc; subst e; exact hs
    · exact h.part c hc hl' t ht (by omega)⟩

theorem RV.done (h : RV PI S n sn st (some cc) q) (hl : cc < PI.length) (hq : PI[cc].length ≤ q) : RV PI S n sn st none 0 :=
  ⟨h.lt, h.sound, h.stk, h.nd, fun c hc => by simp at hc, fun i hi hst _ hl' k hk => by
    by_cases e : i = cc
    · subst e
      obtain ⟨t, ht, rfl⟩ := List.mem_iff_getElem.1 hk
      exact h.part i rfl hl' t ht (by omega)
    · exact h.closed i hi hst (by simp; exact fun e' => e e'.symm) hl' k hk, fun c hc => by simp at hc⟩

theorem RV.all (h : RV PI S n sn [] none 0) (hlt : ∀ i (hi : i < PI.length), ∀ j ∈ PI[i], j < n) (hst : ∀ s ∈ S, sn s = true) (i : Nat) : sn i = true ↔ ∃ s ∈ S, RI PI s i := by
  refine ⟨h.sound i, ?_⟩
  rintro ⟨s, hs, hr⟩
  induction hr with
  | refl => exact hst _ hs
  | step hr hl hj ih => exact h.closed _ ih (by simp) (by simp) hl _ hj

theorem RV.init (PI : List (List Nat)) (S : List Nat) (n : Nat) : RV PI S n (fun _ => false) [] none 0 :=
  ⟨fun i h => by simp at h, fun i h => by simp at h, fun i h => by simp at h, by simp, fun c h => by simp at h, fun i h => by simp at h, fun c h => by simp at h⟩
end

/-- How many are not seen. -/
def unseen (n : Nat) (sn : Nat → Bool) : Nat := ((List.range n).filter (fun i => !sn i)).length

theorem unseen_upd {n : Nat} {sn : Nat → Bool} {j : Nat} (hj : j < n) (hn : sn j = false) : unseen n (upd1 sn j) + 1 = unseen n sn := by
  unfold unseen
  induction n with
  | zero => omega
  | succ n ih =>
    rw [List.range_succ, List.filter_append, List.filter_append, List.length_append, List.length_append]
    by_cases e : j = n
    · subst e
      have : ((List.range j).filter (fun i => !upd1 sn j i)) = (List.range j).filter (fun i => !sn i) := by
        apply List.filter_congr
        intro i hi
        have := List.mem_range.1 hi
        unfold upd1
        rw [if_neg (by omega)]
      rw [this]
      simp [upd1, hn]
    · have h1 := ih (by omega)
      have h2 : upd1 sn j n = sn n := by unfold upd1; rw [if_neg (fun h => e h.symm)]
      simp only [List.filter_cons, h2, List.filter_nil]
      omega
end Go.Proofs.Qxb6605835a
