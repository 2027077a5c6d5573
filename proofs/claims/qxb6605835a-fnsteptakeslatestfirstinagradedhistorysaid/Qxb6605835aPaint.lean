import Derived.Test.Qxb6605835aState
import Derived.Laws.BitsAllLaws
namespace Go.Proofs.Qxb6605835a
open Go.ChangeShapes Go.WideShapes Go.ChangeAt Go.RowKit
set_option linter.unusedVariables false

theorem or8 (a b : Nat) (ha : a < 8) (hb : b < 8) : a ||| b < 8 := Nat.or_lt_two_pow (n := 3) ha hb

theorem setNd_mem {N : List Nd} {b : Nat} {f : Nd → Nd} {y : Nd} (h : y ∈ setNd N b f) : (∃ x ∈ N, x.b = b ∧ y = f x) ∨ (y ∈ N ∧ y.b ≠ b) := by
  unfold setNd at h
  obtain ⟨x, hx, rfl⟩ := List.mem_map.1 h
  by_cases e : x.b = b
  · rw [if_pos e]; exact .inl ⟨x, hx, e, rfl⟩
  · rw [if_neg e]; exact .inr ⟨hx, e⟩

theorem mem_setNd {N : List Nd} {b : Nat} {f : Nd → Nd} {x : Nd} (hx : x ∈ N) : (if x.b = b then f x else x) ∈ setNd N b f := List.mem_map.2 ⟨x, hx, rfl⟩

theorem cnt_none (P : Nd → Bool) (b : Nat) (f : Nd → Nd) : ∀ N : List Nd, (∀ x ∈ N, x.b ≠ b) → setNd N b f = N
  | [], _ => rfl
  | x :: r, h => by
    have := cnt_none P b f r (fun y hy => h y (by simp [hy]))
    unfold setNd at *
    rw [List.map_cons, if_neg (h x (by simp)), this]

theorem cnt_set (P : Nd → Bool) (f : Nd → Nd) : ∀ (N : List Nd) (x : Nd), x ∈ N → (N.map (·.b)).Nodup → ((setNd N x.b f).filter P).length + (P x).toNat = (N.filter P).length + (P (f x)).toNat
  | [], _, h, _ => by simp at h
  | y :: r, x, h, hn => by
    rw [List.map_cons, List.nodup_cons] at hn
    obtain ⟨hn1, hn2⟩ := hn
    rcases List.mem_cons.1 h with rfl | h
    · have hno : setNd r x.b f = r := cnt_none P x.b f r (fun z hz e => hn1 (e ▸ List.mem_map.2 ⟨z, hz, rfl⟩))
      have e1 : setNd (x :: r) x.b f = f x :: r := by
        have : setNd (x :: r) x.b f = f x :: setNd r x.b f := by simp [setNd]
        rw [this, hno]
      rw [e1]
      cases h1 : P x <;> cases h2 : P (f x) <;> simp [h1, h2] <;> omega
    · have hne : y.b ≠ x.b := fun e => hn1 (e ▸ List.mem_map.2 ⟨x, h, rfl⟩)
      have ih := cnt_set P f r x h hn2
      have e1 : setNd (y :: r) x.b f = y :: setNd r x.b f := by simp [setNd, hne]
      rw [e1]
      cases h1 : P y <;> simp [h1] <;> omega

theorem qd_nodup {N : List Nd} (h : (N.map (·.b)).Nodup) : (qd N).Nodup := by
  unfold qd
  exact ((List.filter_sublist).map _).nodup h

theorem qd_mem {N : List Nd} {b : Nat} : b ∈ qd N ↔ ∃ x ∈ N, x.b = b ∧ x.q = true := by
  unfold qd
  rw [List.mem_map]
  constructor
  · rintro ⟨x, hx, rfl⟩
    obtain ⟨h1, h2⟩ := List.mem_filter.1 hx
    exact ⟨x, h1, rfl, h2⟩
  · rintro ⟨x, hx, rfl, hq⟩
    exact ⟨x, List.mem_filter.2 ⟨hx, hq⟩, rfl⟩

/-- A node that was not queued is queued now. -/
theorem qd_push {N : List Nd} {x : Nd} {f : Nd → Nd} (hf : ∀ x, (f x).b = x.b) (hx : x ∈ N) (hn : (N.map (·.b)).Nodup) (hq : x.q = false) (hq' : (f x).q = true) (hu : ∀ y ∈ N, y.b = x.b → y = x) : (qd N ++ [x.b]).Perm (qd (setNd N x.b f)) := by
  have hn' : ((setNd N x.b f).map (·.b)).Nodup := by rw [setNd_b N x.b f hf]; exact hn
  have hnx : x.b ∉ qd N := fun h => by
    obtain ⟨y, hy, e, hyq⟩ := qd_mem.1 h
    rw [hu y hy e, hq] at hyq
    cases hyq
  rw [List.perm_ext_iff_of_nodup (List.nodup_append.2 ⟨qd_nodup hn, by simp, fun a ha b hb => by simp at hb; subst hb; exact fun e => hnx (e ▸ ha)⟩) (qd_nodup hn')]
  intro a
  rw [List.mem_append, qd_mem, qd_mem]
  constructor
  · rintro (⟨y, hy, rfl, hyq⟩ | h)
    · have hne : y.b ≠ x.b := fun e => by rw [hu y hy e, hq] at hyq; cases hyq
      have := mem_setNd (b := x.b) (f := f) hy
      rw [if_neg hne] at this
      exact ⟨y, this, rfl, hyq⟩
    · simp at h
      subst h
      have := mem_setNd (b := x.b) (f := f) hx
      rw [if_pos rfl] at this
      exact ⟨f x, this, hf x, hq'⟩
  · rintro ⟨y, hy, rfl, hyq⟩
    rcases setNd_mem hy with ⟨z, hz, e, rfl⟩ | ⟨hy, hne⟩
    · right; simp [hf z, e]
    · exact .inl ⟨y, hy, rfl, hyq⟩

/-- The queue does not turn where no node's flag turns. -/
theorem qd_same {N : List Nd} {b : Nat} {f : Nd → Nd} (hf : ∀ x, (f x).b = x.b) (hq : ∀ x ∈ N, x.b = b → (f x).q = x.q) : qd (setNd N b f) = qd N := by
  unfold qd setNd
  rw [List.filter_map, List.map_map]
  have e1 : N.filter ((fun x => x.q) ∘ fun x => if x.b = b then f x else x) = N.filter (·.q) := by
    apply List.filter_congr
    intro x hx
    simp only [Function.comp]
    by_cases e : x.b = b
    · rw [if_pos e, hq x hx e]
    · rw [if_neg e]
  rw [e1]
  apply List.map_congr_left
  intro x _
  simp only [Function.comp]
  split
  · exact hf x
  · rfl

theorem or_i64 (a b : Nat) (ha : a < 8) (hb : b < 8) : bits BinOp.or IntKind.i64 (a : Int) (b : Int) = ((a ||| b : Nat) : Int) := by
  have : ∀ a b : Fin 8, bits BinOp.or IntKind.i64 ((a.val : Nat) : Int) ((b.val : Nat) : Int) = ((a.val ||| b.val : Nat) : Int) := by decide +kernel
  exact this ⟨a, ha⟩ ⟨b, hb⟩

theorem and_i64 (a b : Nat) (ha : a < 8) (hb : b < 8) : bits BinOp.and IntKind.i64 (a : Int) (b : Int) = ((a &&& b : Nat) : Int) := by
  have : ∀ a b : Fin 8, bits BinOp.and IntKind.i64 ((a.val : Nat) : Int) ((b.val : Nat) : Int) = ((a.val &&& b.val : Nat) : Int) := by decide +kernel
  exact this ⟨a, ha⟩ ⟨b, hb⟩
end Go.Proofs.Qxb6605835a
