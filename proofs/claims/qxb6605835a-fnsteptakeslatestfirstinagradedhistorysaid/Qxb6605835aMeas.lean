import Derived.Test.Qxb6605835aHoldsP
namespace Go.Proofs.Qxb6605835a
open Go.ChangeShapes Go.WideShapes Go.ChangeAt Go.RowKit
set_option linter.unusedVariables false

/-- How many bits of paint a node lacks. -/
def lack (p : Nat) : Nat := (if p &&& 1 = 0 then 1 else 0) + (if p &&& 2 = 0 then 1 else 0) + (if p &&& 4 = 0 then 1 else 0)

theorem lack_or (a b : Nat) (ha : a < 8) (hb : b < 8) (h : a ||| b ≠ a) : lack (a ||| b) + 1 ≤ lack a := by
  have : ∀ a b : Fin 8, a.val ||| b.val ≠ a.val → lack (a.val ||| b.val) + 1 ≤ lack a.val := by decide +kernel
  exact this ⟨a, ha⟩ ⟨b, hb⟩ h

theorem lack_new (b : Nat) (hb : b < 8) (h : b ≠ 0) : lack b + 1 ≤ 3 := by
  have : ∀ b : Fin 8, b.val ≠ 0 → lack b.val + 1 ≤ 3 := by decide +kernel
  exact this ⟨b, hb⟩ h

/-- What the node of an ID can still cost in steps. -/
def cost (o : Option Nd) : Nat := match o with | none => 3 | some y => lack y.p + y.q.toNat

def meas (K : Nat → Cm) (N : List Nd) (l : List ByteArray) : Nat := (l.map (fun s => cost (nodeFor K N s))).sum

theorem sum_le {l : List ByteArray} {f g : ByteArray → Nat} (h : ∀ s ∈ l, f s ≤ g s) : (l.map f).sum ≤ (l.map g).sum := by
  induction l with
  | nil => simp
  | cons a r ih =>
    simp only [List.map_cons, List.sum_cons]
    have h1 := h a (by simp)
    have h2 := ih (fun s hs => h s (by simp [hs]))
    omega

theorem sum_lt {l : List ByteArray} {f g : ByteArray → Nat} (h : ∀ s ∈ l, f s ≤ g s) {t : ByteArray} (ht : t ∈ l) (hlt : f t + 1 ≤ g t) : (l.map f).sum + 1 ≤ (l.map g).sum := by
  induction l with
  | nil => simp at ht
  | cons a r ih =>
    simp only [List.map_cons, List.sum_cons]
    rcases List.mem_cons.1 ht with rfl | ht
    · have h2 := sum_le (l := r) (f := f) (g := g) (fun s hs => h s (by simp [hs]))
      omega
    · have h1 := h a (by simp)
      have h2 := ih (fun s hs => h s (by simp [hs])) ht
      omega

section
variable {T : List Cm} {K K' : Nat → Cm} {N M : List Nd} {ung ung' : Bool} {x : Nd} {l : List ByteArray}

theorem meas_step (hp : PInv T (passed x.p) K (setNd N x.b (offNd x)) ung (K x.b).ps K' M ung') (hok : NOk K' (stepN K N x M)) (hk : NOk K N) (hx : x ∈ N) (hxq : x.q = true) (h8 : ∀ y ∈ N, y.p < 8) (hin : (K x.b).id ∈ l) : meas K' (stepN K N x M) l + 1 ≤ meas K N l := by
  have hpd := passed_lt (h8 x hx)
  have hsome : ∀ s y, nodeFor K N s = some y → cost (nodeFor K' (stepN K N x M) s) + (decide (y.b = x.b)).toNat ≤ cost (nodeFor K N s) := fun s y hy => by
    obtain ⟨y', h1, h2, h3, h4, h5, h6⟩ := at_some hp hok hk hx hy
    have hy8 := h8 y (nodeFor_mem hy).1
    rw [hy, h1]
    simp only [cost]
    by_cases hne : y'.p = y.p
    · rw [hne]
      rw [hne] at h6
      by_cases e : y.b = x.b
      · have := hk.uniq (nodeFor_mem hy).1 hx e
        subst this
        rw [h6, hxq]
        simp
      · rw [h6]
        simp [e]
    · have hlk : lack y'.p + 1 ≤ lack y.p := by
        cases hh : hasId (K x.b).ps s with
        | true => rw [h4 hh] at hne ⊢; exact lack_or _ _ hy8 hpd hne
        | false => exact absurd (h5 hh) hne
      have hq' : y'.q.toNat ≤ 1 := by cases y'.q <;> simp
      by_cases e : y.b = x.b
      · have := hk.uniq (nodeFor_mem hy).1 hx e
        subst this
        rw [hxq]
        simp
        omega
      · simp only [e, decide_false, Bool.toNat_false]
        omega
  unfold meas
  refine sum_lt (fun s hs => ?_) hin ?_
  · cases ho : nodeFor K N s with
    | some y =>
      have := hsome s y ho
      rw [ho] at this
      omega
    | none =>
      cases hh : hasId (K x.b).ps s with
      | false => rw [ent_no hp ho hh]; exact Nat.le_refl _
      | true =>
        obtain ⟨y', h1, h2, h3, h4⟩ := at_new hp hok ho hh
        rw [h1]
        simp only [cost]
        rw [h3, h4]
        by_cases e : passed x.p = 0
        · rw [e]; decide
        · have := lack_new _ hpd e
          simp only [e, ne_eq, not_false_eq_true, decide_true, Bool.toNat_true]
          exact this
  · have := hsome (K x.b).id x (nodeFor_some hk hx)
    simpa using this

theorem meas_le (h : ∀ y ∈ N, lack y.p + y.q.toNat ≤ 3) : meas K N l ≤ 3 * l.length := by
  have h1 : meas K N l ≤ (l.map (fun _ => 3)).sum := sum_le fun s _ => by
    cases ho : nodeFor K N s with
    | none => exact Nat.le_refl _
    | some y => exact h y (nodeFor_mem ho).1
  have h2 : ∀ l : List ByteArray, (l.map (fun _ => 3)).sum = 3 * l.length := by
    intro l
    induction l with
    | nil => rfl
    | cons a r ih =>
      simp only [List.map_cons, List.sum_cons, List.length_cons]
      rw [ih]
      omega
  have := h2 l
  omega

theorem le_sum {l : List ByteArray} {f : ByteArray → Nat} {t : ByteArray} (ht : t ∈ l) : f t ≤ (l.map f).sum := by
  induction l with
  | nil => simp at ht
  | cons a r ih =>
    simp only [List.map_cons, List.sum_cons]
    rcases List.mem_cons.1 ht with rfl | ht
    · omega
    · have := ih ht
      omega

theorem meas_zero (hk : NOk K N) (hin : ∀ y ∈ N, (K y.b).id ∈ l) (h : meas K N l = 0) : qd N = [] := by
  cases hq : qd N with
  | nil => rfl
  | cons b r =>
    have hb : b ∈ qd N := by rw [hq]; simp
    obtain ⟨y, hy, rfl, hyq⟩ := qd_mem.1 hb
    have : cost (nodeFor K N (K y.b).id) ≤ meas K N l := by
      unfold meas
      exact le_sum (f := fun s => cost (nodeFor K N s)) (hin y hy)
    rw [nodeFor_some hk hy, h] at this
    simp [cost, hyq] at this

theorem unmk_le (N : List Nd) : unmk N ≤ (qd N).length := by
  unfold unmk qd
  rw [List.length_map]
  have : ∀ N : List Nd, (N.filter (fun x => x.q && (x.p &&& 4 == 0))).length ≤ (N.filter (·.q)).length := by
    intro N
    induction N with
    | nil => simp
    | cons a r ih =>
      simp only [List.filter_cons]
      cases a.q <;> cases (a.p &&& 4 == 0) <;> simp <;> omega
  exact this N
end
end Go.Proofs.Qxb6605835a
