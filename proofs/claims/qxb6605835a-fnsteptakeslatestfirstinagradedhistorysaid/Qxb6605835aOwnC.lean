import Derived.Test.Qxb6605835aSrtW
namespace Go.Proofs.Qxb6605835a
open Go.ChangeShapes Go.WideShapes Go.ChangeAt Go.RowKit
set_option linter.unusedVariables false

def carr (c : Cm) : List Value := [.string c.id, .slice c.pa c.pn c.pc, .string c.com, .string c.msg, .int .i64 c.cr, .map none, .string c.mr, .int .i64 c.gen]

/-- The slice value v owns a row of the commits L. -/
def OwnC (w : World) (B : Nat) (v : Value) (L : List Cm) : Prop := w.ownsRow B 39 8 v L.length (L.flatMap carr)

theorem OwnC.nil (w : World) (B : Nat) : OwnC w B (.slice none 0 0) [] := World.ownsRow_nil w B 39 8

theorem OwnC.kept {w w' : World} {B : Nat} {v : Value} {l : List Cm} {S : Nat → Prop} (h : OwnC w B v l) (hk : Keeps w w' S) (hs : ∀ g, v.ownBlock = some g → ¬ S g) : OwnC w' B v l := by
  refine ⟨h.1, ?_⟩
  rcases h.2 with hv | ⟨g, cap, cur, hv, hb, hh, hr⟩
  · exact .inl hv
  · refine .inr ⟨g, cap, cur, hv, hb, ?_, hr⟩
    exact Blk.kept (t := 39) hh hk (hs g (by rw [hv]; rfl))

theorem OwnC.below {w w' : World} {B : Nat} {v : Value} {l : List Cm} (h : OwnC w B v l) (hb : Below w.heap.size w w') : OwnC w' B v l := h.kept (Keeps.of_below hb (fun _ => False)) (fun _ _ => id)

theorem flat8_get (L : List Cm) (i j : Nat) (hi : i < L.length) (hj : j < 8) : (L.flatMap carr)[i * 8 + j]? = (carr L[i])[j]? := by
  induction L generalizing i with
  | nil => simp at hi
  | cons c r ih =>
    rw [List.flatMap_cons]
    cases i with
    | zero =>
      rw [List.getElem?_append_left (by simp [carr]; omega)]
      simp
    | succ i =>
      rw [List.getElem?_append_right (by simp [carr]; omega)]
      have : (i + 1) * 8 + j - (carr c).length = i * 8 + j := by simp [carr]; omega
      rw [this, ih i (by simpa using hi)]
      simp

theorem OwnC.form {w : World} {B : Nat} {v : Value} {L : List Cm} (h : OwnC w B v L) : (v = .slice none 0 0 ∧ L = []) ∨ ∃ g cap, v = .slice (some ⟨g, 0, none⟩) L.length cap ∧ B ≤ g ∧ CRow w g L := by
  rcases h.2 with ⟨hv, h0⟩ | ⟨g, cap, cur, hv, hb, hh, hn, hm, hs, ht⟩
  · exact .inl ⟨hv, List.eq_nil_of_length_eq_zero h0⟩
  · refine .inr ⟨g, cap, hv, hb, cur, hh, by rw [hs]; omega, fun i hi => ?_⟩
    have key : ∀ j, j < 8 → cur[i * 8 + j]? = (carr L[i])[j]? := fun j hj => by
      have h1 : (cur.toList.take (L.length * 8))[i * 8 + j]? = (carr L[i])[j]? := by
        rw [ht, flat8_get L i j hi hj]
      rw [List.getElem?_take_of_lt (by omega)] at h1
      simpa using h1
    exact ⟨key 0 (by omega), key 1 (by omega), key 2 (by omega), key 3 (by omega), key 4 (by omega), key 5 (by omega), key 6 (by omega), key 7 (by omega)⟩

theorem OwnC.blk {w : World} {B : Nat} {v : Value} {l : List Cm} (h : OwnC w B v l) {g : Nat} (hg : v.ownBlock = some g) : ∃ cur, Blk w g 39 cur ∧ B ≤ g := by
  rcases h.2 with ⟨hv, _⟩ | ⟨g', cap, cur, hv, hb, hh, _⟩
  · rw [hv] at hg; simp [Value.ownBlock] at hg
  · rw [hv] at hg
    simp [Value.ownBlock] at hg
    subst hg
    exact ⟨cur, hh, hb⟩

theorem OwnC.snoc {w : World} {B g cap : Nat} {L : List Cm} {c : Cm} (h : w.ownsRow B 39 8 (.slice (some ⟨g, 0, none⟩) (L.length + 1) cap) (L.length + 1) (L.flatMap carr ++ carr c)) : OwnC w B (.slice (some ⟨g, 0, none⟩) (L.length + 1) cap) (L ++ [c]) := by
  unfold OwnC
  rw [List.flatMap_append, List.length_append]
  simpa using h

set_option maxHeartbeats 1000000 in
theorem sort_nil (cap : Nat) (w : World) : Calls Try.prog 34 #[.slice none 0 cap] w fun e w' => e = .returned (.tuple #[]) ∧ w = w' := by
  go_enter Try.func34, Try.ntmps34
  go_wp2
  refine wp_loop_rounds 1 ?_
  rw [rounds_succ]
  go_wp2
  go_end0
  exact ⟨rfl, rfl⟩

/-- What the sort promises of a slice. -/
def SortPost (w : World) (v : Value) (L0 : List Cm) (w' : World) : Prop := ∃ L, L.Perm L0 ∧ L.Pairwise nb ∧ (L = [] ∨ ∃ g cap, v = .slice (some ⟨g, 0, none⟩) L.length cap ∧ CRow w' g L) ∧ Keeps w w' (fun k => v.ownBlock = some k)

theorem sort_any {B : Nat} {v : Value} {L0 : List Cm} {w : World} (h : OwnC w B v L0) (hl : L0.length ≤ 1000000) : Calls Try.prog 34 #[v] w fun e w' => e = .returned (.tuple #[]) ∧ SortPost w v L0 w' := by
  rcases h.form with ⟨rfl, rfl⟩ | ⟨g, cap, rfl, _, hr⟩
  · refine (sort_nil 0 w).mono ?_
    rintro e w' ⟨rfl, rfl⟩
    exact ⟨rfl, [], List.Perm.refl _, by simp, .inl rfl, Keeps.refl _ _⟩
  · refine (sort_some g cap L0 w hr hl).mono ?_
    rintro e w' ⟨rfl, L, h1, h2, h3, h4⟩
    exact ⟨rfl, L, h1, h2, .inr ⟨g, cap, by rw [h1.length_eq], h3⟩, h4.mono (fun k _ e => by subst e; rfl)⟩
end Go.Proofs.Qxb6605835a
