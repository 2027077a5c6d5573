import Derived.Test.Qxb6605835aClone
import Derived.Deep.Strs
import Derived.OpenShut
import Derived.ChangeOld
import Derived.Below
namespace Go.Proofs.Qxb6605835a
open Go.ChangeShapes Go.WideShapes Go.ChangeAt Go.RowKit
set_option linter.unusedVariables false

theorem cellsOf24 : Try.prog.cellsOf 24 = 7 := by kernel_rfl
theorem cellsOf9 : Try.prog.cellsOf 9 = 1 := by kernel_rfl
theorem cellsOf22 : Try.prog.cellsOf 22 = 1 := by kernel_rfl
theorem cellsOf2 : Try.prog.cellsOf 2 = 1 := by kernel_rfl

section
variable {H : Type} {enc : TypeId × Value → H} {w : World} {base fuel : Nat} {spare : Nat → Bool} {held : Bool} {x : DataW H × List MemPlace}

theorem strs_at {a : Addr} {m : Nat} {Sx : Nat → ByteArray} (h : ∀ i, i < m → w.cell? (a.add i) = some (.string (Sx i))) (hm : 0 < m) : ∃ b off, a = ⟨b, off, none⟩ ∧ ∀ j, j < m → w.cell? ⟨b, off + j, none⟩ = some (.string (Sx j)) := by
  obtain ⟨b, off, spot⟩ := a
  have hspot : spot = none := by simpa [Addr.add] using World.cell?_spot (h 0 hm)
  subst hspot
  exact ⟨b, off, rfl, fun j hj => by rw [← Go.WideShapes.add_plain]; exact h j hj⟩

theorem open_par {v : Value} (h : DataW.trod enc Try.prog w base spare held fuel 22 [v] = some x) : ∃ pa pn pc ps, v = .slice pa pn pc ∧ ∀ c : Cm, c.pa = pa → c.pn = pn → c.ps = ps → ParA w c := by
  rcases Deep.open_strs Try.underlying22 Try.underlying9 cellsOf9 h with ⟨hcs, _⟩ | ⟨a, len, cap, m, Sx, hcs, _, hl, hm, hmm, _, hx⟩
  · simp at hcs
    subst hcs
    refine ⟨none, 0, 0, [], rfl, fun c h1 h2 h3 => ⟨by rw [h2, h3]; rfl, by rw [h2]; decide, fun _ => h2, .inl h2⟩⟩
  · simp at hcs
    subst hcs
    have hlm : len ≤ m := by rw [hmm]; split <;> omega
    refine ⟨some a, len, cap, (List.range len).map Sx, rfl, fun c h1 h2 h3 => ⟨by rw [h2, h3]; simp, by rw [h2]; unfold maxLen at hm; omega, fun h => by rw [h1] at h; simp at h, ?_⟩⟩
    by_cases h0 : len = 0
    · exact .inl (h2.trans h0)
    · obtain ⟨b, off, rfl, hc⟩ := strs_at (fun i hi => (hx i hi).1) (by omega : 0 < m)
      refine .inr ⟨b, off, h1, fun j hj => ?_⟩
      have hj' : j < len := by rw [h3] at hj; simpa using hj
      rw [hc j (by omega)]
      simp [h3]

theorem one_of {n : Nat} {t : TypeId} {cs : List Value} {o : Nat} {v : Value} {xs : List (DataW H × List MemPlace)} {i : Nat} (hc : Try.prog.cellsOf t = 1) (hv : cs[o]? = some v) (hi : i < xs.length) (h : DataW.trod enc Try.prog w base spare held n t ((cs.drop o).take (Try.prog.cellsOf t)) = xs[i]?) : ∃ y, DataW.trod enc Try.prog w base spare held n t [v] = some y := by
  rw [hc, List.getElem?_eq_getElem hi] at h
  have : (cs.drop o).take 1 = [v] := by
    rw [List.getElem?_eq_some_iff] at hv
    obtain ⟨ho, rfl⟩ := hv
    rw [List.drop_eq_getElem_cons ho]
    rfl
  rw [this] at h
  exact ⟨_, h⟩

theorem str_of {n : Nat} {v : Value} (h : ∃ y, DataW.trod enc Try.prog w base spare held n 9 [v] = some y) : ∃ s, v = .string s := by
  obtain ⟨y, h⟩ := h
  obtain ⟨s, h1, _⟩ := DataW.trod_string Try.underlying9 h
  exact ⟨s, by simpa using h1⟩

theorem int_of {n : Nat} {v : Value} (h : ∃ y, DataW.trod enc Try.prog w base spare held n 2 [v] = some y) : ∃ s, v = .int .i64 s := by
  obtain ⟨y, h⟩ := h
  obtain ⟨s, h1, _⟩ := DataW.trod_int Try.underlying2 h
  exact ⟨s, by simpa using h1⟩

set_option maxRecDepth 20000 in
/-- A commit's cells that came in. -/
theorem open_z {cs : List Value} (h : DataW.trod enc Try.prog w base spare held fuel 24 cs = some x) : ∃ c : Cm, cs = (zarr c).toList ∧ ParA w c := by
  obtain ⟨xs, n, _, _, hl, hlen, hf⟩ := DataW.trod_struct Try.underlying24 h
  rw [cellsOf24] at hl
  match cs, hl with
  | [v0, v1, v2, v3, v4, v5, v6], _ =>
    have hx : xs.length = 7 := hlen
    obtain ⟨id, rfl⟩ := str_of (one_of cellsOf9 (v := v0) (o := 0) rfl (by omega) (hf 0 _ rfl))
    obtain ⟨y, hy⟩ := one_of cellsOf22 (v := v1) (o := 1) rfl (by omega) (hf 1 _ rfl)
    obtain ⟨pa, pn, pc, ps, rfl, hpar⟩ := open_par hy
    obtain ⟨com, rfl⟩ := str_of (one_of cellsOf9 (v := v2) (o := 2) rfl (by omega) (hf 2 _ rfl))
    obtain ⟨msg, rfl⟩ := str_of (one_of cellsOf9 (v := v3) (o := 3) rfl (by omega) (hf 3 _ rfl))
    obtain ⟨cr, rfl⟩ := int_of (one_of cellsOf2 (v := v4) (o := 4) rfl (by omega) (hf 4 _ rfl))
    obtain ⟨mr, rfl⟩ := str_of (one_of cellsOf9 (v := v5) (o := 5) rfl (by omega) (hf 5 _ rfl))
    obtain ⟨gen, rfl⟩ := int_of (one_of cellsOf2 (v := v6) (o := 6) rfl (by omega) (hf 6 _ rfl))
    exact ⟨⟨id, pa, pn, pc, ps, com, msg, cr, mr, gen⟩, rfl, hpar _ rfl rfl rfl⟩

instance : Inhabited Cm := ⟨rootCm ⟨#[]⟩⟩

/-- A table that came in. -/
theorem open_tab {v : Value} (h : DataW.trod enc Try.prog w base spare held fuel 25 [v] = some x) : ∃ ta tc T, v = .slice ta T.length tc ∧ TabA w ta T := by
  rcases Deep.open_slice Try.underlying25 h with ⟨hcs, _⟩ | ⟨a, len, cap, m, n, D, Pl, hcs, _, hl, hm, hmm, _, hx⟩
  · simp at hcs
    subst hcs
    exact ⟨none, 0, [], rfl, by decide, fun _ => rfl, fun c hc => by simp at hc, .inl rfl⟩
  · simp at hcs
    subst hcs
    have hlm : len ≤ m := by rw [hmm]; split <;> omega
    rw [cellsOf24] at hx
    obtain ⟨Tf, hT⟩ := Deep.choose_lt (α := Cm) (n := m) (p := fun i c => (∀ j, j < 7 → w.cell? ((a.add (i * 7)).add j) = (zarr c).toList[j]?) ∧ ParA w c) (fun i hi => by
      obtain ⟨cs', h1, h2⟩ := hx i hi
      obtain ⟨c, rfl, hp⟩ := open_z h2
      obtain ⟨_, _, h3⟩ := World.cells?_some h1
      exact ⟨c, h3, hp⟩)
    refine ⟨some a, cap, (List.range len).map Tf, by simp, by simp; unfold maxLen at hm; omega, fun h => by simp at h, fun c hc => ?_, ?_⟩
    · obtain ⟨i, hi, rfl⟩ := List.mem_map.1 hc
      exact (hT i (by have := List.mem_range.1 hi; omega)).2
    · by_cases h0 : len = 0
      · left
        simp [h0]
      · right
        obtain ⟨b, off, spot⟩ := a
        have hspot : spot = none := by
          have := (hT 0 (by omega)).1 0 (by omega)
          simpa [Addr.add] using World.cell?_spot (v := _) this
        subst hspot
        refine ⟨b, off, rfl, fun i hi => ?_⟩
        have hi' : i < len := by simpa using hi
        have hg : ((List.range len).map Tf)[i] = Tf i := by simp
        rw [hg]
        have hc := (hT i (by omega)).1
        have hc' : ∀ j, j < 7 → w.cell? ⟨b, off + i * 7 + j, none⟩ = (zarr (Tf i)).toList[j]? := fun j hj => by
          rw [← hc j hj, Go.WideShapes.add_plain, Go.WideShapes.add_plain]
        exact ⟨hc' 0 (by omega), hc' 1 (by omega), hc' 2 (by omega), hc' 3 (by omega), hc' 4 (by omega), hc' 5 (by omega), hc' 6 (by omega)⟩
end
end Go.Proofs.Qxb6605835a
