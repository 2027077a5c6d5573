import Derived.Test.Qxb6605835aStart
namespace Go.Proofs.Qxb6605835a
open Go.ChangeShapes Go.WideShapes Go.ChangeAt Go.RowKit
set_option linter.unusedVariables false

def addZ (t n : Int) : Int := if n < 0 ∨ 2097152 < n ∨ 2097152 < t then 4194304 else t + n

theorem addZ_range {t n : Int} (h : 0 ≤ t ∧ t ≤ 4194304) : 0 ≤ addZ t n ∧ addZ t n ≤ 4194304 := by
  unfold addZ
  split <;> omega

theorem addZ_eq {t n : Int} (h : 0 ≤ t ∧ t ≤ 4194304) (hr : addZ t n ≤ 1048576) : addZ t n = t + n ∧ 0 ≤ n := by
  unfold addZ at hr ⊢
  split at hr
  · omega
  · rename_i h1
    rw [if_neg h1]
    omega

set_option maxHeartbeats 400000 in
theorem add_any (t n : Int) (w : World) (ht : 0 ≤ t ∧ t ≤ 4194304) :
    Calls Try.prog 35 #[.int .i64 t, .int .i64 n] w fun e w' => e = .returned (.int .i64 (addZ t n)) ∧ w = w' := by
  obtain ⟨h0, h1⟩ := ht
  by_cases hn : n < 0
  · have d1 : decide (n < 0) = true := by simpa using hn
    have HE : Hid (addZ t n = 4194304) := hide (by unfold addZ; rw [if_pos (.inl hn)])
    go_enter Try.func35, Try.ntmps35
    go_wp2
    go_ret
    exact ⟨ret_int HE.out.symm, rfl⟩
  · have d1 : decide (n < 0) = false := by simpa using hn
    by_cases hb : 2097152 < n
    · have d2 : decide (2097152 < n) = true := by simpa using hb
      have HE : Hid (addZ t n = 4194304) := hide (by unfold addZ; rw [if_pos (.inr (.inl hb))])
      go_enter Try.func35, Try.ntmps35
      go_wp2
      go_ret
      exact ⟨ret_int HE.out.symm, rfl⟩
    · have d2 : decide (2097152 < n) = false := by simpa using hb
      by_cases hc : 2097152 < t
      · have d3 : decide (2097152 < t) = true := by simpa using hc
        have HE : Hid (addZ t n = 4194304) := hide (by unfold addZ; rw [if_pos (.inr (.inr hc))])
        go_enter Try.func35, Try.ntmps35
        go_wp2
        go_ret
        exact ⟨ret_int HE.out.symm, rfl⟩
      · have d3 : decide (2097152 < t) = false := by simpa using hc
        have HE : Hid (addZ t n = t + n) := hide (by unfold addZ; rw [if_neg (by omega)])
        go_enter Try.func35, Try.ntmps35
        go_wp2
        go_ret
        exact ⟨ret_int HE.out.symm, rfl⟩

/-- A slice of strings that came in: the strings lie in a row, or there are none. -/
def ParA (w : World) (c : Cm) : Prop := c.pn = c.ps.length ∧ c.pn ≤ 9223372036854775807 ∧ (c.pa = none → c.pn = 0) ∧ (c.pn = 0 ∨ ∃ b off, c.pa = some ⟨b, off, none⟩ ∧ ∀ j (h : j < c.ps.length), w.cell? ⟨b, off + j, none⟩ = some (.string c.ps[j]))

theorem ParA.below {w w' : World} {c : Cm} (h : ParA w c) (hb : Below w.heap.size w w') : ParA w' c := by
  obtain ⟨h1, h2, h3, h4⟩ := h
  refine ⟨h1, h2, h3, ?_⟩
  rcases h4 with h | ⟨b, off, h, hc⟩
  · exact .inl h
  · exact .inr ⟨b, off, h, fun j hj => cell_below hb (hc j hj)⟩

/-- A table that came in. -/
def TabA (w : World) (ta : Option Addr) (T : List Cm) : Prop := T.length ≤ 9223372036854775807 ∧ (ta = none → T = []) ∧ (∀ c ∈ T, ParA w c) ∧ (T = [] ∨ ∃ tb off, ta = some ⟨tb, off, none⟩ ∧ ∀ i (h : i < T.length), ZAt w tb (off + i * 7) T[i])

theorem TabA.below {w w' : World} {ta : Option Addr} {T : List Cm} (h : TabA w ta T) (hb : Below w.heap.size w w') : TabA w' ta T := by
  obtain ⟨h1, h2, h3, h4⟩ := h
  refine ⟨h1, h2, fun c hc => (h3 c hc).below hb, ?_⟩
  rcases h4 with h | ⟨b, off, h, hc⟩
  · exact .inl h
  · exact .inr ⟨b, off, h, fun j hj => (hc j hj).below hb⟩

set_option maxHeartbeats 2000000 in
theorem addCommit_any (t : Int) (c : Cm) (w : World) (ht : 0 ≤ t ∧ t ≤ 4194304) (hp : ParA w c) :
    Calls Try.prog 7 #[.int .i64 t, zval c] w fun e w' => (∃ r, 0 ≤ r ∧ r ≤ 4194304 ∧ e = .returned (.int .i64 r)) ∧ Below w.heap.size w w' := by
  have HB : Hid (Below w.heap.size w (w.alloc (.cells #[.string c.id, .slice c.pa c.pn c.pc, .string c.com, .string c.msg, .int .i64 c.cr, .string c.mr, .int .i64 c.gen] 24))) := (Below.refl _ _).alloc (Nat.le_refl _) _
  have HP := hide (hp.below HB.out)
  have hpn := hp.2.1
  clear hp
  obtain ⟨id, pa, pn, pc, ps, com, msg, cr, mr, gen⟩ := c
  simp only at HP HB hpn ⊢
  by_cases hbig : 1048576 < pn
  · go_enter Try.func7, Try.ntmps7
    go_wp2
    go_ret
    exact ⟨⟨_, by omega, by omega, rfl⟩, HB.out⟩
  · obtain ⟨h0, h1⟩ := ht
    go_enter Try.func7, Try.ntmps7
    go_wp2_with fail
    refine (add_any _ _ _ ⟨h0, h1⟩).mono ?_
    rintro e w1 ⟨rfl, rfl⟩
    obtain ⟨a0, a1⟩ := addZ_range (n := 104) ⟨h0, h1⟩
    generalize addZ t 104 = t1 at *
    go_wp2_with fail
    refine (add_any _ _ _ ⟨a0, a1⟩).mono ?_
    rintro e w1 ⟨rfl, rfl⟩
    obtain ⟨b0, b1⟩ := addZ_range (n := (id.size : Int)) ⟨a0, a1⟩
    generalize addZ t1 (id.size : Int) = t2 at *
    go_wp2_with fail
    refine (add_any _ _ _ ⟨b0, b1⟩).mono ?_
    rintro e w1 ⟨rfl, rfl⟩
    obtain ⟨c0, c1⟩ := addZ_range (n := (com.size : Int)) ⟨b0, b1⟩
    generalize addZ t2 (com.size : Int) = t3 at *
    go_wp2_with fail
    refine (add_any _ _ _ ⟨c0, c1⟩).mono ?_
    rintro e w1 ⟨rfl, rfl⟩
    obtain ⟨d0, d1⟩ := addZ_range (n := (msg.size : Int)) ⟨c0, c1⟩
    generalize addZ t3 (msg.size : Int) = t4 at *
    go_wp2_with fail
    refine (add_any _ _ _ ⟨d0, d1⟩).mono ?_
    rintro e w1 ⟨rfl, rfl⟩
    obtain ⟨e0, e1⟩ := addZ_range (n := (mr.size : Int)) ⟨d0, d1⟩
    generalize addZ t4 (mr.size : Int) = t5 at *
    go_wp2_with fail
    refine (add_any _ _ _ ⟨e0, e1⟩).mono ?_
    rintro e w1 ⟨rfl, rfl⟩
    obtain ⟨f0, f1⟩ := addZ_range (n := 16 * (pn : Int)) ⟨e0, e1⟩
    generalize addZ t5 (16 * (pn : Int)) = t6 at *
    go_wp2_with fail
    go_loop [0, 5] (fun s i => ∃ k : Nat, k ≤ pn ∧ i = .int .i64 k ∧ ∃ r : Int, 0 ≤ r ∧ r ≤ 4194304 ∧ s = .int .i64 r) (fun _ i => pn - (intOf i).toNat)
    case atStart => exact ⟨0, Nat.zero_le _, rfl, t6, f0, f1, rfl⟩
    case round =>
      obtain ⟨k, hk, rfl, r, hr0, hr1, rfl⟩ := hrel
      by_cases hlt : k < pn
      · obtain ⟨hpn', -, -, hrow⟩ := HP.out
        simp only at hpn' hrow
        rcases hrow with h | ⟨pb, off, hpa, hcells⟩
        · omega
        have rk := hcells k (by omega)
        subst hpa
        generalize ps[k] = s at *
        clear hcells hpn'
        go_wp2_with fail
        refine (add_any _ _ _ ⟨hr0, hr1⟩).mono ?_
        rintro e w1 ⟨rfl, rfl⟩
        obtain ⟨g0, g1⟩ := addZ_range (n := (s.size : Int)) ⟨hr0, hr1⟩
        generalize addZ r (s.size : Int) = r' at *
        go_wp2_with fail
        go_round
        case rel => exact ⟨k + 1, by omega, by go_num, r', g0, g1, rfl⟩
        case measure => simp [intOf]; omega
      · go_wp2_with fail
        go_ret
        exact ⟨⟨r, hr0, hr1, rfl⟩, HB.out⟩

theorem ZAt.cells {w : World} {tb o : Nat} {c : Cm} (h : ZAt w tb o c) : w.cell? ⟨tb, o, none⟩ = some (.string c.id) ∧ w.cell? ⟨tb, o + 1, none⟩ = some (.slice c.pa c.pn c.pc) ∧ w.cell? ⟨tb, o + 2, none⟩ = some (.string c.com) ∧ w.cell? ⟨tb, o + 3, none⟩ = some (.string c.msg) ∧ w.cell? ⟨tb, o + 4, none⟩ = some (.int .i64 c.cr) ∧ w.cell? ⟨tb, o + 5, none⟩ = some (.string c.mr) ∧ w.cell? ⟨tb, o + 6, none⟩ = some (.int .i64 c.gen) := h

set_option maxHeartbeats 2000000 in
theorem addTable_any (t : Int) (ta : Option Addr) (tc : Nat) (T : List Cm) (w : World) (ht : 0 ≤ t ∧ t ≤ 4194304) (hT : TabA w ta T) :
    Calls Try.prog 6 #[.int .i64 t, .slice ta T.length tc] w fun e w' => (∃ r, 0 ≤ r ∧ r ≤ 4194304 ∧ e = .returned (.int .i64 r)) ∧ Below w.heap.size w w' := by
  have hn := hT.1
  have HT := hide hT
  clear hT
  obtain ⟨h0, h1⟩ := ht
  obtain ⟨n, hnT⟩ : ∃ n, n = T.length := ⟨_, rfl⟩
  rw [← hnT] at hn ⊢
  have HN := hide hnT
  clear hnT
  by_cases hbig : 1048576 < n
  · go_enter Try.func6, Try.ntmps6
    go_wp2
    go_ret
    exact ⟨⟨_, by omega, by omega, rfl⟩, Below.refl _ _⟩
  · go_enter Try.func6, Try.ntmps6
    go_wp2_with fail
    go_loopw [0, 5] (fun s i wr => ∃ k : Nat, k ≤ n ∧ i = .int .i64 k ∧ Hid (Below w.heap.size w wr) ∧ ∃ r : Int, 0 ≤ r ∧ r ≤ 4194304 ∧ s = .int .i64 r) (fun _ i _ => n - (intOf i).toNat)
    case atStart => exact ⟨0, Nat.zero_le _, rfl, Below.refl _ _, t, h0, h1, rfl⟩
    case round =>
      obtain ⟨k, hk, rfl, HB, r, hr0, hr1, rfl⟩ := hrel
      by_cases hlt : k < n
      · have hkT : k < T.length := by have := HN.out; omega
        obtain ⟨-, -, hpar, hrow⟩ := HT.out
        have HPK := hide ((hpar _ (List.getElem_mem hkT)).below HB.out)
        rcases hrow with h | ⟨tb, off, hta, hcells⟩
        · rw [h] at hkT; simp at hkT
        obtain ⟨z0, z1, z2, z3, z4, z5, z6⟩ := (hcells k hkT).below HB.out
        generalize T[k] = c at *
        clear hcells hpar
        subst hta
        go_wp2_with fail
        refine (addCommit_any _ c _ ⟨hr0, hr1⟩ HPK.out).mono ?_
        rintro e w1 ⟨⟨r', g0, g1, rfl⟩, hb1⟩
        have HB1 := chain HB hb1
        clear hb1
        go_wp2_with fail
        go_roundw
        case rel => exact ⟨k + 1, by omega, by go_num, HB1.out, r', g0, g1, rfl⟩
        case measure => simp [intOf]; omega
      · go_wp2_with fail
        go_ret
        exact ⟨⟨r, hr0, hr1, rfl⟩, HB.out⟩

/-- The number of parents in a list of commits. -/
def refsOf (T : List Cm) : Nat := (T.map (·.pn)).sum

set_option maxHeartbeats 2000000 in
theorem refs_any (a b : Cm) (ta : Option Addr) (tc : Nat) (T : List Cm) (w : World) (hT : TabA w ta T) :
    Calls Try.prog 8 #[zval a, zval b, .slice ta T.length tc] w fun e w' => (∃ r : Int, e = .returned (.int .i64 r) ∧ (r ≤ 1048576 → r = ((a.pn + b.pn + refsOf T : Nat) : Int))) ∧ Below w.heap.size w w' := by
  have hn := hT.1
  have HB : Hid (Below w.heap.size w ((w.alloc (.cells #[.string a.id, .slice a.pa a.pn a.pc, .string a.com, .string a.msg, .int .i64 a.cr, .string a.mr, .int .i64 a.gen] 24)).alloc (.cells #[.string b.id, .slice b.pa b.pn b.pc, .string b.com, .string b.msg, .int .i64 b.cr, .string b.mr, .int .i64 b.gen] 24))) := ((Below.refl _ _).alloc (Nat.le_refl _) _).alloc (by simp only [World.size_alloc]; omega) _
  have HT := hide (hT.below HB.out)
  clear hT
  obtain ⟨n, hnT⟩ : ∃ n, n = T.length := ⟨_, rfl⟩
  rw [← hnT] at hn ⊢
  have HN := hide hnT
  clear hnT
  go_enter Try.func8, Try.ntmps8
  go_wp2_with fail
  refine (add_any _ _ _ ⟨by omega, by omega⟩).mono ?_
  rintro e w1 ⟨rfl, rfl⟩
  obtain ⟨a0, a1⟩ := addZ_range (t := 0) (n := (a.pn : Int)) ⟨by omega, by omega⟩
  have HA : Hid (addZ 0 (a.pn : Int) ≤ 1048576 → addZ 0 (a.pn : Int) = (a.pn : Nat)) := hide fun h => by
    have := addZ_eq (t := 0) (n := (a.pn : Int)) ⟨by omega, by omega⟩ h
    omega
  generalize addZ 0 (a.pn : Int) = t1 at *
  go_wp2_with fail
  refine (add_any _ _ _ ⟨a0, a1⟩).mono ?_
  rintro e w1 ⟨rfl, rfl⟩
  obtain ⟨b0, b1⟩ := addZ_range (n := (b.pn : Int)) ⟨a0, a1⟩
  have HBB : Hid (addZ t1 (b.pn : Int) ≤ 1048576 → addZ t1 (b.pn : Int) = ((a.pn + b.pn + refsOf (T.take 0) : Nat) : Int)) := hide fun h => by
    have h1 := addZ_eq ⟨a0, a1⟩ h
    have h2 := HA.out (by omega)
    have h3 : refsOf (T.take 0) = 0 := rfl
    omega
  generalize addZ t1 (b.pn : Int) = t2 at *
  clear HA
  go_wp2_with fail
  go_loop [7, 8] (fun s i => ∃ k : Nat, k ≤ n ∧ i = .int .i64 k ∧ ∃ r : Int, 0 ≤ r ∧ r ≤ 4194304 ∧ s = .int .i64 r ∧ Hid (r ≤ 1048576 → r = ((a.pn + b.pn + refsOf (T.take k) : Nat) : Int))) (fun _ i => n - (intOf i).toNat)
  case atStart => exact ⟨0, Nat.zero_le _, rfl, t2, b0, b1, rfl, HBB.out⟩
  case round =>
    obtain ⟨k, hk, rfl, r, hr0, hr1, rfl, HR⟩ := hrel
    by_cases hlt : k < n
    · have hkT : k < T.length := by have := HN.out; omega
      obtain ⟨-, -, hpar, hrow⟩ := HT.out
      rcases hrow with h | ⟨tb, off, hta, hcells⟩
      · rw [h] at hkT; simp at hkT
      obtain ⟨z0, z1, z2, z3, z4, z5, z6⟩ := hcells k hkT
      have HK : Hid (refsOf (T.take (k + 1)) = refsOf (T.take k) + T[k].pn) := hide (by
        unfold refsOf
        rw [List.take_succ_eq_append_getElem hkT]
        simp only [List.map_append, List.map_cons, List.map_nil, List.sum_append, List.sum_cons, List.sum_nil, Nat.add_zero])
      generalize T[k] = c at *
      clear hcells hpar
      subst hta
      go_wp2_with fail
      refine (add_any _ _ _ ⟨hr0, hr1⟩).mono ?_
      rintro e w1 ⟨rfl, rfl⟩
      obtain ⟨g0, g1⟩ := addZ_range (n := (c.pn : Int)) ⟨hr0, hr1⟩
      have HR' : Hid (addZ r (c.pn : Int) ≤ 1048576 → addZ r (c.pn : Int) = ((a.pn + b.pn + refsOf (T.take (k + 1)) : Nat) : Int)) := hide fun h => by
        have h1 := addZ_eq ⟨hr0, hr1⟩ h
        have h2 := HR.out (by omega)
        have h3 := HK.out
        omega
      generalize addZ r (c.pn : Int) = r' at *
      clear HR HK
      go_wp2_with fail
      go_round
      case rel => exact ⟨k + 1, by omega, by go_num, r', g0, g1, rfl, HR'.out⟩
      case measure => simp [intOf]; omega
    · have HE : Hid (r ≤ 1048576 → r = ((a.pn + b.pn + refsOf T : Nat) : Int)) := hide (by
        have := HR.out
        rw [List.take_of_length_le (by have := HN.out; omega)] at this
        exact this)
      go_wp2_with fail
      go_ret
      exact ⟨⟨r, rfl, HE.out⟩, HB.out⟩
end Go.Proofs.Qxb6605835a
