import Derived.Test.Qxb6605835aHoldsP
import Derived.Test.Qxb6605835aGrW
namespace Go.Proofs.Qxb6605835a
open Go.ChangeShapes Go.WideShapes Go.ChangeAt Go.RowKit
set_option linter.unusedVariables false

/-- The graph in memory: its struct's block, the row of commits, the row of rows of indices. -/
structure GA (w : World) (gb ng nc pg pc : Nat) (G : List Cm) (PI : List (List Nat)) (bi : Nat) : Prop where
  blk : Blk w gb 58 #[.slice (some ⟨ng, 0, none⟩) G.length nc, .slice (some ⟨pg, 0, none⟩) PI.length pc, .int .i64 bi]
  nodes : ∀ i (h : i < G.length), CAt w ng (i * 8) G[i]
  rows : ∀ i (h : i < PI.length), ∃ rb, w.cell? ⟨pg, i, none⟩ = some (.slice (some ⟨rb, 0, none⟩) PI[i].length PI[i].length) ∧ ∀ j (hj : j < PI[i].length), w.cell? ⟨rb, j, none⟩ = some (.int .i64 PI[i][j])

theorem GA.below {w w' : World} {gb ng nc pg pc : Nat} {G : List Cm} {PI : List (List Nat)} {bi : Nat} (h : GA w gb ng nc pg pc G PI bi) (hb : Below w.heap.size w w') : GA w' gb ng nc pg pc G PI bi :=
  ⟨h.blk.below hb h.blk.lt, fun i hi => (h.nodes i hi).below hb, fun i hi => by
    obtain ⟨rb, h1, h2⟩ := h.rows i hi
    exact ⟨rb, cell_below hb h1, fun j hj => cell_below hb (h2 j hj)⟩⟩

/-- The rows of indices are those of the parents. -/
structure GP (G : List Cm) (PI : List (List Nat)) : Prop where
  len : PI.length = G.length
  psl : ∀ i (h : i < PI.length), PI[i].length ≤ 9000
  lt : ∀ i (h : i < PI.length), ∀ j ∈ PI[i], j < G.length
  par : ∀ i (h : i < PI.length) (h' : i < G.length), ∀ d, d ∈ G[i].ps ↔ ∃ j ∈ PI[i], ∃ hj : j < G.length, G[j].id = d

set_option maxHeartbeats 2000000 in
theorem find_any (g cap : Nat) (G : List Cm) (id : ByteArray) (w : World) (hc : ∀ i (h : i < G.length), CAt w g (i * 8) G[i]) (hl : G.length ≤ 100000) :
    Calls Try.prog 48 #[.slice (some ⟨g, 0, none⟩) G.length cap, .string id] w fun e w' => e = .returned (.int .i64 (ixZ (G.map (·.id)) id)) ∧ w = w' := by
  have HC : Hid (∀ i (hi : i < (G.map (·.id)).length), w.cell? ⟨g, i * 8, none⟩ = some (.string (G.map (·.id))[i])) := hide fun i hi => by
    have := (hc i (by simpa using hi)).1
    simpa using this
  clear hc
  have hln : G.length = (G.map (·.id)).length := by simp
  rw [hln] at hl ⊢
  generalize G.map (·.id) = l at *
  obtain ⟨n, hn⟩ : ∃ n, n = l.length := ⟨_, rfl⟩
  rw [← hn] at hl ⊢
  have HN := hide hn
  clear hn hln
  go_enter Try.func48, Try.ntmps48
  go_wp2
  go_loop [5] (fun i => ∃ k : Nat, k ≤ n ∧ i = .int .i64 k ∧ Hid (∀ j (hj : j < l.length), j < k → l[j].toList ≠ id.toList)) (fun i => n - (intOf i).toNat)
  case atStart => exact ⟨0, Nat.zero_le _, rfl, fun j _ h => by omega⟩
  case round =>
    obtain ⟨k, hk, rfl, HF⟩ := hrel
    by_cases hlt : k < n
    · have hkl : k < l.length := by have := HN.out; omega
      have r := HC.out k hkl
      have HR : Hid (l[k].toList = id.toList → ixZ l id = k) := hide fun h => by
        have := ix_eq hkl h HF.out
        unfold ixZ
        rw [this, if_pos hkl]
      have HF' : Hid (l[k].toList ≠ id.toList → ∀ j (hj : j < l.length), j < k + 1 → l[j].toList ≠ id.toList) := hide fun h j hj hjk => by
        by_cases e : j = k
        · subst e; exact h
        · exact HF.out j hj (by omega)
      generalize l[k] = s at *
      cases hb : (s.toList == id.toList) with
      | true =>
        have HRR := hide (HR.out (by rw [beq_iff_eq] at hb; exact hb))
        go_wp2
        go_ret
        exact ⟨ret_int HRR.out.symm, rfl⟩
      | false =>
        have HFF := hide (HF'.out (by rw [beq_eq_false_iff_ne] at hb; exact hb))
        go_wp2
        go_round
        case rel => exact ⟨k + 1, by omega, by go_num, HFF.out⟩
        case measure => simp [intOf]; omega
    · have HR : Hid (ixZ l id = -1) := hide (by
        unfold ixZ
        rw [if_neg]
        rw [ix_lt]
        intro hm
        obtain ⟨j, hj, e⟩ := List.mem_iff_getElem.1 hm
        exact HF.out j hj (by have := HN.out; omega) (by rw [e]))
      go_wp2
      go_ret
      exact ⟨ret_int HR.out.symm, rfl⟩

/-- The order of the results: later Created first, then the least ID. -/
def Cm.before (x y : Cm) : Bool := decide (y.cr < x.cr) || (decide (x.cr = y.cr) && Op.bytesLess x.id.toList y.id.toList)

set_option maxHeartbeats 2000000 in
theorem before_any (x y : Cm) (w : World) :
    Calls Try.prog 51 #[cval x, cval y] w fun e w' => e = .returned (.bool (x.before y)) ∧ Below w.heap.size w w' := by
  have HB : Hid (Below w.heap.size w ((w.alloc (boxed x)).alloc (boxed y))) := ((Below.refl _ _).alloc (Nat.le_refl _) _).alloc (by simp only [World.size_alloc]; omega) _
  obtain ⟨id, pa, pn, pc, ps, com, msg, cr, mr, gen⟩ := x
  obtain ⟨id', pa', pn', pc', ps', com', msg', cr', mr', gen'⟩ := y
  by_cases h1 : cr' < cr
  · have HR : Hid (Cm.before ⟨id, pa, pn, pc, ps, com, msg, cr, mr, gen⟩ ⟨id', pa', pn', pc', ps', com', msg', cr', mr', gen'⟩ = true) := hide (by simp [Cm.before, h1])
    go_enter Try.func51, Try.ntmps51
    go_wp2
    go_ret
    exact ⟨ret_bool HR.out.symm, HB.out⟩
  · by_cases h2 : cr = cr'
    · have HR : Hid (Cm.before ⟨id, pa, pn, pc, ps, com, msg, cr, mr, gen⟩ ⟨id', pa', pn', pc', ps', com', msg', cr', mr', gen'⟩ = Op.bytesLess id.toList id'.toList) := hide (by simp [Cm.before, h2])
      have t2 : (cr == cr') = true := by simp [h2]
      clear h2
      go_enter Try.func51, Try.ntmps51
      go_wp2
      go_ret
      exact ⟨ret_bool HR.out.symm, HB.out⟩
    · have HR : Hid (Cm.before ⟨id, pa, pn, pc, ps, com, msg, cr, mr, gen⟩ ⟨id', pa', pn', pc', ps', com', msg', cr', mr', gen'⟩ = false) := hide (by simp [Cm.before, h1, h2])
      have t2 : (cr == cr') = false := by simp [h2]
      go_enter Try.func51, Try.ntmps51
      go_wp2
      go_ret
      exact ⟨ret_bool HR.out.symm, HB.out⟩
end Go.Proofs.Qxb6605835a
