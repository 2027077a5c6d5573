import Derived.Test.Qxb6605835aHeap
namespace Go.Proofs.Qxb6605835a
open Go.ChangeShapes Go.WideShapes Go.ChangeAt Go.RowKit
set_option linter.unusedVariables false

/-! ### The queue's row of pointers -/
/-- Block g of w is a row of cap pointers, the first of which lead to the blocks l. -/
def QRow (w : World) (g cap : Nat) (l : List Nat) : Prop := ∃ rest : List Value, Blk w g 62 ((l.map ptr ++ rest).toArray) ∧ l.length + rest.length = cap

theorem QRow.cell {w : World} {g cap : Nat} {l : List Nat} (h : QRow w g cap l) {i : Nat} (hi : i < l.length) : w.cell? ⟨g, i, none⟩ = some (ptr (nth l i)) := by
  obtain ⟨rest, hb, _⟩ := h
  rw [hb.cell, nth_eq l i hi]
  simp [List.getElem?_append_left, hi]

theorem QRow.free {w : World} {g cap : Nat} {l : List Nat} (h : QRow w g cap l) (i : Nat) : w.frozen? ⟨g, i, none⟩ = false := by
  obtain ⟨rest, hb, _⟩ := h
  exact hb.free i

theorem QRow.lt {w : World} {g cap : Nat} {l : List Nat} (h : QRow w g cap l) : g < w.heap.size := by
  obtain ⟨rest, hb, _⟩ := h
  exact hb.lt

theorem QRow.kept {w w' : World} {g cap : Nat} {l : List Nat} {S : Nat → Prop} (h : QRow w g cap l) (hk : Keeps w w' S) (hs : ¬ S g) : QRow w' g cap l := by
  obtain ⟨rest, hb, hl⟩ := h
  exact ⟨rest, hb.kept hk hs, hl⟩

theorem QRow.below {w w' : World} {g cap : Nat} {l : List Nat} (h : QRow w g cap l) (hb : Below w.heap.size w w') : QRow w' g cap l := h.kept (Keeps.of_below hb (fun _ => False)) (fun f => f)

theorem QRow.set {w : World} {g cap : Nat} {l : List Nat} (h : QRow w g cap l) {i : Nat} (hi : i < l.length) (b : Nat) : QRow (w.setCell ⟨g, i, none⟩ (ptr b)) g cap (l.set i b) := by
  obtain ⟨rest, hb, hl⟩ := h
  refine ⟨rest, ?_, by simpa using hl⟩
  have e : ((l.map ptr ++ rest).toArray).setIfInBounds i (ptr b) = ((l.set i b).map ptr ++ rest).toArray := by
    rw [List.setIfInBounds_toArray, List.set_append_left _ _ (by simpa using hi), List.map_set]
  rw [← e]
  exact hb.set i (ptr b)

theorem QRow.swap {w : World} {g cap : Nat} {l : List Nat} (h : QRow w g cap l) {i j : Nat} (hi : i < l.length) (hj : j < l.length) : QRow ((w.setCell ⟨g, i, none⟩ (ptr (nth l j))).setCell ⟨g, j, none⟩ (ptr (nth l i))) g cap (swp l i j) :=
  (h.set hi (nth l j)).set (by simpa using hj) (nth l i)

theorem QRow.ne {w : World} {g cap b : Nat} {l : List Nat} {t : TypeId} {arr : Array Value} (h : QRow w g cap l) (hb : Blk w b t arr) (ht : t ≠ 62) : b ≠ g := by
  obtain ⟨rest, hg, _⟩ := h
  exact hb.ne hg ht

/-- The order of the nodes' blocks. -/
def ltK (K : Nat → Cm) (a b : Nat) : Bool := (K a).less (K b)

theorem ordK (K : Nat → Cm) : Ord (ltK K) := ⟨fun a b h => Cm.less_asym _ _ h, fun a b c h1 h2 => Cm.less_tr _ _ _ h1 h2⟩

/-- Every block of the list is the node of its commit. -/
def Nodes (w : World) (K : Nat → Cm) (l : List Nat) : Prop := ∀ b ∈ l, IsNode w b (K b)

theorem Nodes.kept {w w' : World} {K : Nat → Cm} {l : List Nat} {S : Nat → Prop} (h : Nodes w K l) (hk : Keeps w w' S) (hs : ∀ b ∈ l, ¬ S b) : Nodes w' K l := fun b hb => (h b hb).kept hk (hs b hb)

theorem Nodes.perm {w : World} {K : Nat → Cm} {l l' : List Nat} (h : Nodes w K l) (hp : l'.Perm l) : Nodes w K l' := fun b hb => h b (hp.mem_iff.1 hb)

theorem Nodes.ne {w : World} {K : Nat → Cm} {l l' : List Nat} {g cap : Nat} (h : Nodes w K l) (hq : QRow w g cap l') : ∀ b ∈ l, ¬ b = g := fun b hb => by
  obtain ⟨p, q, hn⟩ := h b hb
  exact hq.ne hn (by decide)

/-- The state of the queue: the walk's block, the row, the nodes. -/
structure QS (w : World) (wb g cap : Nat) (K : Nat → Cm) (l : List Nat) : Prop where
  arr : ∃ arr, Blk w wb 85 arr ∧ arr[2]? = some (.slice (some ⟨g, 0, none⟩) l.length cap)
  row : QRow w g cap l
  nodes : Nodes w K l

theorem QS.kept {w w' : World} {wb g cap : Nat} {K : Nat → Cm} {l l' : List Nat} (h : QS w wb g cap K l) (hk : Keeps w w' (· = g)) (hl : l'.length = l.length) (hm : ∀ b ∈ l', b ∈ l) (hr : QRow w' g cap l') : QS w' wb g cap K l' := by
  obtain ⟨⟨arr, hb, ha⟩, hrow, hn⟩ := h
  refine ⟨⟨arr, hb.kept hk (hrow.ne hb (by decide)), by rw [hl]; exact ha⟩, hr, fun b hb' => (hn b (hm b hb')).kept hk (hn.ne hrow b (hm b hb'))⟩

theorem QS.cell {w : World} {wb g cap : Nat} {K : Nat → Cm} {l : List Nat} (h : QS w wb g cap K l) : w.cell? ⟨wb, 2, none⟩ = some (.slice (some ⟨g, 0, none⟩) l.length cap) := by
  obtain ⟨⟨arr, hb, ha⟩, _, _⟩ := h
  rw [hb.cell, ha]

theorem QS.below {w w' : World} {wb g cap : Nat} {K : Nat → Cm} {l : List Nat} (h : QS w wb g cap K l) (hb : Below w.heap.size w w') : QS w' wb g cap K l :=
  h.kept (Keeps.of_below hb _) rfl (fun _ h => h) (h.row.below hb)

set_option maxHeartbeats 1000000 in
theorem up_any (wb g cap j : Nat) (K : Nat → Cm) (l : List Nat) (w : World) (hq : QS w wb g cap K l) (hlen : l.length ≤ 1000000) (hj : j < l.length) (hu : UpInv (ltK K) l j) :
    Calls Try.prog 58 #[.iface 99 (.pointer (some ⟨wb, 2, none⟩)), .int .i64 j] w fun e w' => e = .returned (.tuple #[]) ∧ ∃ l', l'.Perm l ∧ HeapN (ltK K) l' l'.length ∧ QS w' wb g cap K l' ∧ Keeps w w' (· = g) := by
  have HQ := hide hq
  have HU := hide hu
  clear hq hu
  go_enter Try.func58, Try.ntmps58
  go_wp2
  go_loopw [1] (fun v wr => ∃ (k : Nat) (l' : List Nat), v = .int .i64 k ∧ k < l.length ∧ Hid (l'.Perm l ∧ UpInv (ltK K) l' k ∧ QS wr wb g cap K l' ∧ Keeps w wr (· = g))) (fun v _ => (intOf v).toNat)
  case atStart => exact ⟨j, l, rfl, hj, List.Perm.refl _, HU.out, HQ.out, Keeps.refl _ _⟩
  case round =>
    obtain ⟨k, l', rfl, hk, HR⟩ := hrel
    obtain ⟨hp, hui, hqs, hkp⟩ := HR.out
    have hll : l'.length = l.length := hp.length_eq
    by_cases hz : k = 0
    · subst hz
      have HE : Hid (HeapN (ltK K) l' l'.length) := up_zero hui
      clear hui hqs hkp hp hll
      go_wp2
      go_end0
      obtain ⟨hp, hui, hqs, hkp⟩ := HR.out
      exact ⟨rfl, l', hp, HE.out, hqs, hkp⟩
    · have e1 : ((k : Int) - 1) / 2 = (((k - 1) / 2 : Nat) : Int) := by omega
      have hpk : (k - 1) / 2 < k := by omega
      obtain ⟨p, hpd⟩ : ∃ p, p = (k - 1) / 2 := ⟨_, rfl⟩
      rw [← hpd] at e1 hpk
      have HPD := hide hpd
      have hne : ((p : Int) == (k : Int)) = false := by rw [beq_eq_false_iff_ne]; omega
      have hk1 : 1 ≤ k := by omega
      have hm := mLess ⟨wb, 2, none⟩ _ wr hqs.cell
      rw [hll] at hm
      have HC : Hid (∀ n, n = l'.length → Calls Try.prog 78 #[.slice (some ⟨g, 0, none⟩) n cap, .int .i64 k, .int .i64 p] wr fun e w' => e = .returned (.bool (ltK K (nth l' k) (nth l' p))) ∧ Below wr.heap.size wr w') := hide fun n hn => by
        subst hn
        exact less_any g _ cap k p _ _ _ _ wr (by omega) (by omega) (by omega) (hqs.row.cell (by omega)) (hqs.row.cell (by omega)) (hqs.nodes _ (nth_mem _ _ (by omega))) (hqs.nodes _ (nth_mem _ _ (by omega)))
      have HLL := hide hll
      clear hui hqs hkp hp hll hpd hz
      go_wp2_with fail
      refine (HC.out _ HLL.out.symm).mono ?_
      rintro e w1 ⟨rfl, hb1⟩
      obtain ⟨hp, hui, hqs, hkp⟩ := HR.out
      have HB1 := hide hb1
      have hq1 := hqs.below hb1
      cases hlt : ltK K (nth l' k) (nth l' p) with
      | false =>
        have HE : Hid (HeapN (ltK K) l' l'.length) := up_stop hui (by rw [← HPD.out]; exact hlt)
        have HQ1 := hide hq1
        clear hui hqs hkp hp hb1 hq1 hlt
        go_wp2_with fail
        go_end0
        obtain ⟨hp, hui, hqs, hkp⟩ := HR.out
        exact ⟨rfl, l', hp, HE.out, HQ1.out, hkp.trans (Keeps.of_below HB1.out _)⟩
      | true =>
        have hm1 := mSwap ⟨wb, 2, none⟩ _ w1 hq1.cell
        rw [HLL.out] at hm1
        have HE : Hid (UpInv (ltK K) (swp l' p k) p) := hide (by have := up_step (ordK K) hui (by have := HLL.out; omega) (by omega) (by rw [← HPD.out]; exact hlt); rwa [← HPD.out] at this)
        have HQ1 := hide hq1
        have HS : Hid (Calls Try.prog 79 #[.slice (some ⟨g, 0, none⟩) l.length cap, .int .i64 p, .int .i64 k] w1 fun e w' => e = .returned (.tuple #[]) ∧ w' = ((w1.setCell ⟨g, p, none⟩ (ptr (nth l' k))).setCell ⟨g, k, none⟩ (ptr (nth l' p))).drew) :=
          swap_any g l.length cap p k w1 (by omega) (by omega) (by omega) _ _ (hq1.row.cell (by have := HLL.out; omega)) (hq1.row.cell (by have := HLL.out; omega)) (hq1.row.free _) (hq1.row.free _)
        clear hui hqs hkp hp hb1 hq1 hlt
        go_wp2_with fail
        refine HS.out.mono ?_
        rintro e w2 ⟨rfl, hw2⟩
        have HW2 := hide hw2
        clear hw2
        go_wp2_with fail
        go_roundw
        case rel =>
          obtain ⟨hp, hui, hqs, hkp⟩ := HR.out
          have hll := HLL.out
          have hk2 : Keeps w1 w2 (· = g) := by
            rw [HW2.out]
            exact (((Keeps.refl w1 (· = g)).set g p _ (.inl rfl)).set g k _ (.inl rfl)).drew
          refine ⟨p, swp l' p k, rfl, by omega, (swp_perm l' p k (by omega) (by omega)).trans hp, HE.out, ?_, (hkp.trans (Keeps.of_below HB1.out _)).trans hk2⟩
          refine HQ1.out.kept hk2 (swp_len _ _ _) (fun b hb => (swp_perm l' p k (by omega) (by omega)).mem_iff.1 hb) ?_
          rw [HW2.out]
          exact HQ1.out.row.swap (by omega) (by omega)
        case measure => simp [intOf]; omega
end Go.Proofs.Qxb6605835a
