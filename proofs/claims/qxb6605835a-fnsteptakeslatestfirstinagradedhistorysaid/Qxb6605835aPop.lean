import Derived.Test.Qxb6605835aPush
namespace Go.Proofs.Qxb6605835a
open Go.ChangeShapes Go.WideShapes Go.ChangeAt Go.RowKit
set_option linter.unusedVariables false

/-- What Pop leaves: the last element, and the slice without it. -/
theorem popM_any (wb B g cap : Nat) (arr : Array Value) (l : List Nat) (x : Nat) (w : World) (hb : Blk w wb 85 arr) (ha : arr.size = 6) (h2 : arr[2]? = some (.slice (some ⟨g, 0, none⟩) (l.length + 1) cap)) (hown : Own w B (.slice (some ⟨g, 0, none⟩) (l.length + 1) cap) (l ++ [x])) (hlen : l.length ≤ 999999) :
    Calls Try.prog 82 #[.pointer (some ⟨wb, 2, none⟩)] w fun e w' => e = .returned (.iface 62 (ptr x)) ∧ w' = w.setCell ⟨wb, 2, none⟩ (.slice (some ⟨g, 0, none⟩) l.length cap) := by
  obtain ⟨-, hrow, hcap, -⟩ := hown.row
  have hc : w.cell? ⟨wb, 2, none⟩ = some (.slice (some ⟨g, 0, none⟩) (l.length + 1) cap) := by rw [hb.cell, h2]
  have hf := hb.free 2
  have hl : w.cell? ⟨g, l.length, none⟩ = some (ptr x) := by
    rw [hrow.cell (by simp)]
    simp [nth, List.getD]
  have hcl : l.length + 1 ≤ cap := by
    obtain ⟨rest, _, hr⟩ := hrow
    simp at hr
    omega
  clear hb h2 hown hrow ha
  unfold maxLen at hcap
  generalize l.length = n at *
  go_enter Try.func82, Try.ntmps82
  go_wp2
  go_ret
  exact ⟨rfl, rfl⟩

theorem nth_take (l : List Nat) (n i : Nat) (h : i < n) : nth (l.take n) i = nth l i := by
  simp [nth, List.getD, h]

theorem take_last (l : List Nat) (n : Nat) (h : l.length = n + 1) : l = l.take n ++ [nth l n] := by
  rw [nth_eq l n (by omega)]
  have := List.take_succ_eq_append_getElem (l := l) (i := n) (by omega)
  rw [← this, List.take_of_length_le (by omega)]

set_option maxHeartbeats 1000000 in
/-- heap.Pop gives the first of the queue, and leaves the rest in heap order. -/
theorem hpop_any (wb B g cap : Nat) (K : Nat → Cm) (arr : Array Value) (l : List Nat) (w : World) (hb : Blk w wb 85 arr) (ha : arr.size = 6) (h2 : arr[2]? = some (.slice (some ⟨g, 0, none⟩) l.length cap)) (hown : Own w B (.slice (some ⟨g, 0, none⟩) l.length cap) l)
    (hlen : l.length ≤ 1000000) (hpos : 0 < l.length) (hn : Nodes w K l) (hh : HeapN (ltK K) l l.length) :
    Calls Try.prog 55 #[.iface 99 (.pointer (some ⟨wb, 2, none⟩))] w fun e w' => e = .returned (.iface 62 (ptr (nth l 0))) ∧ ∃ l', (l' ++ [nth l 0]).Perm l ∧ HeapN (ltK K) l' l'.length ∧ Own w' B (.slice (some ⟨g, 0, none⟩) l'.length cap) l' ∧
      Blk w' wb 85 (arr.setIfInBounds 2 (.slice (some ⟨g, 0, none⟩) l'.length cap)) ∧ Keeps w w' (fun k => k = wb ∨ k = g) := by
  obtain ⟨n, hnl⟩ : ∃ n, l.length = n + 1 := ⟨l.length - 1, by omega⟩
  obtain ⟨-, hrow, hcap, hBg⟩ := hown.row
  have hq : QS w wb g cap K l := ⟨⟨arr, hb, h2⟩, hrow, hn⟩
  have HQ := hide hq
  have HB := hide hb
  have HH := hide hh
  have HA := hide ha
  have H2 := hide h2
  have HCAP := hide (And.intro hcap hBg)
  have hmL := mLen ⟨wb, 2, none⟩ _ w hq.cell
  have hmS := mSwap ⟨wb, 2, none⟩ _ w hq.cell
  rw [hnl] at hmL hmS
  have HNL := hide hnl
  have hn1 : n ≤ 999999 := by omega
  clear hb hown hn hh h2 ha hrow hq hcap hBg hnl hlen hpos
  go_enter Try.func55, Try.ntmps55
  go_wp2_with (go_at_call 77; refine (len_any _ _ _ _).mono ?_; rintro e w2 ⟨rfl, rfl⟩)
  refine (HQ.out.swap (i := 0) (j := n) (by omega) (by omega) HNL.out.symm (by rw [HNL.out]; omega) (by rw [HNL.out]; omega) (by rw [HNL.out]; omega)).mono ?_
  rintro e w1 ⟨rfl, hq1, hk1⟩
  have HQ1 := hide hq1
  have HK1 := hide hk1
  clear hq1 hk1
  go_wp2_with fail
  refine (down_any wb g cap n K (swp l 0 n) w1 HQ1.out (by rw [swp_len, HNL.out]; omega) (by rw [swp_len, HNL.out]; omega) (pop_inv HH.out HNL.out)).mono ?_
  rintro e w2 ⟨⟨bb, rfl⟩, l2, hp2, hh2, hq2, hk2, hfix⟩
  have hmP := mPop ⟨wb, 2, none⟩ w2
  have hl2 : l2.length = n + 1 := by rw [hp2.length_eq, swp_len, HNL.out]
  have hlast : nth l2 n = nth l 0 := by
    rw [hfix n (Nat.le_refl _), swp_nth l 0 n (by rw [HNL.out]; omega) (by rw [HNL.out]; omega), if_pos rfl]
  have hsp : l2 = l2.take n ++ [nth l 0] := by rw [← hlast]; exact take_last l2 n hl2
  have hb2 : Blk w2 wb 85 arr := HB.out.kept (HK1.out.trans hk2) (HQ.out.row.ne HB.out (by decide))
  have htl : (l2.take n).length = n := by simp; omega
  have hown2 : Own w2 B (.slice (some ⟨g, 0, none⟩) ((l2.take n).length + 1) cap) (l2.take n ++ [nth l 0]) := by
    have h := hq2.row.own HCAP.out.1 HCAP.out.2
    rw [← hsp, htl, ← hl2]
    exact h
  have HP : Hid (Calls Try.prog 82 #[.pointer (some ⟨wb, 2, none⟩)] w2 fun e w' => e = .returned (.iface 62 (ptr (nth l 0))) ∧ w' = w2.setCell ⟨wb, 2, none⟩ (.slice (some ⟨g, 0, none⟩) (l2.take n).length cap)) :=
    popM_any wb B g cap arr (l2.take n) (nth l 0) w2 hb2 HA.out (by rw [H2.out, HNL.out, htl]) hown2 (by omega)
  have HE : Hid (∃ l', (l' ++ [nth l 0]).Perm l ∧ HeapN (ltK K) l' l'.length ∧ Own (w2.setCell ⟨wb, 2, none⟩ (.slice (some ⟨g, 0, none⟩) (l2.take n).length cap)) B (.slice (some ⟨g, 0, none⟩) l'.length cap) l' ∧
      Blk (w2.setCell ⟨wb, 2, none⟩ (.slice (some ⟨g, 0, none⟩) (l2.take n).length cap)) wb 85 (arr.setIfInBounds 2 (.slice (some ⟨g, 0, none⟩) l'.length cap)) ∧ Keeps w (w2.setCell ⟨wb, 2, none⟩ (.slice (some ⟨g, 0, none⟩) (l2.take n).length cap)) (fun k => k = wb ∨ k = g)) := hide <| by
    refine ⟨l2.take n, ?_, ?_, ?_, hb2.set 2 _, ?_⟩
    · rw [← hsp]
      exact hp2.trans (swp_perm l 0 n (by rw [HNL.out]; omega) (by rw [HNL.out]; omega))
    · intro i h0 h1
      rw [htl] at h1
      rw [nth_take _ _ _ h1, nth_take _ _ _ (by omega)]
      exact hh2 i h0 h1
    · have hr : QRow w2 g cap (l2.take n) := by
        obtain ⟨rest, hbr, hlr⟩ := hq2.row
        refine ⟨ptr (nth l 0) :: rest, ?_, by simp; omega⟩
        have e : (l2.take n).map ptr ++ ptr (nth l 0) :: rest = l2.map ptr ++ rest := by
          conv => rhs; rw [hsp]
          simp
        rw [e]
        exact hbr
      refine (hr.own HCAP.out.1 HCAP.out.2).kept (S := fun k => k = wb) ((Keeps.refl _ _).set wb 2 _ (.inl rfl)) ?_
      intro g' hg' e
      simp [Value.ownBlock] at hg'
      exact hr.ne hb2 (by decide) (by omega)
    · exact (((HK1.out.trans hk2).mono (fun k _ h => .inr h))).set wb 2 _ (.inl (.inl rfl))
  clear hp2 hh2 hq2 hk2 hfix hl2 hlast hsp hb2 htl hown2
  go_wp2_with fail
  refine HP.out.mono ?_
  rintro e w3 ⟨rfl, hw3⟩
  have HW3 := hide hw3
  clear hw3
  go_wp2_with fail
  go_ret
  exact ⟨rfl, by rw [HW3.out]; exact HE.out⟩
end Go.Proofs.Qxb6605835a
