import Derived.Test.Qxb6605835aUp
namespace Go.Proofs.Qxb6605835a
open Go.ChangeShapes Go.WideShapes Go.ChangeAt Go.RowKit
set_option linter.unusedVariables false

/-- A call of Less at the queue's state. -/
theorem QS.less {w : World} {wb g cap : Nat} {K : Nat → Cm} {l : List Nat} (hq : QS w wb g cap K l) {n i j : Nat} {x y : Int} (hx : x = (i : Int)) (hy : y = (j : Int)) (hn : n = l.length) (hlen : l.length ≤ 1000000) (hi : i < l.length) (hj : j < l.length) :
    Calls Try.prog 78 #[.slice (some ⟨g, 0, none⟩) n cap, .int .i64 x, .int .i64 y] w fun e w' => e = .returned (.bool (ltK K (nth l i) (nth l j))) ∧ Below w.heap.size w w' := by
  subst hn hx hy
  exact less_any g _ cap i j _ _ _ _ w hi hj hlen (hq.row.cell hi) (hq.row.cell hj) (hq.nodes _ (nth_mem _ _ hi)) (hq.nodes _ (nth_mem _ _ hj))

/-- A call of Swap at the queue's state. -/
theorem QS.swap {w : World} {wb g cap : Nat} {K : Nat → Cm} {l : List Nat} (hq : QS w wb g cap K l) {n i j : Nat} {x y : Int} (hx : x = (i : Int)) (hy : y = (j : Int)) (hn : n = l.length) (hlen : l.length ≤ 1000000) (hi : i < l.length) (hj : j < l.length) :
    Calls Try.prog 79 #[.slice (some ⟨g, 0, none⟩) n cap, .int .i64 x, .int .i64 y] w fun e w' => e = .returned (.tuple #[]) ∧ QS w' wb g cap K (swp l i j) ∧ Keeps w w' (· = g) := by
  subst hn hx hy
  refine (swap_any g l.length cap i j w hi hj hlen _ _ (hq.row.cell hi) (hq.row.cell hj) (hq.row.free _) (hq.row.free _)).mono ?_
  rintro e w' ⟨rfl, hw⟩
  have hk : Keeps w w' (· = g) := by
    rw [hw]
    exact (((Keeps.refl w (· = g)).set g i _ (.inl rfl)).set g j _ (.inl rfl)).drew
  refine ⟨rfl, hq.kept hk (swp_len _ _ _) (fun b hb => (swp_perm l i j hi hj).mem_iff.1 hb) ?_, hk⟩
  rw [hw]
  exact hq.row.swap hi hj

theorem lt_self (K : Nat → Cm) (a : Nat) : ltK K a a = false := by
  cases h : ltK K a a
  · rfl
  · exact absurd ((ordK K).asym _ _ h) (by rw [h]; decide)

/-- The call has given a bool. -/
def GaveBool (e : Ending) : Prop := ∃ b, e = .returned (.bool b)

/-- What the loop of down keeps. -/
def DownR (w wr : World) (wb g cap : Nat) (K : Nat → Cm) (l : List Nat) (n i : Nat) (l' : List Nat) : Prop :=
  l'.Perm l ∧ DownInv (ltK K) l' i n ∧ QS wr wb g cap K l' ∧ Keeps w wr (· = g) ∧ ∀ k, n ≤ k → nth l' k = nth l k

set_option maxHeartbeats 2000000 in
theorem down_any (wb g cap n : Nat) (K : Nat → Cm) (l : List Nat) (w : World) (hq : QS w wb g cap K l) (hlen : l.length ≤ 1000000) (hn : n < l.length) (hu : DownInv (ltK K) l 0 n) :
    Calls Try.prog 57 #[.iface 99 (.pointer (some ⟨wb, 2, none⟩)), .int .i64 0, .int .i64 n] w fun e w' => GaveBool e ∧ ∃ l', l'.Perm l ∧ HeapN (ltK K) l' n ∧ QS w' wb g cap K l' ∧ Keeps w w' (· = g) ∧ ∀ k, n ≤ k → nth l' k = nth l k := by
  have HQ := hide hq
  have HU := hide hu
  clear hq hu
  go_enter Try.func57, Try.ntmps57
  go_wp2
  go_loopw [7, 8, 9, 10] (fun v _ _ _ wr => ∃ (i : Nat) (l' : List Nat), v = .int .i64 i ∧ i ≤ n ∧ Hid (DownR w wr wb g cap K l n i l')) (fun v _ _ _ _ => n - (intOf v).toNat)
  case atStart => exact ⟨0, l, rfl, Nat.zero_le _, List.Perm.refl _, HU.out, HQ.out, Keeps.refl _ _, fun _ _ => rfl⟩
  case round =>
    obtain ⟨i, l', rfl, hi, HR⟩ := hrel
    obtain ⟨hp, hui, hqs, hkp, hfix⟩ := HR.out
    have hll : l'.length = l.length := hp.length_eq
    by_cases hz : n ≤ 2 * i + 1
    · have HE : Hid (HeapN (ltK K) l' n) := down_end hui hz
      clear hui hqs hkp hp hll hfix
      go_wp2
      go_ret
      obtain ⟨hp, hui, hqs, hkp, hfix⟩ := HR.out
      exact ⟨⟨_, rfl⟩, l', hp, HE.out, hqs, hkp, hfix⟩
    · have hm := mLess ⟨wb, 2, none⟩ _ wr hqs.cell
      rw [hll] at hm
      have HLL := hide hll
      have HQS := hide hqs
      have HKP := hide hkp
      by_cases hj2 : 2 * i + 1 + 1 < n
      · clear hui hqs hkp hp hfix hll
        go_wp2_with fail
        refine (HQS.out.less (i := 2 * i + 2) (j := 2 * i + 1) (by omega) (by omega) HLL.out.symm (by rw [HLL.out]; exact hlen) (by have := HLL.out; omega) (by have := HLL.out; omega)).mono ?_
        rintro e w1 ⟨rfl, hb1⟩
        have hq1 := HQS.out.below hb1
        have hm1 := mLess ⟨wb, 2, none⟩ _ w1 hq1.cell
        rw [HLL.out] at hm1
        have HB1 := hide hb1
        have HQ1 := hide hq1
        clear hb1 hq1
        cases hlt : ltK K (nth l' (2 * i + 2)) (nth l' (2 * i + 1)) with
        | false =>
          have HLT := hide hlt
          clear hlt
          go_wp2_with fail
          refine (HQ1.out.less (i := 2 * i + 1) (j := i) (by omega) (by omega) HLL.out.symm (by rw [HLL.out]; exact hlen) (by have := HLL.out; omega) (by have := HLL.out; omega)).mono ?_
          rintro e w9 ⟨rfl, hb9⟩
          have hq9 := HQ1.out.below hb9
          have HB9 := hide hb9
          have HQ9 := hide hq9
          cases hlt9 : ltK K (nth l' (2 * i + 1)) (nth l' i) with
          | false =>
            have HE : Hid (HeapN (ltK K) l' n) := hide (down_stop (ordK K) (j := 2 * i + 1) HR.out.2.1 (fun k hk _ => by rcases hk with rfl | rfl; exact lt_self K _; exact HLT.out) hlt9)
            clear hb9 hq9 hlt9
            go_wp2_with fail
            go_ret
            obtain ⟨hp, hui, hqs, hkp, hfix⟩ := HR.out
            exact ⟨⟨_, rfl⟩, l', hp, HE.out, HQ9.out, (HKP.out.trans (Keeps.of_below HB1.out _)).trans (Keeps.of_below HB9.out _), hfix⟩
          | true =>
            have HE : Hid (DownInv (ltK K) (swp l' i (2 * i + 1)) (2 * i + 1) n) := hide (down_step (ordK K) HR.out.2.1 (by have := HLL.out; omega) (by omega) (by omega) (fun k hk _ => by rcases hk with rfl | rfl; exact lt_self K _; exact HLT.out) hlt9)
            have hm9 := mSwap ⟨wb, 2, none⟩ _ w9 hq9.cell
            rw [HLL.out] at hm9
            clear hb9 hq9 hlt9
            go_wp2_with fail
            refine (HQ9.out.swap (i := i) (j := 2 * i + 1) (by omega) (by omega) HLL.out.symm (by rw [HLL.out]; exact hlen) (by have := HLL.out; omega) (by have := HLL.out; omega)).mono ?_
            rintro e w8 ⟨rfl, hq8, hk8⟩
            have HQ8 := hide hq8
            have HK8 := hide hk8
            clear hq8 hk8
            go_wp2_with fail
            go_roundw
            case rel =>
              obtain ⟨hp, hui, hqs, hkp, hfix⟩ := HR.out
              have hll := HLL.out
              refine ⟨2 * i + 1, swp l' i (2 * i + 1), by go_num, by omega, (swp_perm l' i (2 * i + 1) (by omega) (by omega)).trans hp, HE.out, HQ8.out, ((HKP.out.trans (Keeps.of_below HB1.out _)).trans (Keeps.of_below HB9.out _)).trans HK8.out, fun k hk => ?_⟩
              rw [swp_nth l' i (2 * i + 1) (by omega) (by omega), if_neg (by omega), if_neg (by omega)]
              exact hfix k hk
            case measure => simp [intOf]; omega
        | true =>
          have HLT := hide hlt
          clear hlt
          go_wp2_with fail
          refine (HQ1.out.less (i := 2 * i + 2) (j := i) (by omega) (by omega) HLL.out.symm (by rw [HLL.out]; exact hlen) (by have := HLL.out; omega) (by have := HLL.out; omega)).mono ?_
          rintro e w9 ⟨rfl, hb9⟩
          have hq9 := HQ1.out.below hb9
          have HB9 := hide hb9
          have HQ9 := hide hq9
          cases hlt9 : ltK K (nth l' (2 * i + 2)) (nth l' i) with
          | false =>
            have HE : Hid (HeapN (ltK K) l' n) := hide (down_stop (ordK K) (j := 2 * i + 2) HR.out.2.1 (fun k hk _ => by rcases hk with rfl | rfl; exact (ordK K).asym _ _ HLT.out; exact lt_self K _) hlt9)
            clear hb9 hq9 hlt9
            go_wp2_with fail
            go_ret
            obtain ⟨hp, hui, hqs, hkp, hfix⟩ := HR.out
            exact ⟨⟨_, rfl⟩, l', hp, HE.out, HQ9.out, (HKP.out.trans (Keeps.of_below HB1.out _)).trans (Keeps.of_below HB9.out _), hfix⟩
          | true =>
            have HE : Hid (DownInv (ltK K) (swp l' i (2 * i + 2)) (2 * i + 2) n) := hide (down_step (ordK K) HR.out.2.1 (by have := HLL.out; omega) (by omega) (by omega) (fun k hk _ => by rcases hk with rfl | rfl; exact (ordK K).asym _ _ HLT.out; exact lt_self K _) hlt9)
            have hm9 := mSwap ⟨wb, 2, none⟩ _ w9 hq9.cell
            rw [HLL.out] at hm9
            clear hb9 hq9 hlt9
            go_wp2_with fail
            refine (HQ9.out.swap (i := i) (j := 2 * i + 2) (by omega) (by omega) HLL.out.symm (by rw [HLL.out]; exact hlen) (by have := HLL.out; omega) (by have := HLL.out; omega)).mono ?_
            rintro e w8 ⟨rfl, hq8, hk8⟩
            have HQ8 := hide hq8
            have HK8 := hide hk8
            clear hq8 hk8
            go_wp2_with fail
            go_roundw
            case rel =>
              obtain ⟨hp, hui, hqs, hkp, hfix⟩ := HR.out
              have hll := HLL.out
              refine ⟨2 * i + 2, swp l' i (2 * i + 2), by go_num, by omega, (swp_perm l' i (2 * i + 2) (by omega) (by omega)).trans hp, HE.out, HQ8.out, ((HKP.out.trans (Keeps.of_below HB1.out _)).trans (Keeps.of_below HB9.out _)).trans HK8.out, fun k hk => ?_⟩
              rw [swp_nth l' i (2 * i + 2) (by omega) (by omega), if_neg (by omega), if_neg (by omega)]
              exact hfix k hk
            case measure => simp [intOf]; omega
      · clear hui hqs hkp hp hfix hll
        go_wp2_with fail
        refine (HQS.out.less (i := 2 * i + 1) (j := i) (by omega) (by omega) HLL.out.symm (by rw [HLL.out]; exact hlen) (by have := HLL.out; omega) (by have := HLL.out; omega)).mono ?_
        rintro e w9 ⟨rfl, hb9⟩
        have hq9 := HQS.out.below hb9
        have HB9 := hide hb9
        have HQ9 := hide hq9
        cases hlt9 : ltK K (nth l' (2 * i + 1)) (nth l' i) with
        | false =>
          have HE : Hid (HeapN (ltK K) l' n) := hide (down_stop (ordK K) (j := 2 * i + 1) HR.out.2.1 (fun k hk hkn => by rcases hk with rfl | rfl; exact lt_self K _; omega) hlt9)
          clear hb9 hq9 hlt9
          go_wp2_with fail
          go_ret
          obtain ⟨hp, hui, hqs, hkp, hfix⟩ := HR.out
          exact ⟨⟨_, rfl⟩, l', hp, HE.out, HQ9.out, (HKP.out).trans (Keeps.of_below HB9.out _), hfix⟩
        | true =>
          have HE : Hid (DownInv (ltK K) (swp l' i (2 * i + 1)) (2 * i + 1) n) := hide (down_step (ordK K) HR.out.2.1 (by have := HLL.out; omega) (by omega) (by omega) (fun k hk hkn => by rcases hk with rfl | rfl; exact lt_self K _; omega) hlt9)
          have hm9 := mSwap ⟨wb, 2, none⟩ _ w9 hq9.cell
          rw [HLL.out] at hm9
          clear hb9 hq9 hlt9
          go_wp2_with fail
          refine (HQ9.out.swap (i := i) (j := 2 * i + 1) (by omega) (by omega) HLL.out.symm (by rw [HLL.out]; exact hlen) (by have := HLL.out; omega) (by have := HLL.out; omega)).mono ?_
          rintro e w8 ⟨rfl, hq8, hk8⟩
          have HQ8 := hide hq8
          have HK8 := hide hk8
          clear hq8 hk8
          go_wp2_with fail
          go_roundw
          case rel =>
            obtain ⟨hp, hui, hqs, hkp, hfix⟩ := HR.out
            have hll := HLL.out
            refine ⟨2 * i + 1, swp l' i (2 * i + 1), by go_num, by omega, (swp_perm l' i (2 * i + 1) (by omega) (by omega)).trans hp, HE.out, HQ8.out, ((HKP.out).trans (Keeps.of_below HB9.out _)).trans HK8.out, fun k hk => ?_⟩
            rw [swp_nth l' i (2 * i + 1) (by omega) (by omega), if_neg (by omega), if_neg (by omega)]
            exact hfix k hk
          case measure => simp [intOf]; omega

end Go.Proofs.Qxb6605835a
