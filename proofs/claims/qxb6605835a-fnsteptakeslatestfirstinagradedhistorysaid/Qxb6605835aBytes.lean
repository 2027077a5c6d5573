import Derived.Test.Qxb6605835aCloneT
namespace Go.Proofs.Qxb6605835a
open Go.ChangeShapes Go.WideShapes Go.ChangeAt Go.RowKit
set_option linter.unusedVariables false
/-- The call returned a truth value. -/
def RetBool (e : Ending) : Prop := ∃ r : Bool, e = .returned (.bool r)

set_option maxHeartbeats 20000000 in
set_option maxRecDepth 20000 in
theorem bytes5_any (a b : Cm) (ta : Option Addr) (tc : Nat) (T : List Cm) (w : World) (ha : ParA w a) (hb : ParA w b) (hT : TabA w ta T) :
    Calls Try.prog 5 #[zval a, zval b, .slice ta T.length tc] w fun e w' => RetBool e ∧ Below w.heap.size w w' := by
  have HB : Hid (Below w.heap.size w ((w.alloc (.cells (zarr a) 24)).alloc (.cells (zarr b) 24))) := ((Below.refl _ _).alloc (Nat.le_refl _) _).alloc (by simp only [World.size_alloc]; omega) _
  have HA := hide (ha.below HB.out)
  have HBB := hide (hb.below HB.out)
  have HT := hide (hT.below HB.out)
  have hn := hT.1
  have hpa0 := ha.2.1
  have hpb0 := hb.2.1
  clear ha hb hT
  obtain ⟨n, hnT⟩ : ∃ n, n = T.length := ⟨_, rfl⟩
  rw [← hnT] at hn ⊢
  have HN := hide hnT
  clear hnT
  obtain ⟨aid, apa, apn, apc, aps, acom, amsg, acr, amr, agen⟩ := a
  obtain ⟨bid, bpa, bpn, bpc, bps, bcom, bmsg, bcr, bmr, bgen⟩ := b
  simp only at HA HBB HB HT hpa0 hpb0 ⊢
  go_enter Try.func5, Try.ntmps5
  go_wp2_with fail
  any_goals (go_ret; exact ⟨⟨_, rfl⟩, HB.out⟩)
  go_loop [7, 8] (fun s i => ∃ k : Nat, k ≤ apn ∧ i = .int .i64 k ∧ ∃ r : Int, 0 ≤ r ∧ r ≤ 1048576 ∧ s = .int .i64 r) (fun _ i => apn - (intOf i).toNat)
  case atStart => exact ⟨0, Nat.zero_le _, rfl, _, by omega, by omega, rfl⟩
  case round =>
    obtain ⟨k, hk, rfl, r, hr0, hr1, rfl⟩ := hrel
    by_cases hlt : k < apn
    · obtain ⟨hpn', -, -, hrow⟩ := HA.out
      simp only at hpn' hrow
      rcases hrow with h | ⟨pb, off, hpa, hcells⟩
      · omega
      have rk := hcells k (by omega)
      subst hpa
      generalize aps[k] = s at *
      clear hcells hpn'
      go_wp2_with fail
      any_goals (go_ret; exact ⟨⟨_, rfl⟩, HB.out⟩)
      go_round
      case rel => exact ⟨k + 1, by omega, by go_num, _, by omega, by omega, rfl⟩
      case measure => simp [intOf]; omega
    · go_wp2_with fail
      any_goals (go_ret; exact ⟨⟨_, rfl⟩, HB.out⟩)
      go_loop [7, 9] (fun s i => ∃ k : Nat, k ≤ bpn ∧ i = .int .i64 k ∧ ∃ r : Int, 0 ≤ r ∧ r ≤ 1048576 ∧ s = .int .i64 r) (fun _ i => bpn - (intOf i).toNat)
      case atStart => exact ⟨0, Nat.zero_le _, rfl, _, by omega, by omega, rfl⟩
      case round =>
        obtain ⟨k2, hk2, rfl, r2, hr20, hr21, rfl⟩ := hrel
        by_cases hlt2 : k2 < bpn
        · obtain ⟨hpn', -, -, hrow⟩ := HBB.out
          simp only at hpn' hrow
          rcases hrow with h | ⟨pb, off, hpa, hcells⟩
          · omega
          have rk := hcells k2 (by omega)
          subst hpa
          generalize bps[k2] = s at *
          clear hcells hpn'
          go_wp2_with fail
          any_goals (go_ret; exact ⟨⟨_, rfl⟩, HB.out⟩)
          go_round
          case rel => exact ⟨k2 + 1, by omega, by go_num, _, by omega, by omega, rfl⟩
          case measure => simp [intOf]; omega
        · go_wp2_with fail
          any_goals (go_ret; exact ⟨⟨_, rfl⟩, HB.out⟩)
          go_loop [7, 10] (fun s i => ∃ k : Nat, k ≤ n ∧ i = .int .i64 k ∧ ∃ r : Int, 0 ≤ r ∧ r ≤ 1048576 ∧ s = .int .i64 r) (fun _ i => n - (intOf i).toNat)
          case atStart => exact ⟨0, Nat.zero_le _, rfl, _, by omega, by omega, rfl⟩
          case round =>
            obtain ⟨k3, hk3, rfl, r3, hr30, hr31, rfl⟩ := hrel
            by_cases hlt3 : k3 < n
            · have hkT : k3 < T.length := by have := HN.out; omega
              obtain ⟨-, -, hpar, hrow⟩ := HT.out
              rcases hrow with h | ⟨tb, off, hta, hcells⟩
              · rw [h] at hkT; simp at hkT
              obtain ⟨z0, z1, z2, z3, z4, z5, z6⟩ := hcells k3 hkT
              have HPK := hide (hpar _ (List.getElem_mem hkT))
              generalize T[k3] = c at *
              clear hcells hpar
              subst hta
              obtain ⟨cid, cpa, cpn, cpc, cps, ccom, cmsg, ccr, cmr, cgen⟩ := c
              simp only at z0 z1 z2 z3 z4 z5 z6 HPK
              go_wp2_with fail
              any_goals (go_ret; exact ⟨⟨_, rfl⟩, HB.out⟩)
              go_loop [7, 11] (fun s i => ∃ k : Nat, k ≤ cpn ∧ i = .int .i64 k ∧ ∃ r : Int, 0 ≤ r ∧ r ≤ 1048576 ∧ s = .int .i64 r) (fun _ i => cpn - (intOf i).toNat)
              case atStart => exact ⟨0, Nat.zero_le _, rfl, _, by omega, by omega, rfl⟩
              case round =>
                obtain ⟨k4, hk4, rfl, r4, hr40, hr41, rfl⟩ := hrel
                by_cases hlt4 : k4 < cpn
                · obtain ⟨hpn', -, -, hrow⟩ := HPK.out
                  simp only at hpn' hrow
                  rcases hrow with h | ⟨pb, off2, hpa, hcells⟩
                  · omega
                  have rk := hcells k4 (by omega)
                  subst hpa
                  generalize cps[k4] = s at *
                  clear hcells hpn'
                  go_wp2_with fail
                  any_goals (go_ret; exact ⟨⟨_, rfl⟩, HB.out⟩)
                  go_round
                  case rel => exact ⟨k4 + 1, by omega, by go_num, _, by omega, by omega, rfl⟩
                  case measure => simp [intOf]; omega
                · go_wp2_with fail
                  any_goals (go_ret; exact ⟨⟨_, rfl⟩, HB.out⟩)
                  go_round
                  case rel => exact ⟨k3 + 1, by omega, by go_num, _, by omega, by omega, rfl⟩
                  case measure => simp [intOf]; omega
            · go_wp2_with fail
              go_ret
              exact ⟨⟨_, rfl⟩, HB.out⟩

end Go.Proofs.Qxb6605835a
