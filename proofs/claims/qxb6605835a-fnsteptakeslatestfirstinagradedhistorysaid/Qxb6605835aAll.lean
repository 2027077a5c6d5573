import Derived.Test.Qxb6605835aGh
namespace Go.Proofs.Qxb6605835a
open Go.ChangeShapes Go.WideShapes Go.ChangeAt Go.RowKit
set_option linter.unusedVariables false

/-- What allGradedFalling says. -/
def Graded (G : List Cm) (PI : List (List Nat)) : Prop := ∀ i (h : i < G.length) (h' : i < PI.length), G[i].gen ≠ 0 ∧ ∀ j ∈ PI[i], ∀ hj : j < G.length, G[j].gen < G[i].gen

/-- .. of the first k. -/
def GradedK (G : List Cm) (PI : List (List Nat)) (k : Nat) : Prop := ∀ i (h : i < G.length) (h' : i < PI.length), i < k → G[i].gen ≠ 0 ∧ ∀ j ∈ PI[i], ∀ hj : j < G.length, G[j].gen < G[i].gen

/-- A bool that, where true, vouches for p. -/
def SaysIf (p : Prop) (e : Ending) : Prop := ∃ r : Bool, e = .returned (.bool r) ∧ (r = true → p)

set_option maxHeartbeats 4000000 in
set_option maxRecDepth 8000 in
theorem graded_any (gb ng nc pg pc bi : Nat) (G : List Cm) (PI : List (List Nat)) (w : World) (h : GA w gb ng nc pg pc G PI bi) (hp : GP G PI) (hl : G.length ≤ 100000) :
    Calls Try.prog 24 #[ptr gb] w fun e w' => SaysIf (Graded G PI) e ∧ Below w.heap.size w w' := by
  have HA := hide h
  have HP := hide hp
  obtain ⟨n, hn⟩ : ∃ n, n = G.length := ⟨_, rfl⟩
  have hm : PI.length = n := by rw [hp.len, hn]
  have HBK : Hid (Blk w gb 58 #[.slice (some ⟨ng, 0, none⟩) n nc, .slice (some ⟨pg, 0, none⟩) n pc, .int .i64 bi]) := hide (by
    have := h.blk
    rw [← hn, hm] at this
    exact this)
  rw [← hn] at hl
  have HN := hide hn
  have HM := hide hm
  clear h hp hn hm
  go_enter Try.func24, Try.ntmps24
  go_wp2_with fail
  go_loopw [3] (fun i wr => ∃ k : Nat, k ≤ n ∧ i = .int .i64 k ∧ Hid (Below w.heap.size w wr) ∧ Hid (GradedK G PI k)) (fun i _ => n - (intOf i).toNat)
  case atStart => exact ⟨0, Nat.zero_le _, rfl, Below.refl _ _, fun i _ _ h => by omega⟩
  case round =>
    obtain ⟨k, hk, rfl, HBW, HG⟩ := hrel
    have hbk := HBK.out.below HBW.out HBK.out.lt
    have d0 : wr.cell? ⟨gb, 0, none⟩ = some (.slice (some ⟨ng, 0, none⟩) n nc) := hbk.cell 0
    have d1 : wr.cell? ⟨gb, 1, none⟩ = some (.slice (some ⟨pg, 0, none⟩) n pc) := hbk.cell 1
    clear hbk
    by_cases hlt : k < n
    · have hkG : k < G.length := by have := HN.out; omega
      have hkP : k < PI.length := by have := HM.out; omega
      have c7 := cell_below HBW.out (HA.out.nodes k hkG).2.2.2.2.2.2.2
      obtain ⟨rb, hrow, hcell⟩ := HA.out.rows k hkP
      have c1 := cell_below HBW.out hrow
      have hpl := HP.out.psl k hkP
      have HRC := hide hcell
      obtain ⟨m, hm⟩ : ∃ m, m = PI[k].length := ⟨_, rfl⟩
      rw [← hm] at c1 hpl
      have HML := hide hm
      clear hrow hcell hm
      by_cases hg : G[k].gen = 0
      · have tg : (G[k].gen == 0) = true := by rw [hg]; rfl
        clear hg
        go_wp2_with fail
        go_ret
        exact ⟨⟨false, rfl, fun h => by cases h⟩, HBW.out⟩
      · have tg : (G[k].gen == 0) = false := by rw [beq_eq_false_iff_ne]; exact hg
        have HGN := hide hg
        clear hg
        go_wp2_with fail
        clear tg
        go_loopw [32] (fun i wr => ∃ q : Nat, q ≤ m ∧ i = .int .i64 q ∧ Hid (Below w.heap.size w wr) ∧ Hid (∀ t (ht : t < PI[k].length), t < q → ∀ hj : PI[k][t] < G.length, G[PI[k][t]].gen < G[k].gen)) (fun i _ => m - (intOf i).toNat)
        case atStart => exact ⟨0, Nat.zero_le _, rfl, HBW.out, fun t _ h => by omega⟩
        case round =>
          obtain ⟨q, hq, rfl, HBI, HGI⟩ := hrel
          by_cases hlq : q < m
          · have hqP : q < PI[k].length := by have := HML.out; omega
            have hj := HP.out.lt k hkP _ (List.getElem_mem hqP)
            have e1 := cell_below HBI.out (HRC.out q hqP)
            have hbk := HBK.out.below HBI.out HBK.out.lt
            have e0 : wr.cell? ⟨gb, 0, none⟩ = some (.slice (some ⟨ng, 0, none⟩) n nc) := hbk.cell 0
            have e7 := cell_below HBI.out (HA.out.nodes k hkG).2.2.2.2.2.2.2
            have ej := cell_below HBI.out (HA.out.nodes _ hj).2.2.2.2.2.2.2
            have hjn : PI[k][q] < n := by have := HN.out; omega
            have HST : Hid (G[PI[k][q]].gen < G[k].gen → ∀ t (ht : t < PI[k].length), t < q + 1 → ∀ hj : PI[k][t] < G.length, G[PI[k][t]].gen < G[k].gen) := hide fun h t ht htq hj' => by
              by_cases e : t = q
              · subst e; exact h
              · exact HGI.out t ht (by omega) hj'
            clear hbk
            generalize G[k].gen = gk at *
            generalize G[PI[k][q]].gen = gj at *
            generalize PI[k][q] = jj at *
            clear c7 c1 d0 d1
            by_cases hge : gk ≤ gj
            · clear HST HGI HG
              go_wp2_with fail
              go_quiet (fail)
              go_wp2_with fail
              go_ret
              exact ⟨⟨false, rfl, fun h => by cases h⟩, below_drewN HBI.out _⟩
            · have HST' := hide (HST.out (by omega))
              clear HST HGI
              go_wp2_with fail
              go_quiet (fail)
              go_wp2_with fail
              go_roundw
              case rel => exact ⟨q + 1, by omega, by go_num, below_drewN HBI.out _, HST'.out⟩
              case measure => simp [intOf]; omega
          · have HG' : Hid (GradedK G PI (k + 1)) := hide (by
              intro i h h' hik
              by_cases e : i = k
              · subst e
                refine ⟨HGN.out, fun j hj hjl => ?_⟩
                obtain ⟨t, ht, rfl⟩ := List.mem_iff_getElem.1 hj
                exact HGI.out t ht (by have := HML.out; omega) hjl
              · exact HG.out i h h' (by omega))
            go_wp2_with fail
            go_roundw
            case rel => exact ⟨k + 1, by omega, by go_num, HBI.out, HG'.out⟩
            case measure => simp [intOf]; omega
    · have HE : Hid (Graded G PI) := hide fun i h h' => HG.out i h h' (by have := HN.out; omega)
      go_wp2_with fail
      go_ret
      exact ⟨⟨true, rfl, fun _ => HE.out⟩, HBW.out⟩
end Go.Proofs.Qxb6605835a
