import Derived.Test.Qxb6605835aIds
namespace Go.Proofs.Qxb6605835a
open Go.ChangeShapes Go.WideShapes Go.ChangeAt Go.RowKit
set_option linter.unusedVariables false

/-- The IDs that a table names. -/
def tabIds (T : List Cm) : List ByteArray := T.flatMap (fun c => c.id :: c.ps)

theorem tabIds_len (T : List Cm) (h : ∀ c ∈ T, c.pn = c.ps.length) : (tabIds T).length = T.length + refsOf T := by
  induction T with
  | nil => rfl
  | cons x r ih =>
    have := ih (fun c hc => h c (by simp [hc]))
    unfold tabIds refsOf at this ⊢
    simp only [List.flatMap_cons, List.length_append, List.length_cons, List.map_cons, List.sum_cons]
    rw [this, h x (by simp)]
    omega

/-- What the loops of zzKnownIDs keep. -/
def KW (w wr : World) (v : Value) (M : List ByteArray) : Prop := ∃ l, OwnS wr w.heap.size v l ∧ KInv l M ∧ Below w.heap.size w wr

theorem KW.cast {w wr : World} {v : Value} {M M' : List ByteArray} (h : KW w wr v M) (e : M = M') : KW w wr v M' := e ▸ h

/-- What zzKnownIDs promises. -/
def KPost (w : World) (M : List ByteArray) (e : Ending) (w' : World) : Prop := ∃ v, e = .returned v ∧ KW w w' v M

theorem KW.add {w wr : World} {v : Value} {M : List ByteArray} (h : KW w wr v M) (id : ByteArray) (hl : M.length ≤ 999999) :
    Calls Try.prog 37 #[v, .string id] wr fun e w' => ∃ v', e = .returned v' ∧ KW w w' v' (M ++ [id]) := by
  obtain ⟨l, h1, h2, h3⟩ := h
  refine (addID_any h1 h3.size id (Nat.le_trans h2.2.1 hl)).mono ?_
  rintro e w' ⟨v', rfl, ho, hb⟩
  exact ⟨v', rfl, _, ho, h2.add id, h3.trans hb⟩

theorem Par.row {w0 wr : World} {c : Cm} (h : Par w0 c) (hb : Below w0.heap.size w0 wr) (k : Nat) (hk : k < c.pn) : ∃ pb off, c.pa = some ⟨pb, off, none⟩ ∧ ∃ hj : k < c.ps.length, wr.cell? ⟨pb, off + k, none⟩ = some (.string c.ps[k]) := by
  obtain ⟨h1, h2, h3⟩ := h
  rcases h3 with h3 | ⟨b, off, e, hc⟩
  · omega
  · exact ⟨b, off, e, by omega, cell_below hb (hc k (by omega))⟩

set_option maxHeartbeats 8000000 in
set_option maxRecDepth 8000 in
theorem known_any (a b : Cm) (ta : Option Addr) (tc : Nat) (T : List Cm) (w : World) (ha : Par w a) (hb : Par w b) (hT : Tab w ta T) (hp : ∀ c ∈ T, Par w c) (hl : 2 + a.pn + b.pn + T.length + refsOf T ≤ 900000) :
    Calls Try.prog 11 #[zval a, zval b, .slice ta T.length tc] w fun e w' => KPost w ([a.id, b.id] ++ a.ps ++ b.ps ++ tabIds T) e w' := by
  obtain ⟨W2, hW2⟩ : ∃ W2, W2 = (w.alloc (.cells (zarr a) 24)).alloc (.cells (zarr b) 24) := ⟨_, rfl⟩
  have HB0 : Hid (Below w.heap.size w W2) := hide (by rw [hW2]; exact ((Below.refl _ _).alloc (Nat.le_refl _) _).alloc (by simp only [World.size_alloc]; omega) _)
  have HXA : Hid (Blk W2 w.heap.size 24 (zarr a)) := hide (by rw [hW2]; exact (Blk.new w 24 (zarr a)).alloc _)
  have HXB : Hid (Blk W2 (w.heap.size + 1) 24 (zarr b)) := hide (by
    have := Blk.new (w.alloc (.cells (zarr a) 24)) 24 (zarr b)
    rw [World.size_alloc] at this
    rw [hW2]; exact this)
  have HS : Hid (KW W2 W2 (.slice none 0 0) []) := hide ⟨[], OwnS.nil _ _, ⟨by simp, by simp, by simp⟩, Below.refl _ _⟩
  have HSZ : Hid (W2.heap.size = w.heap.size + 2) := hide (by rw [hW2]; simp only [World.size_alloc])
  have HPA := hide (ha.kept (Keeps.of_below HB0.out (fun _ => False)) (fun _ _ => id))
  have HPB := hide (hb.kept (Keeps.of_below HB0.out (fun _ => False)) (fun _ _ => id))
  have HT := hide (hT.below HB0.out)
  have HP : Hid (∀ c ∈ T, Par W2 c) := hide fun c hc => (hp c hc).kept (Keeps.of_below HB0.out (fun _ => False)) (fun _ _ => id)
  have HTL := hide (tabIds_len T (fun c hc => (hp c hc).1))
  have HAL := hide ha.1
  have HBL := hide hb.1
  obtain ⟨n, hn⟩ : ∃ n, n = T.length := ⟨_, rfl⟩
  rw [← hn]
  have HN := hide hn
  have HL := hide hl
  clear ha hb hT hp hn hl
  obtain ⟨aid, apa, apn, apc, aps, acom, amsg, acr, amr, agen⟩ := a
  obtain ⟨bid, bpa, bpn, bpc, bps, bcom, bmsg, bcr, bmr, bgen⟩ := b
  simp only at HXA HXB HPA HPB HAL HBL HL hW2 ⊢
  have HW2 := hide hW2
  have hapn : apn ≤ 900000 := by have := HL.out; omega
  have hbpn : bpn ≤ 900000 := by have := HL.out; omega
  have hnn : n ≤ 900000 := by have := HL.out; have := HN.out; omega
  have x0 : W2.cell? ⟨w.heap.size, 0, none⟩ = some (.string aid) := HXA.out.cell 0
  rw [hW2] at x0
  go_enter Try.func11, Try.ntmps11
  go_wp2_with fail
  rw [← HW2.out]
  refine (HS.out.add aid (by simp)).mono ?_
  rintro e w1 ⟨v1, rfl, hk1⟩
  have HK1 := hide hk1
  have y0 : w1.cell? ⟨w.heap.size + 1, 0, none⟩ = some (.string bid) := by
    obtain ⟨_, _, _, hb⟩ := hk1
    exact cell_below hb (HXB.out.cell 0)
  clear hk1 x0 hW2
  go_wp2_with fail
  refine (HK1.out.add bid (by simp)).mono ?_
  rintro e w2 ⟨v2, rfl, hk2⟩
  have HK2 : Hid (KW W2 w2 v2 ([aid, bid] ++ aps.take 0)) := hide (by simpa using hk2)
  clear hk2 y0 HK1
  go_wp2_with fail
  go_loopw [7, 8] (fun v i wr => ∃ k : Nat, k ≤ apn ∧ i = .int .i64 k ∧ Hid (KW W2 wr v ([aid, bid] ++ aps.take k))) (fun _ i _ => apn - (intOf i).toNat)
  case atStart => exact ⟨0, Nat.zero_le _, rfl, HK2.out⟩
  case round =>
    obtain ⟨k, hk, rfl, HK⟩ := hrel
    have x1 : wr.cell? ⟨w.heap.size, 1, none⟩ = some (.slice apa apn apc) := by
      obtain ⟨_, _, _, hb⟩ := HK.out
      exact cell_below hb (HXA.out.cell 1)
    by_cases hlt : k < apn
    · obtain ⟨pb, off, hpa, hj, rk⟩ : ∃ pb off, apa = some ⟨pb, off, none⟩ ∧ ∃ hj : k < aps.length, wr.cell? ⟨pb, off + k, none⟩ = some (.string aps[k]) := by
        obtain ⟨_, _, _, hb⟩ := HK.out
        exact HPA.out.row hb k hlt
      have HTK : Hid ([aid, bid] ++ aps.take (k + 1) = [aid, bid] ++ aps.take k ++ [aps[k]]) := hide (by rw [List.take_succ_eq_append_getElem hj, List.append_assoc])
      have HLK : Hid (([aid, bid] ++ aps.take k).length ≤ 999999) := hide (by
        have := HL.out
        simp only [List.length_append, List.length_cons, List.length_nil, List.length_take]
        omega)
      generalize aps[k] = s at *
      clear hj
      subst hpa
      go_wp2_with fail
      refine (HK.out.add s HLK.out).mono ?_
      rintro e w3 ⟨v3, rfl, hk3⟩
      have HK3 : Hid (KW W2 w3 v3 ([aid, bid] ++ aps.take (k + 1))) := hide (by rw [HTK.out]; exact hk3)
      clear hk3
      go_wp2_with fail
      go_roundw
      case rel => exact ⟨k + 1, by omega, by go_num, HK3.out⟩
      case measure => simp [intOf]; omega
    · have HKA := hide (HK.out.cast (M' := [aid, bid] ++ aps ++ bps.take 0) (by
        rw [List.take_of_length_le (by have := HAL.out; omega)]
        simp))
      clear HK
      go_wp2_with fail
      clear x1
      go_loopw [7, 9] (fun v i wr => ∃ k : Nat, k ≤ bpn ∧ i = .int .i64 k ∧ Hid (KW W2 wr v ([aid, bid] ++ aps ++ bps.take k))) (fun _ i _ => bpn - (intOf i).toNat)
      case atStart => exact ⟨0, Nat.zero_le _, rfl, HKA.out⟩
      case round =>
        obtain ⟨k2, hk2, rfl, HK⟩ := hrel
        have x1 : wr.cell? ⟨w.heap.size + 1, 1, none⟩ = some (.slice bpa bpn bpc) := by
          obtain ⟨_, _, _, hb⟩ := HK.out
          exact cell_below hb (HXB.out.cell 1)
        by_cases hlt2 : k2 < bpn
        · obtain ⟨pb, off, hpa, hj, rk⟩ : ∃ pb off, bpa = some ⟨pb, off, none⟩ ∧ ∃ hj : k2 < bps.length, wr.cell? ⟨pb, off + k2, none⟩ = some (.string bps[k2]) := by
            obtain ⟨_, _, _, hb⟩ := HK.out
            exact HPB.out.row hb k2 hlt2
          have HTK : Hid ([aid, bid] ++ aps ++ bps.take (k2 + 1) = [aid, bid] ++ aps ++ bps.take k2 ++ [bps[k2]]) := hide (by rw [List.take_succ_eq_append_getElem hj, ← List.append_assoc])
          have HLK : Hid (([aid, bid] ++ aps ++ bps.take k2).length ≤ 999999) := hide (by
            have := HL.out
            have := HAL.out
            simp only [List.length_append, List.length_cons, List.length_nil, List.length_take]
            omega)
          generalize bps[k2] = s at *
          clear hj
          subst hpa
          go_wp2_with fail
          refine (HK.out.add s HLK.out).mono ?_
          rintro e w3 ⟨v3, rfl, hk3⟩
          have HK3 := hide (hk3.cast HTK.out.symm)
          clear hk3
          go_wp2_with fail
          go_roundw
          case rel => exact ⟨k2 + 1, by omega, by go_num, HK3.out⟩
          case measure => simp [intOf]; omega
        · have HKB := hide (HK.out.cast (M' := [aid, bid] ++ aps ++ bps ++ tabIds (T.take 0)) (by
            rw [List.take_of_length_le (by have := HBL.out; omega)]
            simp [tabIds]))
          clear HK
          go_wp2_with fail
          clear x1
          go_loopw [7, 10] (fun v i wr => ∃ k : Nat, k ≤ n ∧ i = .int .i64 k ∧ Hid (KW W2 wr v ([aid, bid] ++ aps ++ bps ++ tabIds (T.take k)))) (fun _ i _ => n - (intOf i).toNat)
          case atStart => exact ⟨0, Nat.zero_le _, rfl, HKB.out⟩
          case round =>
            obtain ⟨k3, hk3, rfl, HK⟩ := hrel
            by_cases hlt3 : k3 < n
            · have hkT : k3 < T.length := by have := HN.out; omega
              obtain ⟨tb, hta, hcells⟩ : ∃ tb, ta = some ⟨tb, 0, none⟩ ∧ ∀ i (h : i < T.length), ZAt W2 tb (i * 7) T[i] := by
                rcases HT.out with h | h
                · rw [h] at hkT; simp at hkT
                · exact h
              have HZ := hide (hcells k3 hkT)
              have HPK := hide (HP.out _ (List.getElem_mem hkT))
              have HTK : Hid (tabIds (T.take (k3 + 1)) = tabIds (T.take k3) ++ (T[k3].id :: T[k3].ps)) := hide (by
                unfold tabIds
                rw [List.take_succ_eq_append_getElem hkT, List.flatMap_append]
                simp)
              have HLT : Hid ((tabIds (T.take k3)).length + 1 + T[k3].pn ≤ T.length + refsOf T) := hide (by
                have h1 := tabIds_len (T.take k3) (fun c hc => (HP.out c (List.mem_of_mem_take hc)).1)
                have h2 := tabIds_len (T.take (k3 + 1)) (fun c hc => (HP.out c (List.mem_of_mem_take hc)).1)
                have h3 := HTK.out
                have h4 := (HP.out _ (List.getElem_mem hkT)).1
                have h5 : refsOf (T.take (k3 + 1)) ≤ refsOf T := by
                  unfold refsOf
                  conv => rhs; rw [← List.take_append_drop (k3 + 1) T]
                  rw [List.map_append, List.sum_append]
                  omega
                rw [h3, List.length_append, List.length_cons] at h2
                rw [List.length_take] at h2
                omega)
              generalize T[k3] = c at *
              clear hcells
              subst hta
              obtain ⟨cid, cpa, cpn, cpc, cps, ccom, cmsg, ccr, cmr, cgen⟩ := c
              simp only at HZ HPK HTK HLT
              have hcpn : cpn ≤ 900000 := by have := HLT.out; have := HL.out; omega
              have HCL : Hid (cpn = cps.length) := HPK.out.1
              have z0 : wr.cell? ⟨tb, k3 * 7, none⟩ = some (.string cid) := by
                obtain ⟨_, _, _, hb⟩ := HK.out
                exact (HZ.out.below hb).1
              have HLA : Hid (([aid, bid] ++ aps ++ bps ++ tabIds (T.take k3)).length + 1 + cpn ≤ 999999) := hide (by
                have := HL.out
                have := HAL.out
                have := HBL.out
                have := HLT.out
                simp only [List.length_append, List.length_cons, List.length_nil]
                omega)
              go_wp2_with fail
              refine (HK.out.add cid (by have := HLA.out; omega)).mono ?_
              rintro e w3 ⟨v3, rfl, hk3'⟩
              have HK3 := hide (hk3'.cast (M' := [aid, bid] ++ aps ++ bps ++ tabIds (T.take k3) ++ (cid :: cps.take 0)) (by simp))
              clear hk3' z0 HK
              go_wp2_with fail
              go_loopw [7, 11] (fun v i wr => ∃ k : Nat, k ≤ cpn ∧ i = .int .i64 k ∧ Hid (KW W2 wr v ([aid, bid] ++ aps ++ bps ++ tabIds (T.take k3) ++ (cid :: cps.take k)))) (fun _ i _ => cpn - (intOf i).toNat)
              case atStart => exact ⟨0, Nat.zero_le _, rfl, HK3.out⟩
              case round =>
                obtain ⟨k4, hk4, rfl, HK⟩ := hrel
                have x1 : wr.cell? ⟨tb, k3 * 7 + 1, none⟩ = some (.slice cpa cpn cpc) := by
                  obtain ⟨_, _, _, hb⟩ := HK.out
                  exact (HZ.out.below hb).2.1
                by_cases hlt4 : k4 < cpn
                · obtain ⟨pb, off, hpa, hj, rk⟩ : ∃ pb off, cpa = some ⟨pb, off, none⟩ ∧ ∃ hj : k4 < cps.length, wr.cell? ⟨pb, off + k4, none⟩ = some (.string cps[k4]) := by
                    obtain ⟨_, _, _, hb⟩ := HK.out
                    exact HPK.out.row hb k4 hlt4
                  have HTK4 : Hid ([aid, bid] ++ aps ++ bps ++ tabIds (T.take k3) ++ (cid :: cps.take (k4 + 1)) = [aid, bid] ++ aps ++ bps ++ tabIds (T.take k3) ++ (cid :: cps.take k4) ++ [cps[k4]]) := hide (by rw [List.take_succ_eq_append_getElem hj]; simp)
                  have HLK : Hid (([aid, bid] ++ aps ++ bps ++ tabIds (T.take k3) ++ (cid :: cps.take k4)).length ≤ 999999) := hide (by
                    have := HLA.out
                    rw [List.length_append, List.length_cons, List.length_take]
                    omega)
                  generalize cps[k4] = s at *
                  clear hj
                  subst hpa
                  go_wp2_with fail
                  refine (HK.out.add s HLK.out).mono ?_
                  rintro e w4 ⟨v4, rfl, hk4'⟩
                  have HK4 := hide (hk4'.cast HTK4.out.symm)
                  clear hk4'
                  go_wp2_with fail
                  go_roundw
                  case rel => exact ⟨k4 + 1, by omega, by go_num, HK4.out⟩
                  case measure => simp [intOf]; omega
                · have HKE := hide (HK.out.cast (M' := [aid, bid] ++ aps ++ bps ++ tabIds (T.take (k3 + 1))) (by
                    have e1 : cps.take k4 = cps := List.take_of_length_le (by have := HCL.out; omega)
                    rw [e1, HTK.out]
                    simp))
                  clear HK
                  go_wp2_with fail
                  go_roundw
                  case rel => exact ⟨k3 + 1, by omega, by go_num, HKE.out⟩
                  case measure => simp [intOf]; omega
            · have HE := hide (HK.out.cast (M' := [aid, bid] ++ aps ++ bps ++ tabIds T) (by
                rw [List.take_of_length_le (by have := HN.out; omega)]))
              go_wp2_with fail
              go_ret
              obtain ⟨l, h1, h2, h3⟩ := HE.out
              refine ⟨_, rfl, l, ?_, h2, HB0.out.trans (h3.mono HB0.out.size)⟩
              rcases h1.2 with hv | ⟨g, cap, cur, hv, hb, hr⟩
              · exact ⟨h1.1, .inl hv⟩
              · exact ⟨h1.1, .inr ⟨g, cap, cur, hv, Nat.le_trans HB0.out.size hb, hr⟩⟩
end Go.Proofs.Qxb6605835a
