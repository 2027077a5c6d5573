import Derived.Test.Qxb6605835aStepW
namespace Go.Proofs.Qxb6605835a
open Go.ChangeShapes Go.WideShapes Go.ChangeAt Go.RowKit
set_option linter.unusedVariables false

set_option maxHeartbeats 4000000 in
theorem step_B (w0 : World) (B : Nat → Prop) (wb mb sb tc : Nat) (ta : Option Addr) (qv cv : Value) (K : Nat → Cm) (N : List Nd) (Q C : List Nat) (ung : Bool) (T : List Cm) (x : Nd) (w : World)
    (hs : WS w B wb mb (.func (.func 39) #[.pointer (some ⟨sb, 0, none⟩)] #[]) K N qv cv Q C ung) (hBM : ∀ k, B k → w0.heap.size ≤ k) (hb0 : Below w0.heap.size w0 w) (hst : Store w0 sb ta tc T) (hpT : ∀ c ∈ T, Par w0 c) (hpN : ∀ y ∈ N, Par w0 (K y.b))
    (hl : 0 < Q.length) (hx : x ∈ N) (hxb : x.b = nth Q 0) (hxq : x.q = true) (hlen : N.length + (K x.b).ps.length ≤ 900000) (hC : C.length ≤ 900000) (h4 : x.p &&& 4 = 0) (h3 : x.p &&& 3 ≠ 3) :
    Calls Try.prog 49 #[.pointer (some ⟨wb, 0, none⟩)] w fun e w' => e = .returned .nilIface ∧ StepPost w0 w B wb mb (.func (.func 39) #[.pointer (some ⟨sb, 0, none⟩)] #[]) K N C ung T x w' := by
  obtain ⟨g, cap, hqv⟩ := hs.ms.qown.form hl
  subst hqv
  have hQl : Q.length ≤ 900000 := by
    rw [hs.qperm.length_eq]
    unfold qd
    rw [List.length_map]
    exact Nat.le_trans (List.length_filter_le _ _) (by omega)
  have hpop := hpop_any wb 0 g cap K _ Q w hs.ms.blk rfl rfl hs.ms.qown (by omega) hl hs.ms.nodes hs.ms.heap
  rw [← hxb] at hpop
  have HPOP := hide hpop
  have HS := hide hs
  have HX := hide hx
  have HXB := hide hxb
  have hp8 := hs.ms.p8 x hx
  have hta := fun w => assert62 w ⟨x.b, 0, none⟩
  have ha4 : bits BinOp.and IntKind.i64 (x.p : Int) 4 = ((x.p &&& 4 : Nat) : Int) := and_i64 x.p 4 hp8 (by decide)
  have z4 : (((x.p &&& 4 : Nat) : Int) == 0) = true := by rw [h4]; rfl
  have ha3 : bits BinOp.and IntKind.i64 (x.p : Int) 3 = ((x.p &&& 3 : Nat) : Int) := and_i64 x.p 3 hp8 (by decide)
  have z3 : (((x.p &&& 3 : Nat) : Int) == 3) = false := by rw [beq_eq_false_iff_ne]; omega
  have HPN := hide hpN
  have HPT := hide hpT
  have HST := hide hst
  have HB0 := hide hb0
  have HBM := hide hBM
  clear hs hx hxb hpop hpN hpT hst hb0 hBM
  go_enter Try.func49, Try.ntmps49
  go_wp2_with fail
  refine HPOP.out.mono ?_
  rintro e w1 ⟨rfl, l', hp, hh, hown, hbk, hk⟩
  rw [HXB.out] at hp
  obtain ⟨m1, hB1⟩ := pop_state HS.out hp hh hown hbk hk
  have hnb := m1.nd x HX.out
  have r9 : w1.cell? ⟨x.b, 9, none⟩ = some (.bool x.q) := hnb.cell 9
  have s9 := hnb.free 9
  have HM1 := hide m1
  have HB1 := hide hB1
  have HP := hide hp
  clear hp hh hown hbk hk m1 hB1
  have c8 : w1.cell? ⟨x.b, 8, none⟩ = some (.int .i64 (x.p : Int)) := hnb.cell 8
  have c1 : w1.cell? ⟨x.b, 1, none⟩ = some (.slice (K x.b).pa (K x.b).pn (K x.b).pc) := hnb.cell 1
  obtain ⟨pa, hpa0⟩ : ∃ pa, pa = (K x.b).pa := ⟨_, rfl⟩
  rw [← hpa0] at c1
  have HPA0 := hide hpa0
  clear hpa0
  have hnd2 : Blk (w1.setCell ⟨x.b, 9, none⟩ (.bool false)) x.b 92 (nodeArr (K x.b) x.p false) := hnb.set 9 (.bool false)
  have k2 : Keeps w1 (w1.setCell ⟨x.b, 9, none⟩ (.bool false)) (· = x.b) := (Keeps.refl _ _).set x.b 9 _ (.inl rfl)
  have m2 := HM1.out.setNode HX.out x.p false hp8 hnd2 k2
  have hB2 : Keeps w1 (w1.setCell ⟨x.b, 9, none⟩ (.bool false)) B := HM1.out.belowB k2 (fun k e => e ▸ HM1.out.bn x HX.out)
  have hne : x.b ≠ wb := hnb.ne HM1.out.blk (by decide)
  have hw2 := m2.blk
  have c3 : (w1.setCell ⟨x.b, 9, none⟩ (.bool false)).cell? ⟨wb, 3, none⟩ = some (.int .i64 ((unmk N : Nat) : Int)) := hw2.cell 3
  have s3 := hw2.free 3
  have hun0 := off_unmk HS.out HX.out hxq
  have hun1 : unmk (setNd N x.b (offNd x)) + 1 = unmk N := by rw [h4] at hun0; exact hun0
  have hunl : unmk N ≤ 900000 := by
    have : unmk N ≤ N.length := by unfold unmk; exact List.length_filter_le _ _
    omega
  have hw3 : Blk ((w1.setCell ⟨x.b, 9, none⟩ (.bool false)).setCell ⟨wb, 3, none⟩ (.int .i64 (((unmk N : Nat) : Int) - 1))) wb 85 _ := hw2.set 3 (.int .i64 (((unmk N : Nat) : Int) - 1))
  have k3 : Keeps (w1.setCell ⟨x.b, 9, none⟩ (.bool false)) ((w1.setCell ⟨x.b, 9, none⟩ (.bool false)).setCell ⟨wb, 3, none⟩ (.int .i64 (((unmk N : Nat) : Int) - 1))) (· = wb) := (Keeps.refl _ _).set wb 3 _ (.inl rfl)
  have m3 := m2.setWalk (((unmk N : Nat) : Int) - 1) ung hw3 k3
  have c1' : ((w1.setCell ⟨x.b, 9, none⟩ (.bool false)).setCell ⟨wb, 3, none⟩ (.int .i64 (((unmk N : Nat) : Int) - 1))).cell? ⟨x.b, 1, none⟩ = some (.slice pa (K x.b).pn (K x.b).pc) := by rw [(hnd2.set_other 3 _ hne).cell 1, HPA0.out]; rfl
  have hB3 : Keeps (w1.setCell ⟨x.b, 9, none⟩ (.bool false)) ((w1.setCell ⟨x.b, 9, none⟩ (.bool false)).setCell ⟨wb, 3, none⟩ (.int .i64 (((unmk N : Nat) : Int) - 1))) B := m2.belowB k3 (fun k e => e ▸ HM1.out.bw)
  have HBW2 : Hid (Keeps w ((w1.setCell ⟨x.b, 9, none⟩ (.bool false)).setCell ⟨wb, 3, none⟩ (.int .i64 (((unmk N : Nat) : Int) - 1))) B) := (HB1.out.trans hB2).trans hB3
  have HBW : Hid (Below w0.heap.size w0 ((w1.setCell ⟨x.b, 9, none⟩ (.bool false)).setCell ⟨wb, 3, none⟩ (.int .i64 (((unmk N : Nat) : Int) - 1)))) := HB0.out.trans (HBW2.out.below HB0.out.size HBM.out)
  have hqd : l'.Perm (qd (setNd N x.b (offNd x))) := off_qd HS.out HX.out hxq (by rw [HXB.out]; exact HP.out)
  have HPAR := hide (HPN.out x HX.out)
  have hun' : (((unmk N : Nat) : Int) - 1) = ((unmk (setNd N x.b (offNd x)) : Nat) : Int) := by omega
  have HL0 : Hid (LoopR w0 ((w1.setCell ⟨x.b, 9, none⟩ (.bool false)).setCell ⟨wb, 3, none⟩ (.int .i64 (((unmk N : Nat) : Int) - 1))) ((w1.setCell ⟨x.b, 9, none⟩ (.bool false)).setCell ⟨wb, 3, none⟩ (.int .i64 (((unmk N : Nat) : Int) - 1))) B wb mb (.func (.func 39) #[.pointer (some ⟨sb, 0, none⟩)] #[]) cv K (setNd N x.b (offNd x)) C ung T (x.p) []) := LoopR.start (Q := l') ⟨by rw [← hun']; exact m3, hqd⟩
  clear hnd2 k2 m2 hB2 hun0 hun1 hqd hun' hnb hw2 hw3 k3 m3 hB3
  have hpt8 := hp8
  have hbec : becomes x.p = false := by
    unfold becomes
    have : (x.p &&& 3 == 3) = false := by rw [beq_eq_false_iff_ne]; exact h3
    rw [this, Bool.and_false]
  have HPASS : Hid (passed x.p = x.p) := hide (by unfold passed; rw [hbec]; rfl)
  have HBEC : Hid ((if becomes x.p = true then C ++ [x.b] else C) = C) := hide (by rw [hbec]; rfl)
  clear hbec
  go_wp2_with fail
  go_loopw [55] (fun i wr => ∃ k : Nat, k ≤ (K x.b).pn ∧ i = .int .i64 k ∧ Hid (LoopR w0 ((w1.setCell ⟨x.b, 9, none⟩ (.bool false)).setCell ⟨wb, 3, none⟩ (.int .i64 (((unmk N : Nat) : Int) - 1))) wr B wb mb (.func (.func 39) #[.pointer (some ⟨sb, 0, none⟩)] #[]) cv K (setNd N x.b (offNd x)) (C) ung T (x.p) ((K x.b).ps.take k))) (fun i _ => (K x.b).pn - (intOf i).toNat)
  case atStart => exact ⟨0, Nat.zero_le _, rfl, HL0.out⟩
  case round =>
    obtain ⟨k, hkn, rfl, HR⟩ := hrel
    by_cases hlt : k < (K x.b).pn
    · obtain ⟨K', M, qv', Q', ung', hws, hpi, hbl, hpm, hml⟩ := HR.out
      obtain ⟨hpn, hpl, hrow⟩ := HPAR.out
      have hkp : k < (K x.b).ps.length := by omega
      obtain ⟨pb, off, hpa, hcells⟩ : ∃ pb off, (K x.b).pa = some ⟨pb, off, none⟩ ∧ ∀ j (h : j < (K x.b).ps.length), w0.cell? ⟨pb, off + j, none⟩ = some (.string (K x.b).ps[j]) := by
        rcases hrow with h | ⟨b, o, h1, h2⟩
        · omega
        · exact ⟨b, o, h1, h2⟩
      have hb0r : Below w0.heap.size w0 wr := HBW.out.trans (hbl.below HBW.out.size HBM.out)
      have rid : wr.cell? ⟨pb, off + k, none⟩ = some (.string (K x.b).ps[k]) := cell_below hb0r (hcells k hkp)
      have htk : (K x.b).ps.take (k + 1) = (K x.b).ps.take k ++ [(K x.b).ps[k]] := List.take_succ_eq_append_getElem hkp
      have hstr := HST.out.below hb0r
      generalize (K x.b).ps[k] = id at *
      have hlenN : (parN K (x.p) ((K x.b).ps.take k) (setNd N x.b (offNd x)) M).length ≤ 899999 := by
        rw [parN_len]
        have h1 : (setNd N x.b (offNd x)).length = N.length := by simp [setNd]
        have h2 : ((K x.b).ps.take k).length ≤ k := List.length_take_le _ _
        omega
      obtain ⟨q0, q1, -, -, -, -⟩ := hws.ms.cells
      have HTK := hide htk
      have HW := hide (And.intro hws (And.intro hpi (And.intro hbl (And.intro hpm hml))))
      have HLN := hide hlenN
      have HSR := hide hstr
      have hpe : pa = some ⟨pb, off, none⟩ := by rw [HPA0.out]; exact hpa
      clear hpa
      subst hpe
      by_cases hex : ∃ y ∈ parN K (x.p) ((K x.b).ps.take k) (setNd N x.b (offNd x)) M, (K' y.b).id = id
      · obtain ⟨y, hy, hid⟩ := hex
        have hlk := lookup_hit wr mb K' _ id hws.ms.map y hy hid (fun z hz e => hws.ms.ids z hz y hy (e.trans hid.symm))
        have HY := hide hy
        have HID := hide hid
        clear hws hpi hbl hpm hml hpn hrow hkp hcells hb0r htk hstr hlenN hy hid
        go_wp2_with fail
        refine (paint_any _ wb mb _ _ _ K' _ Q' _ ung' y (x.p) wr HW.out.1 HY.out hpt8 (by have := HLN.out; omega)).mono ?_
        rintro e w5 ⟨rfl, hpost⟩
        have HN : Hid (LoopR w0 ((w1.setCell ⟨x.b, 9, none⟩ (.bool false)).setCell ⟨wb, 3, none⟩ (.int .i64 (((unmk N : Nat) : Int) - 1))) w5 B wb mb (.func (.func 39) #[.pointer (some ⟨sb, 0, none⟩)] #[]) cv K (setNd N x.b (offNd x)) (C) ung T (x.p) ((K x.b).ps.take (k + 1))) := hide (by
          obtain ⟨hws, hpi, hbl, hpm, hml⟩ := HW.out
          rw [HTK.out]
          exact LoopR.hit hws hpi hbl hpm hml HY.out HID.out hpost)
        clear hpost
        go_wp2_with fail
        go_roundw
        case rel => exact ⟨k + 1, by omega, by go_num, HN.out⟩
        case measure => simp [intOf]; omega
      · have hno : ∀ y ∈ parN K (x.p) ((K x.b).ps.take k) (setNd N x.b (offNd x)) M, (K' y.b).id ≠ id := fun y hy e => hex ⟨y, hy, e⟩
        have hlk := lookup_miss wr mb K' _ id hws.ms.map hno
        have HNO := hide hno
        clear hws hpi hbl hpm hml hpn hrow hkp hcells hb0r htk hstr hlenN hno hex
        go_wp2_with fail
        refine (lookup_any sb tc ta T id wr HSR.out).mono ?_
        rintro e w5 ⟨rfl, hb5⟩
        have HB5 := hide hb5
        clear hb5
        go_wp2_with fail
        have hb6 : Below wr.heap.size wr (w5.alloc (boxed (resolveC T id))) := HB5.out.alloc HB5.out.size _
        have hm6 := HW.out.1.ms.below hb6
        refine (node_miss _ wb mb _ _ _ K' _ Q' _ _ ung' (resolveC T id) _ hm6 (by rw [resolve_id]; exact HNO.out)).mono ?_
        rintro e w7 ⟨rfl, hm7, hk7⟩
        have hlt7 : ∀ y ∈ parN K (x.p) ((K x.b).ps.take k) (setNd N x.b (offNd x)) M, y.b < (w5.alloc (boxed (resolveC T id))).heap.size + 1 := fun y hy => by
          have := (hm6.nd y hy).lt
          omega
        have hws7 : WS w7 _ wb mb _ _ _ _ _ _ _ _ := ⟨by rw [unmk_snoc]; exact hm7, by rw [qd_snoc]; exact HW.out.1.qperm⟩
        have h67 : Keeps wr w7 B := (Keeps.of_below hb6 B).trans (hm6.belowB hk7 (fun k e => by
          rcases e with e | e
          · exact e ▸ hm6.bw
          · exact e ▸ hm6.bm))
        obtain ⟨nb, hnb⟩ : ∃ nb, nb = (w5.alloc (boxed (resolveC T id))).heap.size + 1 := ⟨_, rfl⟩
        rw [← hnb] at hm7 hlt7 hws7 ⊢
        have HW7 := hide hws7
        have HL7 := hide hlt7
        have H67 := hide h67
        clear hb6 hm6 hm7 hk7 hlt7 hws7 h67 hnb
        go_wp2_with fail
        refine (paint_any _ wb mb _ _ _ _ _ Q' _ _ ⟨nb, 0, false⟩ (x.p) w7 HW7.out (by simp) hpt8 (by rw [List.length_append]; have := HLN.out; simp only [List.length_cons, List.length_nil]; omega)).mono ?_
        rintro e w8 ⟨rfl, hpost⟩
        have HN : Hid (LoopR w0 ((w1.setCell ⟨x.b, 9, none⟩ (.bool false)).setCell ⟨wb, 3, none⟩ (.int .i64 (((unmk N : Nat) : Int) - 1))) w8 B wb mb (.func (.func 39) #[.pointer (some ⟨sb, 0, none⟩)] #[]) cv K (setNd N x.b (offNd x)) (C) ung T (x.p) ((K x.b).ps.take (k + 1))) := hide (by
          obtain ⟨hws, hpi, hbl, hpm, hml⟩ := HW.out
          rw [HTK.out]
          exact LoopR.miss (w6 := wr) hws hpi hbl hpm hml HPT.out HNO.out HL7.out H67.out hpost)
        clear hpost
        go_wp2_with fail
        go_roundw
        case rel => exact ⟨k + 1, by omega, by go_num, HN.out⟩
        case measure => simp [intOf]; omega
    · go_wp2_with fail
      go_ret
      refine ⟨rfl, ?_⟩
      obtain ⟨K', M, qv', Q', ung', hws, hpi, hbl, hpm, hml⟩ := HR.out
      obtain ⟨hpn, hpl, hrow⟩ := HPAR.out
      have hfull : (K x.b).ps.take k = (K x.b).ps := List.take_of_length_le (by omega)
      rw [hfull] at hws hpi
      refine ⟨K', M, qv', cv, Q', ung', ?_, ?_, HBW2.out.trans hbl, hpm⟩
      · rw [HPASS.out, HBEC.out]
        exact hws
      · rw [HPASS.out]
        exact hpi
end Go.Proofs.Qxb6605835a
