import Derived.Test.Qxb6605835aStepB
namespace Go.Proofs.Qxb6605835a
open Go.ChangeShapes Go.WideShapes Go.ChangeAt Go.RowKit
set_option linter.unusedVariables false

/-- A candidate more. -/
theorem cand_end {w w1 : World} {B : Nat → Prop} {wb mb g cap x : Nat} {fnv qv cv : Value} {K : Nat → Cm} {N : List Nd} {Q C : List Nat} {u : Int} {ung : Bool} {o : Obj} (h : MS w B wb mb fnv K N qv cv Q C u ung)
    (hown : w1.ownsRow 0 62 1 (.slice (some ⟨g, 0, none⟩) (C.length + 1) cap) (C.length + 1) (C.map ptr ++ [ptr x])) (hgrow : (w.alloc o).grownBy w1 cv.ownBlock) (hat : cv.ownBlock = some g ∨ g = w.heap.size + 1) :
    MS (w1.setCell ⟨wb, 4, none⟩ (.slice (some ⟨g, 0, none⟩) (C.length + 1) cap)) B wb mb fnv K N qv (.slice (some ⟨g, 0, none⟩) (C.length + 1) cap) Q (C ++ [x]) u ung ∧
      Keeps w (w1.setCell ⟨wb, 4, none⟩ (.slice (some ⟨g, 0, none⟩) (C.length + 1) cap)) (fun k => k = wb ∨ cv.ownBlock = some k) := by
  have hk1 : Keeps w w1 (fun k => k = wb ∨ cv.ownBlock = some k) := ((Keeps.refl w _).alloc o).trans ((Keeps.of_grown hgrow).mono (fun k _ h => .inr h))
  have hq : ∀ b t arr, t ≠ 62 → Blk w b t arr → ¬ cv.ownBlock = some b := fun b t arr ht hb e => by
    obtain ⟨cur, hcur, _⟩ := ownBlock_blk h.cown e
    exact hb.ne hcur ht rfl
  have hbw := hq wb 85 _ (by decide) h.blk
  have hb1 : Blk w1 wb 85 _ := (h.blk.alloc o).of_heap (hgrow.block wb (by have := h.blk.lt; simp only [World.size_alloc]; omega) (fun e => hbw e.symm))
  have hg : wb ≠ g := by
    rcases hat with h' | h'
    · intro e; exact hbw (e ▸ h')
    · have := h.blk.lt; omega
  have hk := hk1.set wb 4 (.slice (some ⟨g, 0, none⟩) (C.length + 1) cap) (.inl (.inl rfl))
  refine ⟨⟨hb1.set 4 _, h.map.kept hk ?_, fun x hx => (h.nd x hx).kept hk ?_, h.qown.kept hk ?_, ?_, ?_, h.heap, h.nodup, h.ids, h.qin, h.p8, h.bw, h.bm, h.bn, fun k hq => h.bs k (Nat.le_trans hk.size hq), h.qb, fun g' hg' => ?_⟩, hk⟩
  · rintro (e | e)
    · exact h.map.ne h.blk e.symm
    · obtain ⟨cur, hcur, _⟩ := ownBlock_blk h.cown e
      exact h.map.ne hcur rfl
  · rintro (e | e)
    · exact (h.nd x hx).ne h.blk (by decide) e
    · exact hq x.b 92 _ (by decide) (h.nd x hx) e
  · intro g hg
    rintro (e | e)
    · obtain ⟨cur, hcur, _⟩ := ownBlock_blk h.qown hg
      exact hcur.ne h.blk (by decide) e
    · exact h.qc g hg e
  · have hO : Own w1 0 (.slice (some ⟨g, 0, none⟩) (C.length + 1) cap) (C ++ [x]) := by
      unfold Own
      rw [List.map_append, List.length_append]
      exact hown
    refine hO.kept (S := fun k => k = wb) ((Keeps.refl _ _).set wb 4 _ (.inl rfl)) ?_
    intro g' hg' e
    simp [Value.ownBlock] at hg'
    omega
  · intro g' hg' e
    simp [Value.ownBlock] at e
    subst e
    rcases hat with e | e
    · exact h.qc _ hg' e
    · obtain ⟨cur, hcur, _⟩ := ownBlock_blk h.qown hg'
      have := hcur.lt
      omega
  · simp [Value.ownBlock] at hg'
    subst hg'
    rcases hat with e | e
    · exact h.cb _ e
    · exact h.bs _ (by omega)

theorem cand_free {w w1 : World} {B : Nat → Prop} {wb mb : Nat} {fnv qv cv : Value} {K : Nat → Cm} {N : List Nd} {Q C : List Nat} {u : Int} {ung : Bool} {o : Obj} (h : MS w B wb mb fnv K N qv cv Q C u ung) (hgrow : (w.alloc o).grownBy w1 cv.ownBlock) :
    Blk w1 wb 85 #[fnv, .map (some mb), qv, .int .i64 u, cv, .bool ung] :=
  (h.blk.alloc o).of_heap (hgrow.block wb (by have := h.blk.lt; simp only [World.size_alloc]; omega) (fun e => by
    obtain ⟨cur, hcur, _⟩ := ownBlock_blk h.cown e.symm
    exact h.blk.ne hcur (by decide) rfl))

theorem cand_c1 {w w1 : World} {B : Nat → Prop} {wb mb g cap x y : Nat} {fnv qv cv : Value} {K : Nat → Cm} {N : List Nd} {Q C : List Nat} {u : Int} {ung : Bool} {o : Obj} (h : MS w B wb mb fnv K N qv cv Q C u ung) {c : Cm} {p : Nat} {q : Bool} {pa : Option Addr} (hb : Blk w y 92 (nodeArr c p q))
    (hown : w1.ownsRow 0 62 1 (.slice (some ⟨g, 0, none⟩) (C.length + 1) cap) (C.length + 1) (C.map ptr ++ [ptr x])) (hgrow : (w.alloc o).grownBy w1 cv.ownBlock) (hat : cv.ownBlock = some g ∨ g = w.heap.size + 1) (hne : y ≠ wb) (hpa : pa = c.pa) :
    (w1.setCell ⟨wb, 4, none⟩ (.slice (some ⟨g, 0, none⟩) (C.length + 1) cap)).cell? ⟨y, 1, none⟩ = some (.slice pa c.pn c.pc) := by
  obtain ⟨_, hk⟩ := cand_end h hown hgrow hat
  rw [(hb.kept hk (by
    rintro (e | e)
    · exact hne e
    · obtain ⟨cur, hcur, _⟩ := ownBlock_blk h.cown e
      exact hb.ne hcur (by decide) rfl)).cell 1, hpa]
  rfl

set_option maxRecDepth 8000 in
set_option maxHeartbeats 4000000 in
theorem step_C (w0 : World) (B : Nat → Prop) (wb mb sb tc : Nat) (ta : Option Addr) (qv cv : Value) (K : Nat → Cm) (N : List Nd) (Q C : List Nat) (ung : Bool) (T : List Cm) (x : Nd) (w : World)
    (hs : WS w B wb mb (.func (.func 39) #[.pointer (some ⟨sb, 0, none⟩)] #[]) K N qv cv Q C ung) (hBM : ∀ k, B k → w0.heap.size ≤ k) (hb0 : Below w0.heap.size w0 w) (hst : Store w0 sb ta tc T) (hpT : ∀ c ∈ T, Par w0 c) (hpN : ∀ y ∈ N, Par w0 (K y.b))
    (hl : 0 < Q.length) (hx : x ∈ N) (hxb : x.b = nth Q 0) (hxq : x.q = true) (hlen : N.length + (K x.b).ps.length ≤ 900000) (hC : C.length ≤ 900000) (h4 : x.p &&& 4 = 0) (h3 : x.p &&& 3 = 3) :
    Calls Try.prog 49 #[.pointer (some ⟨wb, 0, none⟩)] w fun e w' => e = .returned .nilIface ∧ StepPost w0 w B wb mb (.func (.func 39) #[.pointer (some ⟨sb, 0, none⟩)] #[]) K N C ung T x w' := by
  obtain ⟨g, cap, hqv⟩ := hs.ms.qown.form hl
  subst hqv
  have hQl : Q.length ≤ 900000 := by
    rw [hs.qperm.length_eq]
    unfold qd
    rw [List.length_map]
    exact Nat.le_trans (List.length_filter_le _ _) (by omega)
  have hpop := hpop_any wb 0 g cap K _ Q w hs.ms.blk rfl rfl hs.ms.qown (by omega) hl hs.ms.nodes hs.ms.heap
  rw [← hxb] at hpop
  have HPOP := hide hpop
  have HS := hide hs
  have HX := hide hx
  have HXB := hide hxb
  have hp8 := hs.ms.p8 x hx
  have hta := fun w => assert62 w ⟨x.b, 0, none⟩
  have ha4 : bits BinOp.and IntKind.i64 (x.p : Int) 4 = ((x.p &&& 4 : Nat) : Int) := and_i64 x.p 4 hp8 (by decide)
  have z4 : (((x.p &&& 4 : Nat) : Int) == 0) = true := by rw [h4]; rfl
  have ha3 : bits BinOp.and IntKind.i64 (x.p : Int) 3 = ((x.p &&& 3 : Nat) : Int) := and_i64 x.p 3 hp8 (by decide)
  have z3 : (((x.p &&& 3 : Nat) : Int) == 3) = true := by rw [h3]; rfl
  have ho4 : bits BinOp.or IntKind.i64 (x.p : Int) 4 = ((x.p ||| 4 : Nat) : Int) := or_i64 x.p 4 hp8 (by decide)
  have HPN := hide hpN
  have HPT := hide hpT
  have HST := hide hst
  have HB0 := hide hb0
  have HBM := hide hBM
  clear hs hx hxb hpop hpN hpT hst hb0 hBM
  go_enter Try.func49, Try.ntmps49
  go_wp2_with fail
  refine HPOP.out.mono ?_
  rintro e w1 ⟨rfl, l', hp, hh, hown, hbk, hk⟩
  rw [HXB.out] at hp
  obtain ⟨m1, hB1⟩ := pop_state HS.out hp hh hown hbk hk
  have hnb := m1.nd x HX.out
  have r9 : w1.cell? ⟨x.b, 9, none⟩ = some (.bool x.q) := hnb.cell 9
  have s9 := hnb.free 9
  have HM1 := hide m1
  have HB1 := hide hB1
  have HP := hide hp
  clear hp hh hown hbk hk m1 hB1
  have c8 : w1.cell? ⟨x.b, 8, none⟩ = some (.int .i64 (x.p : Int)) := hnb.cell 8
  have c1 : w1.cell? ⟨x.b, 1, none⟩ = some (.slice (K x.b).pa (K x.b).pn (K x.b).pc) := hnb.cell 1
  obtain ⟨pa, hpa0⟩ : ∃ pa, pa = (K x.b).pa := ⟨_, rfl⟩
  rw [← hpa0] at c1
  have HPA0 := hide hpa0
  clear hpa0
  have hnd2 : Blk (w1.setCell ⟨x.b, 9, none⟩ (.bool false)) x.b 92 (nodeArr (K x.b) x.p false) := hnb.set 9 (.bool false)
  have k2 : Keeps w1 (w1.setCell ⟨x.b, 9, none⟩ (.bool false)) (· = x.b) := (Keeps.refl _ _).set x.b 9 _ (.inl rfl)
  have m2 := HM1.out.setNode HX.out x.p false hp8 hnd2 k2
  have hB2 : Keeps w1 (w1.setCell ⟨x.b, 9, none⟩ (.bool false)) B := HM1.out.belowB k2 (fun k e => e ▸ HM1.out.bn x HX.out)
  have hne : x.b ≠ wb := hnb.ne HM1.out.blk (by decide)
  have hw2 := m2.blk
  have c3 : (w1.setCell ⟨x.b, 9, none⟩ (.bool false)).cell? ⟨wb, 3, none⟩ = some (.int .i64 ((unmk N : Nat) : Int)) := hw2.cell 3
  have s3 := hw2.free 3
  have hun0 := off_unmk HS.out HX.out hxq
  have hun1 : unmk (setNd N x.b (offNd x)) + 1 = unmk N := by rw [h4] at hun0; exact hun0
  have hunl : unmk N ≤ 900000 := by
    have : unmk N ≤ N.length := by unfold unmk; exact List.length_filter_le _ _
    omega
  have hw3 : Blk ((w1.setCell ⟨x.b, 9, none⟩ (.bool false)).setCell ⟨wb, 3, none⟩ (.int .i64 (((unmk N : Nat) : Int) - 1))) wb 85 _ := hw2.set 3 (.int .i64 (((unmk N : Nat) : Int) - 1))
  have k3 : Keeps (w1.setCell ⟨x.b, 9, none⟩ (.bool false)) ((w1.setCell ⟨x.b, 9, none⟩ (.bool false)).setCell ⟨wb, 3, none⟩ (.int .i64 (((unmk N : Nat) : Int) - 1))) (· = wb) := (Keeps.refl _ _).set wb 3 _ (.inl rfl)
  have m3 := m2.setWalk (((unmk N : Nat) : Int) - 1) ung hw3 k3
  have hB3 : Keeps (w1.setCell ⟨x.b, 9, none⟩ (.bool false)) ((w1.setCell ⟨x.b, 9, none⟩ (.bool false)).setCell ⟨wb, 3, none⟩ (.int .i64 (((unmk N : Nat) : Int) - 1))) B := m2.belowB k3 (fun k e => e ▸ HM1.out.bw)
  have HBW3 : Hid (Keeps w ((w1.setCell ⟨x.b, 9, none⟩ (.bool false)).setCell ⟨wb, 3, none⟩ (.int .i64 (((unmk N : Nat) : Int) - 1))) B) := (HB1.out.trans hB2).trans hB3
  have hqd : l'.Perm (qd (setNd N x.b (offNd x))) := off_qd HS.out HX.out hxq (by rw [HXB.out]; exact HP.out)
  have HPAR := hide (HPN.out x HX.out)
  have hun' : (((unmk N : Nat) : Int) - 1) = ((unmk (setNd N x.b (offNd x)) : Nat) : Int) := by omega
  have c4 : ((w1.setCell ⟨x.b, 9, none⟩ (.bool false)).setCell ⟨wb, 3, none⟩ (.int .i64 (((unmk N : Nat) : Int) - 1))).cell? ⟨wb, 4, none⟩ = some cv := hw3.cell 4
  have HND3 := hide (hnd2.set_other (b' := wb) 3 (.int .i64 (((unmk N : Nat) : Int) - 1)) hne)
  have HM3 := hide (And.intro m3 (And.intro hqd hun'))
  clear hnd2 k2 m2 hB2 hun0 hun1 hqd hun' hnb hw2 hw3 k3 m3 hB3
  have hpt8 : x.p ||| 4 < 8 := or8 _ _ hp8 (by decide)
  have hbec : becomes x.p = true := by
    unfold becomes
    rw [h3, h4]
    rfl
  have HPASS : Hid (passed x.p = x.p ||| 4) := hide (by unfold passed; rw [hbec]; rfl)
  have HBEC : Hid ((if becomes x.p = true then C ++ [x.b] else C) = C ++ [x.b]) := hide (by rw [hbec]; rfl)
  clear hbec
  obtain ⟨i0, hi, hz0, hz1, hz2⟩ := info_parts info62
  go_wp2_with ((at_builtin; go_loud (refine wpList_append_lies _ rfl _ _ 45 rfl 0 62 i0 (.pointer none) 1 8 Try.underlying45 hi hz0 hz1 hz2 rfl (by decide) cv C.length (C.map ptr) rfl (HM3.out.1.cown.kept ((Keeps.refl _ (fun _ => False)).alloc _) (fun _ _ => id)) ⟨w1.heap.size, 0, none⟩ 1 1 [ptr x.b] rfl rfl (World.news_of_block (B := w1.heap.size) (by have h := Blk.new ((w1.setCell ⟨x.b, 9, none⟩ (.bool false)).setCell ⟨wb, 3, none⟩ (.int .i64 (((unmk N : Nat) : Int) - 1))) 62 #[ptr x.b]; unfold Blk at h; simp only [World.size_setCell] at h; exact h)) (by simp [Value.oneCell']) (by decide) (by unfold maxLen; omega) (by omega) (Nat.zero_le _) (w1.heap.size + 1) (by simp only [World.size_alloc, World.size_setCell]) ?_; intro g4 cap4 w4 hown hgrow hat0 hlt; have hat : cv.ownBlock = some g4 ∨ g4 = ((w1.setCell ⟨x.b, 9, none⟩ (.bool false)).setCell ⟨wb, 3, none⟩ (.int .i64 (((unmk N : Nat) : Int) - 1))).heap.size + 1 := (by simp only [World.size_setCell]; exact hat0); clear hat0; have HAPP := hide (And.intro hown (And.intro hgrow hat)); have hbw4 := cand_free HM3.out.1 hgrow; have f4 := hbw4.free 4; have c4' := hbw4.cell 4; have c1' := cand_c1 HM3.out.1 HND3.out hown hgrow hat hne HPA0.out; clear hown hgrow hat hlt hbw4)))
  obtain ⟨hown, hgrow, hat⟩ := HAPP.out
  obtain ⟨m5, hk5⟩ := cand_end HM3.out.1 hown hgrow hat
  have HBW2 : Hid (Keeps w (w4.setCell ⟨wb, 4, none⟩ (.slice (some ⟨g4, 0, none⟩) (C.length + 1) cap4)) B) := HBW3.out.trans (HM3.out.1.belowB hk5 (by
    rintro k (e | e)
    · exact e ▸ HM1.out.bw
    · exact HM3.out.1.cB e))
  have HBW : Hid (Below w0.heap.size w0 (w4.setCell ⟨wb, 4, none⟩ (.slice (some ⟨g4, 0, none⟩) (C.length + 1) cap4))) := HB0.out.trans (HBW2.out.below HB0.out.size HBM.out)
  have HL0 : Hid (LoopR w0 (w4.setCell ⟨wb, 4, none⟩ (.slice (some ⟨g4, 0, none⟩) (C.length + 1) cap4)) (w4.setCell ⟨wb, 4, none⟩ (.slice (some ⟨g4, 0, none⟩) (C.length + 1) cap4)) B wb mb (.func (.func 39) #[.pointer (some ⟨sb, 0, none⟩)] #[]) (.slice (some ⟨g4, 0, none⟩) (C.length + 1) cap4) K (setNd N x.b (offNd x)) (C ++ [x.b]) ung T (x.p ||| 4) []) := LoopR.start (Q := l') ⟨by rw [← HM3.out.2.2]; exact m5, HM3.out.2.1⟩
  clear hown hgrow hat m5 hk5 hi hz0 hz1 hz2 r9 s9 c8 c1 c3 s3 c4
  go_wp2_with fail
  go_loopw [55] (fun i wr => ∃ k : Nat, k ≤ (K x.b).pn ∧ i = .int .i64 k ∧ Hid (LoopR w0 (w4.setCell ⟨wb, 4, none⟩ (.slice (some ⟨g4, 0, none⟩) (C.length + 1) cap4)) wr B wb mb (.func (.func 39) #[.pointer (some ⟨sb, 0, none⟩)] #[]) (.slice (some ⟨g4, 0, none⟩) (C.length + 1) cap4) K (setNd N x.b (offNd x)) (C ++ [x.b]) ung T (x.p ||| 4) ((K x.b).ps.take k))) (fun i _ => (K x.b).pn - (intOf i).toNat)
  case atStart => exact ⟨0, Nat.zero_le _, rfl, HL0.out⟩
  case round =>
    obtain ⟨k, hkn, rfl, HR⟩ := hrel
    by_cases hlt : k < (K x.b).pn
    · obtain ⟨K', M, qv', Q', ung', hws, hpi, hbl, hpm, hml⟩ := HR.out
      obtain ⟨hpn, hpl, hrow⟩ := HPAR.out
      have hkp : k < (K x.b).ps.length := by omega
      obtain ⟨pb, off, hpa, hcells⟩ : ∃ pb off, (K x.b).pa = some ⟨pb, off, none⟩ ∧ ∀ j (h : j < (K x.b).ps.length), w0.cell? ⟨pb, off + j, none⟩ = some (.string (K x.b).ps[j]) := by
        rcases hrow with h | ⟨b, o, h1, h2⟩
        · omega
        · exact ⟨b, o, h1, h2⟩
      have hb0r : Below w0.heap.size w0 wr := HBW.out.trans (hbl.below HBW.out.size HBM.out)
      have rid : wr.cell? ⟨pb, off + k, none⟩ = some (.string (K x.b).ps[k]) := cell_below hb0r (hcells k hkp)
      have htk : (K x.b).ps.take (k + 1) = (K x.b).ps.take k ++ [(K x.b).ps[k]] := List.take_succ_eq_append_getElem hkp
      have hstr := HST.out.below hb0r
      generalize (K x.b).ps[k] = id at *
      have hlenN : (parN K (x.p ||| 4) ((K x.b).ps.take k) (setNd N x.b (offNd x)) M).length ≤ 899999 := by
        rw [parN_len]
        have h1 : (setNd N x.b (offNd x)).length = N.length := by simp [setNd]
        have h2 : ((K x.b).ps.take k).length ≤ k := List.length_take_le _ _
        omega
      obtain ⟨q0, q1, -, -, -, -⟩ := hws.ms.cells
      have HTK := hide htk
      have HW := hide (And.intro hws (And.intro hpi (And.intro hbl (And.intro hpm hml))))
      have HLN := hide hlenN
      have HSR := hide hstr
      have hpe : pa = some ⟨pb, off, none⟩ := by rw [HPA0.out]; exact hpa
      clear hpa
      subst hpe
      by_cases hex : ∃ y ∈ parN K (x.p ||| 4) ((K x.b).ps.take k) (setNd N x.b (offNd x)) M, (K' y.b).id = id
      · obtain ⟨y, hy, hid⟩ := hex
        have hlk := lookup_hit wr mb K' _ id hws.ms.map y hy hid (fun z hz e => hws.ms.ids z hz y hy (e.trans hid.symm))
        have HY := hide hy
        have HID := hide hid
        clear hws hpi hbl hpm hml hpn hrow hkp hcells hb0r htk hstr hlenN hy hid
        go_wp2_with fail
        refine (paint_any _ wb mb _ _ _ K' _ Q' _ ung' y (x.p ||| 4) wr HW.out.1 HY.out hpt8 (by have := HLN.out; omega)).mono ?_
        rintro e w5 ⟨rfl, hpost⟩
        have HN : Hid (LoopR w0 (w4.setCell ⟨wb, 4, none⟩ (.slice (some ⟨g4, 0, none⟩) (C.length + 1) cap4)) w5 B wb mb (.func (.func 39) #[.pointer (some ⟨sb, 0, none⟩)] #[]) (.slice (some ⟨g4, 0, none⟩) (C.length + 1) cap4) K (setNd N x.b (offNd x)) (C ++ [x.b]) ung T (x.p ||| 4) ((K x.b).ps.take (k + 1))) := hide (by
          obtain ⟨hws, hpi, hbl, hpm, hml⟩ := HW.out
          rw [HTK.out]
          exact LoopR.hit hws hpi hbl hpm hml HY.out HID.out hpost)
        clear hpost
        go_wp2_with fail
        go_roundw
        case rel => exact ⟨k + 1, by omega, by go_num, HN.out⟩
        case measure => simp [intOf]; omega
      · have hno : ∀ y ∈ parN K (x.p ||| 4) ((K x.b).ps.take k) (setNd N x.b (offNd x)) M, (K' y.b).id ≠ id := fun y hy e => hex ⟨y, hy, e⟩
        have hlk := lookup_miss wr mb K' _ id hws.ms.map hno
        have HNO := hide hno
        clear hws hpi hbl hpm hml hpn hrow hkp hcells hb0r htk hstr hlenN hno hex
        go_wp2_with fail
        refine (lookup_any sb tc ta T id wr HSR.out).mono ?_
        rintro e w5 ⟨rfl, hb5⟩
        have HB5 := hide hb5
        clear hb5
        go_wp2_with fail
        have hb6 : Below wr.heap.size wr (w5.alloc (boxed (resolveC T id))) := HB5.out.alloc HB5.out.size _
        have hm6 := HW.out.1.ms.below hb6
        refine (node_miss _ wb mb _ _ _ K' _ Q' _ _ ung' (resolveC T id) _ hm6 (by rw [resolve_id]; exact HNO.out)).mono ?_
        rintro e w7 ⟨rfl, hm7, hk7⟩
        have hlt7 : ∀ y ∈ parN K (x.p ||| 4) ((K x.b).ps.take k) (setNd N x.b (offNd x)) M, y.b < (w5.alloc (boxed (resolveC T id))).heap.size + 1 := fun y hy => by
          have := (hm6.nd y hy).lt
          omega
        have hws7 : WS w7 _ wb mb _ _ _ _ _ _ _ _ := ⟨by rw [unmk_snoc]; exact hm7, by rw [qd_snoc]; exact HW.out.1.qperm⟩
        have h67 : Keeps wr w7 B := (Keeps.of_below hb6 B).trans (hm6.belowB hk7 (fun k e => by
          rcases e with e | e
          · exact e ▸ hm6.bw
          · exact e ▸ hm6.bm))
        obtain ⟨nb, hnb⟩ : ∃ nb, nb = (w5.alloc (boxed (resolveC T id))).heap.size + 1 := ⟨_, rfl⟩
        rw [← hnb] at hm7 hlt7 hws7 ⊢
        have HW7 := hide hws7
        have HL7 := hide hlt7
        have H67 := hide h67
        clear hb6 hm6 hm7 hk7 hlt7 hws7 h67 hnb
        go_wp2_with fail
        refine (paint_any _ wb mb _ _ _ _ _ Q' _ _ ⟨nb, 0, false⟩ (x.p ||| 4) w7 HW7.out (by simp) hpt8 (by rw [List.length_append]; have := HLN.out; simp only [List.length_cons, List.length_nil]; omega)).mono ?_
        rintro e w8 ⟨rfl, hpost⟩
        have HN : Hid (LoopR w0 (w4.setCell ⟨wb, 4, none⟩ (.slice (some ⟨g4, 0, none⟩) (C.length + 1) cap4)) w8 B wb mb (.func (.func 39) #[.pointer (some ⟨sb, 0, none⟩)] #[]) (.slice (some ⟨g4, 0, none⟩) (C.length + 1) cap4) K (setNd N x.b (offNd x)) (C ++ [x.b]) ung T (x.p ||| 4) ((K x.b).ps.take (k + 1))) := hide (by
          obtain ⟨hws, hpi, hbl, hpm, hml⟩ := HW.out
          rw [HTK.out]
          exact LoopR.miss (w6 := wr) hws hpi hbl hpm hml HPT.out HNO.out HL7.out H67.out hpost)
        clear hpost
        go_wp2_with fail
        go_roundw
        case rel => exact ⟨k + 1, by omega, by go_num, HN.out⟩
        case measure => simp [intOf]; omega
    · go_wp2_with fail
      go_ret
      refine ⟨rfl, ?_⟩
      obtain ⟨K', M, qv', Q', ung', hws, hpi, hbl, hpm, hml⟩ := HR.out
      obtain ⟨hpn, hpl, hrow⟩ := HPAR.out
      have hfull : (K x.b).ps.take k = (K x.b).ps := List.take_of_length_le (by omega)
      rw [hfull] at hws hpi
      refine ⟨K', M, qv', (.slice (some ⟨g4, 0, none⟩) (C.length + 1) cap4), Q', ung', ?_, ?_, HBW2.out.trans hbl, hpm⟩
      · rw [HPASS.out, HBEC.out]
        exact hws
      · rw [HPASS.out]
        exact hpi

/-- A step of the walk. -/
theorem step_any (w0 : World) (B : Nat → Prop) (wb mb sb tc : Nat) (ta : Option Addr) (qv cv : Value) (K : Nat → Cm) (N : List Nd) (Q C : List Nat) (ung : Bool) (T : List Cm) (x : Nd) (w : World)
    (hs : WS w B wb mb (.func (.func 39) #[.pointer (some ⟨sb, 0, none⟩)] #[]) K N qv cv Q C ung) (hBM : ∀ k, B k → w0.heap.size ≤ k) (hb0 : Below w0.heap.size w0 w) (hst : Store w0 sb ta tc T) (hpT : ∀ c ∈ T, Par w0 c) (hpN : ∀ y ∈ N, Par w0 (K y.b))
    (hl : 0 < Q.length) (hx : x ∈ N) (hxb : x.b = nth Q 0) (hxq : x.q = true) (hlen : N.length + (K x.b).ps.length ≤ 900000) (hC : C.length ≤ 900000) :
    Calls Try.prog 49 #[.pointer (some ⟨wb, 0, none⟩)] w fun e w' => e = .returned .nilIface ∧ StepPost w0 w B wb mb (.func (.func 39) #[.pointer (some ⟨sb, 0, none⟩)] #[]) K N C ung T x w' := by
  by_cases h4 : x.p &&& 4 = 0
  · by_cases h3 : x.p &&& 3 = 3
    · exact step_C w0 B wb mb sb tc ta qv cv K N Q C ung T x w hs hBM hb0 hst hpT hpN hl hx hxb hxq hlen hC h4 h3
    · exact step_B w0 B wb mb sb tc ta qv cv K N Q C ung T x w hs hBM hb0 hst hpT hpN hl hx hxb hxq hlen hC h4 h3
  · exact step_A w0 B wb mb sb tc ta qv cv K N Q C ung T x w hs hBM hb0 hst hpT hpN hl hx hxb hxq hlen hC h4
end Go.Proofs.Qxb6605835a
