import Derived.Test.Qxb6605835aHoldsP
namespace Go.Proofs.Qxb6605835a
open Go.ChangeShapes Go.WideShapes Go.ChangeAt Go.RowKit
set_option linter.unusedVariables false

set_option maxHeartbeats 20000000 in
set_option maxRecDepth 20000 in
theorem holds_any (w0 : World) (B : Nat → Prop) (wb mb sb tc kb kc : Nat) (ta : Option Addr) (qv cv : Value) (K : Nat → Cm) (N : List Nd) (Q C : List Nat) (ung : Bool) (T : List Cm) (l : List ByteArray) (steps : Nat) (x : Nd) (w : World)
    (hs : WS w B wb mb (.func (.func 39) #[.pointer (some ⟨sb, 0, none⟩)] #[]) K N qv cv Q C ung) (hBM : ∀ k, B k → w0.heap.size ≤ k) (hb0 : Below w0.heap.size w0 w) (hT : LawT w0 sb ta tc T l) (hN : LawN w0 T l K N C steps) (hst : steps ≤ 300000)
    (hk : ∀ i (hi : i < l.length), w0.cell? ⟨kb, i, none⟩ = some (.string l[i])) (hl : 0 < Q.length) (hx : x ∈ N) (hxb : x.b = nth Q 0) (hxq : x.q = true) :
    Calls Try.prog 21 #[ptr wb, .slice (some ⟨kb, 0, none⟩) l.length kc, .slice ta T.length tc] w fun e w' => e = .returned (.bool true) ∧ StepPost w0 w B wb mb (.func (.func 39) #[.pointer (some ⟨sb, 0, none⟩)] #[]) K N C ung T x w' := by
  obtain ⟨g, cap, hqv⟩ := hs.ms.qown.form hl
  subst hqv
  obtain ⟨ca, cc, hcv⟩ : ∃ ca cc, cv = .slice ca C.length cc := by
    rcases hs.ms.cown.2 with ⟨hv, h0⟩ | ⟨g, cap, cur, hv, _⟩
    · exact ⟨none, 0, by rw [hv, h0]⟩
    · exact ⟨_, cap, hv⟩
  subst hcv
  obtain ⟨-, q1, q2, q3, q4, q5⟩ := hs.ms.cells
  have HTOP := hide (top_any g cap 0 K Q w hs.ms.qown hs.ms.nodes (by
    have h1 := hs.qperm.length_eq
    have h2 : (qd N).length ≤ N.length := by unfold qd; rw [List.length_map]; exact List.length_filter_le _ _
    have h3 := (FK_perm ⟨hs.ms.nodup, hs.ms.ids⟩ hT.nd hN.ids).length_eq
    have h4 : (l.filterMap (nodeFor K N)).length ≤ l.length := List.length_filterMap_le _ _
    have := hT.ll
    omega))
  have hti := top_is hs hl
  have htl := topU_le K Q (Q.length - 1)
  have htq : (((Q.length : Nat) : Int) == 0) = false := by rw [beq_eq_false_iff_ne]; omega
  have HS := hide hs
  have HXB := hide hxb
  have HX := hide hx
  have HN := hide hN
  have HT := hide hT
  have HBM := hide hBM
  have HB0 := hide hb0
  have HK := hide hk
  clear hs hxb hx hN hT hBM hb0 hk q1 q3 q4 q5
  go_enter Try.func21, Try.ntmps21
  go_wp2_with fail
  refine (queue_any wb _ w q2).mono ?_
  rintro e w1 ⟨rfl, rfl⟩
  go_wp2_with fail
  refine HTOP.out.mono ?_
  rintro e w1 ⟨rfl, hb1⟩
  generalize topU K Q (Q.length - 1) = tt at *
  have htt : tt < Q.length := by omega
  have c1 := cell_below hb1 (HS.out.ms.qown.cell tt htt)
  have hqt : Q[tt] = x.b := by rw [← nth_eq Q tt htt, hti, HXB.out]
  rw [hqt] at c1
  have HB1 := hide hb1
  have HNX := hide ((HS.out.ms.at HX.out).1.below hb1)
  clear hb1 hqt hti htl HTOP
  go_wp2_with fail
  refine (nodeCommit_any x.b (K x.b) _ HNX.out).mono ?_
  rintro e w2 ⟨rfl, hb2⟩
  have hb2' : Below w1.heap.size w1 (w2.alloc (boxed (K x.b))) := hb2.alloc hb2.size _
  have HB2 : Hid (Below w.heap.size w (w2.alloc (boxed (K x.b)))) := after HB1.out hb2'
  have HTC : Hid (Blk (w2.alloc (boxed (K x.b))) w2.heap.size 39 #[.string (K x.b).id, .slice (K x.b).pa (K x.b).pn (K x.b).pc, .string (K x.b).com, .string (K x.b).msg, .int .i64 (K x.b).cr, .map none, .string (K x.b).mr, .int .i64 (K x.b).gen]) := Blk.new w2 39 _
  obtain ⟨bt, hbt⟩ : ∃ bt, bt = w2.heap.size := ⟨_, rfl⟩
  have hin : ix l (K x.b).id < l.length := ix_lt.2 (HN.out.ids x HX.out)
  have hiz : ixZ l (K x.b).id = ((ix l (K x.b).id : Nat) : Int) := by unfold ixZ; rw [if_pos hin]
  have hig : l[ix l (K x.b).id] = (K x.b).id := ix_get hin
  have hll := HT.out.ll
  have HCK : Hid (∀ W, Below w.heap.size w W → ∀ i (hi : i < l.length), W.cell? ⟨kb, i, none⟩ = some (.string l[i])) := hide fun W hW i hi => cell_below (HB0.out.trans (hW.mono HB0.out.size)) (HK.out i hi)
  have HIX := hide (index_some kb kc l (K x.b).id (w2.alloc (boxed (K x.b))) (HCK.out _ HB2.out) (by omega))
  rw [hiz] at HIX
  have HIG : Hid (l.getD (ix l (K x.b).id) ⟨#[]⟩ = (K x.b).id) := hide (by rw [← hig]; simp [List.getD, hin, hig])
  have HIN := hide hin
  obtain ⟨it, hit⟩ : ∃ it, it = ix l (K x.b).id := ⟨_, rfl⟩
  rw [← hit] at HIX
  have HIT := hide hit
  have hitl : it < l.length := by rw [hit]; exact hin
  clear hb2 hb2' c1 hin hiz hig hit HNX HB1
  go_wp2_with fail
  refine HIX.out.mono ?_
  rintro e w3 ⟨rfl, rfl⟩
  obtain ⟨W3, hW3⟩ : ∃ W3, W3 = w2.alloc (boxed (K x.b)) := ⟨_, rfl⟩
  rw [← hW3] at HB2 HTC
  rw [← hW3]
  rw [← hbt] at HTC
  rw [← hbt]
  have HS3 := hide (HS.out.below HB2.out)
  clear hW3 hbt HIX
  obtain ⟨n, hnl⟩ : ∃ n, n = l.length := ⟨_, rfl⟩
  have HTK := hide (take_some B wb mb kb kc n _ _ _ K N Q C ung l W3 HS3.out hnl (HCK.out _ HB2.out) (by omega))
  rw [← hnl] at hitl hll
  rw [← hnl]
  have HNL := hide hnl
  clear hnl
  go_wp2_with fail
  refine HTK.out.mono ?_
  rintro e w4 ⟨g0, g1, g2, g3, g4, A0, A1, A2, A3, A4, rfl, hr4, hb4, l0, l1, l2, l3, l4⟩
  rw [← HNL.out] at hr4 ⊢
  have HB5 : Hid (Below W3.heap.size W3 (w4.alloc (.cells #[sl g0 n, sl g1 n, sl g2 n, sl g3 n, sl g4 n] 49))) := hb4.alloc hb4.size _
  have HPB : Hid (Blk (w4.alloc (.cells #[sl g0 n, sl g1 n, sl g2 n, sl g3 n, sl g4 n] 49)) w4.heap.size 49 #[sl g0 n, sl g1 n, sl g2 n, sl g3 n, sl g4 n]) := Blk.new w4 49 _
  have HR5 := hide (hr4.below (w' := w4.alloc (.cells #[sl g0 n, sl g1 n, sl g2 n, sl g3 n, sl g4 n] 49)) ((Below.refl _ _).alloc (Nat.le_refl _) _))
  have HBG : Hid (W3.heap.size ≤ g0 ∧ W3.heap.size ≤ g1 ∧ W3.heap.size ≤ g2 ∧ W3.heap.size ≤ g3 ∧ W3.heap.size ≤ g4 ∧ W3.heap.size ≤ w4.heap.size) := hide ⟨l0, l1, l2, l3, l4, hb4.size⟩
  obtain ⟨bp, hbp⟩ : ∃ bp, bp = w4.heap.size := ⟨_, rfl⟩
  have hex : nodeFor K N (l.getD it ⟨#[]⟩) = some x := by
    rw [HIT.out, HIG.out]
    exact nodeFor_some ⟨HS.out.ms.nodup, HS.out.ms.ids⟩ HX.out
  have HEX := hide hex
  have r0 : (w4.alloc (.cells #[sl g0 n, sl g1 n, sl g2 n, sl g3 n, sl g4 n] 49)).cell? ⟨g0, it, none⟩ = some (.bool true) := by rw [HR5.out.b0.cell, HR5.out.v0 it hitl, hex]; rfl
  have r1 : (w4.alloc (.cells #[sl g0 n, sl g1 n, sl g2 n, sl g3 n, sl g4 n] 49)).cell? ⟨g1, it, none⟩ = some (ptr x.b) := by rw [HR5.out.b1.cell, HR5.out.v1 it hitl, hex]; rfl
  have hpe : (binOp .neq 62 (ptr x.b) (ptr x.b)).run Try.prog (w4.alloc (.cells #[sl g0 n, sl g1 n, sl g2 n, sl g3 n, sl g4 n] 49)) = .ok (.bool false) (w4.alloc (.cells #[sl g0 n, sl g1 n, sl g2 n, sl g3 n, sl g4 n] 49)) := by
    have hnd := (HS3.out.below HB5.out).ms.nd x HX.out
    have := neqPtr _ _ _ hnd hnd
    simpa using this
  clear hb4 hr4 l0 l1 l2 l3 l4 hex HTK
  go_wp2_with fail
  clear r0 r1 hpe
  obtain ⟨W5, hW5⟩ : ∃ W5, W5 = w4.alloc (.cells #[sl g0 n, sl g1 n, sl g2 n, sl g3 n, sl g4 n] 49) := ⟨_, rfl⟩
  rw [← hW5] at HB5 HPB HR5
  rw [← hW5]
  rw [← hbp] at HPB HBG
  rw [← hbp]
  have hS5 := HS3.out.below HB5.out
  obtain ⟨-, -, -, -, p4, p5⟩ := hS5.ms.cells
  have HS5 := hide hS5
  have HB05 : Hid (Below w.heap.size w W5) := after HB2.out HB5.out
  clear hW5 hbp hS5
  refine (candidates_any wb _ W5 p4).mono ?_
  rintro e w6 ⟨rfl, rfl⟩
  clear p4
  have HCN := hide (cloneNodes_any HS5.out.ms.cown (Nat.le_trans (Nat.le_trans HN.out.cl hst) (by decide)))
  go_wp2_with fail
  refine HCN.out.mono ?_
  rintro e w6 ⟨gC, rfl, hCB, hgC, hb6⟩
  have HGC := hide (And.intro hCB hgC)
  have HB6 := hide hb6
  have HS6 := hide (HS5.out.below hb6)
  have p5' := cell_below hb6 p5
  clear hCB hgC hb6 p5 HCN
  go_wp2_with fail
  refine (ungraded_any wb _ w6 p5').mono ?_
  rintro e w7 ⟨rfl, rfl⟩
  clear p5'
  have hb06 : Below w.heap.size w w6 := after HB05.out HB6.out
  have hb006 : Below w0.heap.size w0 w6 := HB0.out.trans (hb06.mono HB0.out.size)
  have hmw : ∀ k, mine w6 wb mb N _ _ k → w0.heap.size ≤ k := fun k hk => HBM.out k (mine_sub HS6.out k hk)
  have HSTEP := hide (stepZ_any w0 _ wb mb sb tc ta _ _ K N Q C ung T x w6 HS6.out.mine hmw hb006 HT.out.store HT.out.par HN.out.par hl HX.out HXB.out hxq (by
    have h3 := (FK_perm ⟨HS.out.ms.nodup, HS.out.ms.ids⟩ HT.out.nd HN.out.ids).length_eq
    have h4 : (l.filterMap (nodeFor K N)).length ≤ l.length := List.length_filterMap_le _ _
    have h5 := HT.out.ll
    have h6 := HN.out.psl x HX.out
    omega) (by have := HN.out.cl; omega))
  have HB06 := hide hb06
  have HB006 := hide hb006
  have HMW := hide hmw
  clear hb06 hb006 hmw
  go_wp2_with fail
  refine HSTEP.out.mono ?_
  rintro e w7 ⟨rfl, K', M, qv', cv', Q', ung', hs7, hp7, hk7, hpm7⟩
  have HS7 := hide hs7
  have HP7 := hide hp7
  have HK7 := hide hk7
  have HPM := hide hpm7
  have HB07 : Hid (Below w0.heap.size w0 w7) := hide (HB006.out.trans (hk7.below HB006.out.size HMW.out))
  clear hs7 hp7 hk7 hpm7 HSTEP
  have HTK := hide (take_some _ wb mb kb kc n _ _ _ K' _ Q' _ ung' l w7 HS7.out HNL.out (fun i hi => cell_below HB07.out (HK.out i hi)) (by omega))
  go_wp2_with fail
  refine HTK.out.mono ?_
  rintro e w8 ⟨h0, h1, h2, h3, h4, D0, D1, D2, D3, D4, rfl, hr8, hb8, m0, m1, m2, m3, m4⟩
  rw [← HNL.out] at hr8 ⊢
  have hf : HFacts (w8.alloc (.cells #[sl h0 n, sl h1 n, sl h2 n, sl h3 n, sl h4 n] 49)) bt bp w8.heap.size kb n x K K' N (stepN K N x M) T l ta g0 g1 g2 g3 g4 h0 h1 h2 h3 h4 A0 A1 A2 A3 A4 D0 D1 D2 D3 D4 ∧ Blk (w8.alloc (.cells #[sl h0 n, sl h1 n, sl h2 n, sl h3 n, sl h4 n] 49)) gC 62 (C.map ptr).toArray ∧ Below w7.heap.size w7 (w8.alloc (.cells #[sl h0 n, sl h1 n, sl h2 n, sl h3 n, sl h4 n] 49)) := by
    have b36 : Below W3.heap.size W3 w6 := after HB5.out HB6.out
    have b79 : Below w7.heap.size w7 (w8.alloc (.cells #[sl h0 n, sl h1 n, sl h2 n, sl h3 n, sl h4 n] 49)) := hb8.alloc hb8.size _
    have b09 : Below w0.heap.size w0 (w8.alloc (.cells #[sl h0 n, sl h1 n, sl h2 n, sl h3 n, sl h4 n] 49)) := HB07.out.trans (b79.mono HB07.out.size)
    have tc6 := HTC.out.below b36 HTC.out.lt
    have pb6 := HPB.out.below HB6.out HPB.out.lt
    have r6 := HR5.out.below HB6.out
    have tc7 := tc6.kept HK7.out (not_mine HS6.out tc6 (by decide) (by decide) (by decide))
    have pb7 := pb6.kept HK7.out (not_mine HS6.out pb6 (by decide) (by decide) (by decide))
    have r7 := r6.other HK7.out (not_mine HS6.out r6.b0 (by decide) (by decide) (by decide)) (not_mine_new HS6.out HS3.out HBG.out.2.1 r6.b1.lt) (not_mine HS6.out r6.b2 (by decide) (by decide) (by decide)) (not_mine HS6.out r6.b3 (by decide) (by decide) (by decide)) (not_mine HS6.out r6.b4 (by decide) (by decide) (by decide))
    have gc7 := HGC.out.1.kept HK7.out (not_mine_new HS6.out HS5.out HGC.out.2 HGC.out.1.lt)
    exact ⟨⟨tc7.below b79 tc7.lt, pb7.below b79 pb7.lt, r7.below b79, Blk.new w8 49 _, hr8.below ((Below.refl _ _).alloc (Nat.le_refl _) _), fun i hi => cell_below b09 (HK.out i hi), (HN.out.par x HX.out).below b09, fun y hy => (HN.out.par y hy).below b09, fun c hc => (HT.out.par c hc).below b09, HT.out.store.2.1.below b09⟩, gc7.below b79 gc7.lt, b79⟩
  have HF := hide hf.1
  have HGC9 := hide hf.2.1
  have HB79 := hide hf.2.2
  have HS9 := hide (HS7.out.below hf.2.2)
  clear hf hr8 hb8 m0 m1 m2 m3 m4 HTK HGC HR5 HTC HPB HBG
  go_upto_region 20 with fail
  obtain ⟨bq, hbq⟩ : ∃ bq, bq = w8.heap.size := ⟨_, rfl⟩
  obtain ⟨W9, hW9⟩ : ∃ W9, W9 = w8.alloc (.cells #[sl h0 n, sl h1 n, sl h2 n, sl h3 n, sl h4 n] 49) := ⟨_, rfl⟩
  rw [← hW9] at HF HGC9 HB79 HS9
  rw [← hW9]
  rw [← hbq] at HF
  rw [← hbq]
  clear hW9 hbq
  have hp8 := HS.out.ms.p8 x HX.out
  have HFIN : Hid (∀ wE, Below W9.heap.size W9 wE → StepPost w0 w B wb mb (.func (.func 39) #[.pointer (some ⟨sb, 0, none⟩)] #[]) K N C ung T x wE) := hide fun wE hE => ⟨K', M, qv', cv', Q', ung', (HS9.out.below hE).mono (mine_sub HS6.out), HP7.out, ((Keeps.of_below HB06.out B).trans (HK7.out.mono (fun k _ => mine_sub HS6.out k))).trans (Keeps.of_below (after HB79.out hE) B), HPM.out⟩
  have HOK : Hid (NOk K N) := hide ⟨HS.out.ms.nodup, HS.out.ms.ids⟩
  have HOK' : Hid (NOk K' (stepN K N x M)) := hide ⟨HS9.out.ms.nodup, HS9.out.ms.ids⟩
  have HP8 := hide HS.out.ms.p8
  have HIN' : Hid (∀ y ∈ stepN K N x M, (K' y.b).id ∈ l) := hide (HN.out.step HT.out HX.out HP7.out HPM.out).ids
  have HITX : Hid (∀ h : it < l.length, l[it] = (K x.b).id) := hide fun h => by
    have h1 := HIG.out
    rw [← HIT.out] at h1
    simp only [List.getD, List.getElem?_eq_getElem h, Option.getD_some] at h1
    exact h1
  have hcl : C.length ≤ 300000 := Nat.le_trans HN.out.cl hst
  clear q2 htq htt hst hl hxq HXB HBM HB0 HK HIG HIN HB2 HS3 HB5 HS5 HB05 HB6 HS6 HB06 HB006 HMW HK7 HPM HB07 HS7 HB79 HS HIT HCK
  replace HS9 := hide HS9.out.mine
  clear w1 w2 w4 W3 W5 w6 w7 w8
  obtain ⟨bc, hbc⟩ : ∃ bc, bc = becomes x.p := ⟨_, rfl⟩
  have HBC := hide hbc
  have HPE : Hid (ptN (nodeFor K N (l.getD it ⟨#[]⟩)) = x.p) := hide (by rw [HEX.out]; rfl)
  clear hbc
  go_cut [18] from 76 to 94 (fun s wx => s = .bool bc ∧ wx = W9)
  case first =>
    as_aux_lemma =>
    have d2 : W9.cell? ⟨bp, 2, none⟩ = some (sl g2 n) := HF.out.preB.cell 2
    have r2 : W9.cell? ⟨g2, it, none⟩ = some (.int .i64 x.p) := by rw [HF.out.preR.b2.cell, HF.out.preR.v2 it hitl, HPE.out]
    have ha4 : bits BinOp.and IntKind.i64 (x.p : Int) 4 = ((x.p &&& 4 : Nat) : Int) := and_i64 x.p 4 hp8 (by decide)
    have ha3 : bits BinOp.and IntKind.i64 (x.p : Int) 3 = ((x.p &&& 3 : Nat) : Int) := and_i64 x.p 3 hp8 (by decide)
    by_cases e4 : x.p &&& 4 = 0
    · have z4 : (((x.p &&& 4 : Nat) : Int) == 0) = true := by rw [e4]; rfl
      by_cases e3 : x.p &&& 3 = 3
      · have z3 : (((x.p &&& 3 : Nat) : Int) == 3) = true := by rw [e3]; rfl
        have HE : Hid (bc = true) := hide (by rw [HBC.out]; unfold becomes; rw [e4, e3]; rfl)
        clear e4 e3
        go_wp2_with fail
        go_meet
        exact ⟨by rw [HE.out], rfl⟩
      · have z3 : (((x.p &&& 3 : Nat) : Int) == 3) = false := by rw [beq_eq_false_iff_ne]; omega
        have HE : Hid (bc = false) := hide (by rw [HBC.out]; unfold becomes; rw [beq_eq_false_iff_ne.2 e3]; simp)
        clear e4 e3
        go_wp2_with fail
        go_meet
        exact ⟨by rw [HE.out], rfl⟩
    · have z4 : (((x.p &&& 4 : Nat) : Int) == 0) = false := by rw [beq_eq_false_iff_ne]; omega
      have HE : Hid (bc = false) := hide (by rw [HBC.out]; unfold becomes; rw [beq_eq_false_iff_ne.2 e4]; simp)
      clear e4
      go_wp2_with fail
      go_meet
      exact ⟨by rw [HE.out], rfl⟩
  case rest =>
    obtain ⟨rfl, rfl⟩ := hcut
    obtain ⟨W9, hW9⟩ : ∃ W9, W9 = wc := ⟨_, rfl⟩
    subst hW9
    obtain ⟨C', hC'⟩ : ∃ C', C' = if becomes x.p = true then C ++ [x.b] else C := ⟨_, rfl⟩
    rw [← hC'] at HS9
    have hcn : C'.length = C.length + bc.toNat := by
      rw [hC', ← HBC.out]
      cases bc <;> simp
    have HCG : Hid (∀ k (h : k < C.length) (h' : k < C'.length), C'[k] = C[k]) := hide fun k h h' => by
      subst hC'
      split
      · rw [List.getElem_append_left h]
      · rfl
    have HCX : Hid (bc = true → ∀ h' : C.length < C'.length, C'[C.length] = x.b) := hide fun hb h' => by
      subst hC'
      rw [HBC.out] at hb
      simp [hb]
    have HC' := hide hC'
    clear hC'
    obtain ⟨ca', cc', hcv⟩ : ∃ ca' cc', cv' = .slice ca' C'.length cc' := by
      rcases HS9.out.ms.cown.2 with ⟨hv, h0⟩ | ⟨g, cap, cur, hv, _⟩
      · exact ⟨none, 0, by rw [hv, h0]⟩
      · exact ⟨_, cap, hv⟩
    subst hcv
    have HOWN := hide HS9.out.ms.cown
    obtain ⟨-, -, -, -, p4, -⟩ := HS9.out.ms.cells
    obtain ⟨cn, hcn'⟩ : ∃ cn, cn = C'.length := ⟨_, rfl⟩
    obtain ⟨c0, hc0⟩ : ∃ c0, c0 = C.length := ⟨_, rfl⟩
    rw [← hcn', ← hc0] at hcn
    rw [← hcn'] at p4 HOWN HS9
    rw [← hc0] at hcl ⊢
    have HCN := hide hcn'
    have HC0 := hide hc0
    clear hcn' hc0
    go_wp2_with fail
    refine (candidates_any wb _ _ p4).mono ?_
    rintro e w9 ⟨rfl, rfl⟩
    clear p4
    go_upto_if 99 with fail
    go_cut [20] from 100 to 101 (fun s wx => s = .int .i64 cn ∧ wx = W9)
    case first =>
      as_aux_lemma =>
      cases bc with
      | true =>
        have HE : Hid (((c0 : Nat) : Int) + 1 = ((cn : Nat) : Int)) := hide (by simp at hcn; omega)
        clear hcn
        go_wp2_with fail
        go_meet
        exact ⟨by rw [HE.out], rfl⟩
      | false =>
        have HE : Hid (((c0 : Nat) : Int) = ((cn : Nat) : Int)) := hide (by simp at hcn; omega)
        clear hcn
        go_wp2_with fail
        go_meet
        exact ⟨by rw [HE.out], rfl⟩
    case rest =>
      obtain ⟨rfl, rfl⟩ := hcut
      obtain ⟨W9, hW9⟩ : ∃ W9, W9 = wc := ⟨_, rfl⟩
      subst hW9
      have t1 : (((cn : Nat) : Int) != ((cn : Nat) : Int)) = false := by simp
      go_wp2_with fail
      have HND : Hid (∀ b ∈ C, ∃ A, Blk W9 b 92 A) := hide fun b hb => by
        obtain ⟨y, hy, rfl⟩ := HN.out.cin b hb
        have hm : after1 K x y ∈ stepN K N x M := by
          rw [stepN_eq]
          exact List.mem_append.2 (.inl (List.mem_map.2 ⟨y, hy, rfl⟩))
        have := HS9.out.ms.nd _ hm
        rw [after1_b] at this
        exact ⟨_, this⟩
      have HNX : Hid (∃ A, Blk W9 x.b 92 A) := hide (by
        have hm : after1 K x x ∈ stepN K N x M := by
          rw [stepN_eq]
          exact List.mem_append.2 (.inl (List.mem_map.2 ⟨x, HX.out, rfl⟩))
        have := HS9.out.ms.nd _ hm
        rw [after1_b] at this
        exact ⟨_, this⟩)
      clear t1
      go_loopw [21] (fun i wr => ∃ k : Nat, k ≤ c0 ∧ i = .int .i64 k ∧ Hid (Below W9.heap.size W9 wr)) (fun i _ => c0 - (intOf i).toNat)
      case atStart => exact ⟨0, Nat.zero_le _, rfl, Below.refl _ _⟩
      case round =>
        as_aux_lemma =>
        obtain ⟨k, hk, rfl, HBW⟩ := hrel
        by_cases hlt : k < c0
        · have hkC : k < C.length := by have := HC0.out; omega
          have hkC' : k < C'.length := by have := HCN.out; omega
          obtain ⟨gc, capc, hform⟩ := HOWN.out.form (by omega)
          simp only [Value.slice.injEq] at hform
          obtain ⟨hqa, -, -⟩ := hform
          subst hqa
          have c1 := cell_below HBW.out (HOWN.out.cell k hkC')
          rw [HCG.out k hkC hkC'] at c1
          have c2 : wr.cell? ⟨gC, k, none⟩ = some (ptr C[k]) := by
            refine cell_below HBW.out ((HGC9.out.cell k).trans ?_)
            simp [hkC]
          have hpe : ∀ m, (binOp .neq 62 (ptr C[k]) (ptr C[k])).run Try.prog (wr.drewN m) = .ok (.bool false) (wr.drewN m) := fun m => by
            obtain ⟨A, hA⟩ := HND.out _ (List.getElem_mem hkC)
            have hb := below_drewN HBW.out m
            have := neqPtr _ _ _ (hA.below hb hA.lt) (hA.below hb hA.lt)
            simpa using this
          generalize C[k] = qj at *
          clear hkC hkC' 
          go_wp2_with fail
          go_quiet (fail)
          go_wp2_with fail
          go_roundw
          case rel => exact ⟨k + 1, by omega, by go_num, below_drewN HBW.out _⟩
          case measure => simp [intOf]; omega
        · have hkc : k = c0 := by omega
          clear hlt hk
          subst hkc
          go_upto_region 32 with fail
          go_cut [130] from 121 to 129 (fun s wx => s = .bool false ∧ Hid (Below W9.heap.size W9 wx))
          case first =>
            as_aux_lemma =>
            cases bc with
            | false =>
              go_wp2_with fail
              go_meet
              exact ⟨rfl, HBW.out⟩
            | true =>
              have hcn1 : cn = k + 1 := hcn
              have hkC' : k < C'.length := by have := HCN.out; omega
              obtain ⟨gc, capc, hform⟩ := HOWN.out.form (by omega)
              simp only [Value.slice.injEq] at hform
              obtain ⟨hqa, -, -⟩ := hform
              subst hqa
              have c1 := cell_below HBW.out (HOWN.out.cell k hkC')
              have hcx : C'[k] = x.b := by
                have := HCX.out rfl
                have e := HC0.out
                subst e
                exact this hkC'
              rw [hcx] at c1
              have hpe : (binOp .neq 62 (ptr x.b) (ptr x.b)).run Try.prog wr = .ok (.bool false) wr := by
                obtain ⟨A, hA⟩ := HNX.out
                have := neqPtr _ _ _ (hA.below HBW.out hA.lt) (hA.below HBW.out hA.lt)
                simpa using this
              have hci : ((cn : Nat) : Int) - 1 = ((k : Nat) : Int) := by omega
              clear hcx hkC' hcn hcn1
              go_wp2_with fail
              go_meet
              exact ⟨rfl, HBW.out⟩
          case rest =>
            obtain ⟨rfl, HBW2⟩ := hcut
            obtain ⟨W10, hW10⟩ : ∃ W10, W10 = wc := ⟨_, rfl⟩
            subst hW10
            clear HBW HCG HCX HC' HOWN HND HNX HGC9 hcn HCN HC0
            have d2 : W10.cell? ⟨bp, 2, none⟩ = some (sl g2 n) := (HF.out.preB.below HBW2.out HF.out.preB.lt).cell 2
            have r2 : W10.cell? ⟨g2, it, none⟩ = some (.int .i64 x.p) := by
              have := HF.out.preR.below HBW2.out
              rw [this.b2.cell, this.v2 it hitl, HPE.out]
            obtain ⟨pd, hpd⟩ : ∃ pd, pd = passed x.p := ⟨_, rfl⟩
            have hpd8 : pd < 8 := by rw [hpd]; exact passed_lt hp8
            have HPD := hide hpd
            clear hpd
            go_upto_if 136 with fail
            go_cut [22] from 137 to 139 (fun s wx => s = .int .i64 pd ∧ wx = W10)
            case first =>
              as_aux_lemma =>
              cases bc with
              | true =>
                have ho : bits BinOp.or IntKind.i64 (x.p : Int) 4 = ((x.p ||| 4 : Nat) : Int) := or_i64 x.p 4 hp8 (by decide)
                have HE : Hid (((x.p ||| 4 : Nat) : Int) = (pd : Int)) := hide (by rw [HPD.out]; unfold passed; rw [← HBC.out]; rfl)
                go_wp2_with fail
                go_meet
                exact ⟨by rw [HE.out], rfl⟩
              | false =>
                have HE : Hid (((x.p : Nat) : Int) = (pd : Int)) := hide (by rw [HPD.out]; unfold passed; rw [← HBC.out]; rfl)
                go_wp2_with fail
                go_meet
                exact ⟨by rw [HE.out], rfl⟩
            case rest =>
              obtain ⟨rfl, rfl⟩ := hcut
              obtain ⟨W10, hW10⟩ : ∃ W10, W10 = wc := ⟨_, rfl⟩
              subst hW10
              clear d2 r2 HBC HPE
              go_wp2_with fail
              go_loopw [13, 23] (fun u i wr => ∃ k : Nat, k ≤ n ∧ i = .int .i64 k ∧ ∃ ub : Bool, u = .bool ub ∧ Hid (Below W9.heap.size W9 wr) ∧ Hid (ub = (ung || (l.take k).any (newU K N (K x.b).ps T)))) (fun _ i _ => n - (intOf i).toNat)
              case atStart => exact ⟨0, Nat.zero_le _, rfl, ung, rfl, HBW2.out, hide (by simp)⟩
              case round =>
                as_aux_lemma =>
                obtain ⟨k, hk, rfl, ub, rfl, HBW, HUB⟩ := hrel
                by_cases hlt : k < n
                · have hkl : k < l.length := by have := HNL.out; omega
                  have hlg : l.getD k ⟨#[]⟩ = l[k] := by simp [List.getD, hkl]
                  have HAN : Hid ((l.take (k + 1)).any (newU K N (K x.b).ps T) = ((l.take k).any (newU K N (K x.b).ps T) || newU K N (K x.b).ps T l[k])) := hide (any_take_succ hkl)
                  have F := HF.out.below HBW.out.drew
                  obtain ⟨⟨x0, x1, x2, x3, x4, x5, x6, x7⟩, -⟩ := cells8 F.tcB
                  have c1 := F.kc k hkl
                  have HITE : Hid (∀ y, nodeFor K N l[k] = some y → (y.b = x.b ↔ k = it)) := hide fun y hy => it_iff HOK.out HT.out.nd HX.out hkl (by have := HNL.out; omega) (HITX.out _) hy
                  obtain ⟨s, hs⟩ : ∃ s, s = l[k] := ⟨_, rfl⟩
                  rw [← hs] at c1 HITE HAN hlg
                  obtain ⟨pb, hpb⟩ : ∃ pb, pb = hasId (K x.b).ps s := ⟨_, rfl⟩
                  have HC46 := hide (hasParent_any (K x.b) s _ F.par)
                  rw [← hpb] at HC46
                  have HPB := hide hpb
                  have HLG := hide hlg
                  have HSL := hide hs
                  clear F hs hpb hlg
                  go_upto_region 40 with fail
                  go_region_held3 (fun w' => w'.cell? ⟨bt, 0, none⟩ = some (.string (K x.b).id) ∧ w'.cell? ⟨bt, 1, none⟩ = some (.slice (K x.b).pa (K x.b).pn (K x.b).pc) ∧ w'.cell? ⟨bt, 2, none⟩ = some (.string (K x.b).com) ∧ w'.cell? ⟨bt, 3, none⟩ = some (.string (K x.b).msg) ∧ w'.cell? ⟨bt, 4, none⟩ = some (.int .i64 (K x.b).cr) ∧ w'.cell? ⟨bt, 5, none⟩ = some (.map none) ∧ w'.cell? ⟨bt, 6, none⟩ = some (.string (K x.b).mr) ∧ w'.cell? ⟨bt, 7, none⟩ = some (.int .i64 (K x.b).gen) ∧ w'.cell? ⟨kb, k, none⟩ = some (.string s)) (with_reducible first | exact ⟨x0, x1, x2, x3, x4, x5, x6, x7, c1⟩ | exact ⟨e0, e1, e2, e3, e4, e5, e6, e7, e8⟩) ((go_at_call 46; refine HC46.out.mono ?_; rintro e w6 ⟨rfl, hb6⟩; have HB6 := hide hb6; have e0 := cell_below hb6 x0; have e1 := cell_below hb6 x1; have e2 := cell_below hb6 x2; have e3 := cell_below hb6 x3; have e4 := cell_below hb6 x4; have e5 := cell_below hb6 x5; have e6 := cell_below hb6 x6; have e7 := cell_below hb6 x7; have e8 := cell_below hb6 c1; clear hb6))
                  have HB61 : Hid (Below W9.heap.size W9 w6) := after HBW.out.drew HB6.out
                  clear e0 e1 e2 e3 e4 e5 e6 e7 e8 x0 x1 x2 x3 x4 x5 x6 x7 c1 HC46 HB6
                  have F := HF.out.below HB61.out
                  obtain ⟨o, ho⟩ : ∃ o, o = nodeFor K N s := ⟨_, rfl⟩
                  obtain ⟨r0, -, -, -, -⟩ := F.preR.at hlt (o := o) (by rw [HLG.out, ho])
                  obtain ⟨d0, -, -, -, -⟩ := F.preB.cells5
                  clear F
                  cases o with
                  | some y =>
                    as_aux_lemma =>
                    obtain ⟨y', hn', hyb, hKy, hp1, hp0, hq'⟩ := at_some HP7.out HOK'.out HOK.out HX.out ho.symm
                    rw [← HPB.out, ← HPD.out] at hp1
                    rw [← HPB.out] at hp0
                    simp only [exV, Option.isSome] at r0
                    have hy8 : y.p < 8 := HP8.out y (nodeFor_mem ho.symm).1
                    have F := HF.out.below HB61.out.drew
                    obtain ⟨a0, a1, a2, a3, a4⟩ := F.postR.at hlt (o := some y') (by rw [HLG.out, hn'])
                    obtain ⟨-, b1, b2, b3, b4⟩ := F.preR.at hlt (o := some y) (by rw [HLG.out, ho])
                    simp only [exV, ndV, cmC, Option.isSome] at a0 a1 a4 b1 b4
                    rw [hyb] at a1 a4
                    rw [hKy] at a4
                    have HSM := hide (same_any (K y.b) _ (F.parN y (nodeFor_mem ho.symm).1))
                    have hpe : ∀ w', (binOp .neq 62 (ptr y.b) (ptr y.b)).run Try.prog w' = .ok (.bool false) w' := fun w' => neqSelf w' y.b
                    generalize K y.b = cy at *
                    obtain ⟨z0, z1, z2, z3, z4⟩ := F.preB.cells5
                    obtain ⟨v0, v1, v2, v3, v4⟩ := F.postB.cells5
                    have HA4 := hide a4
                    have HB4 := hide b4
                    obtain ⟨s0, s1, s2, s3, s4, s5, s6, s7⟩ := a4
                    obtain ⟨t0, t1, t2, t3, t4, t5, t6, t7⟩ := b4
                    clear F z0 z2 z3 v2 v3 a2 a3 b2 b3
                    go_upto_region 42 with fail
                    go_region_held3 (fun w' => (w'.cell? ⟨bq, 0, none⟩ = some (sl h0 n) ∧ w'.cell? ⟨bq, 1, none⟩ = some (sl h1 n) ∧ w'.cell? ⟨bq, 4, none⟩ = some (sl h4 n) ∧ w'.cell? ⟨bp, 1, none⟩ = some (sl g1 n) ∧ w'.cell? ⟨bp, 4, none⟩ = some (sl g4 n) ∧ w'.cell? ⟨h0, k, none⟩ = some (.bool true) ∧ w'.cell? ⟨h1, k, none⟩ = some (ptr y.b) ∧ w'.cell? ⟨g1, k, none⟩ = some (ptr y.b)) ∧ (w'.cell? ⟨h4, k * 8, none⟩ = some (.string cy.id) ∧ w'.cell? ⟨h4, k * 8 + 1, none⟩ = some (.slice cy.pa cy.pn cy.pc) ∧ w'.cell? ⟨h4, k * 8 + 2, none⟩ = some (.string cy.com) ∧ w'.cell? ⟨h4, k * 8 + 3, none⟩ = some (.string cy.msg) ∧ w'.cell? ⟨h4, k * 8 + 4, none⟩ = some (.int .i64 cy.cr) ∧ w'.cell? ⟨h4, k * 8 + 5, none⟩ = some (.map none) ∧ w'.cell? ⟨h4, k * 8 + 6, none⟩ = some (.string cy.mr) ∧ w'.cell? ⟨h4, k * 8 + 7, none⟩ = some (.int .i64 cy.gen)) ∧ (w'.cell? ⟨g4, k * 8, none⟩ = some (.string cy.id) ∧ w'.cell? ⟨g4, k * 8 + 1, none⟩ = some (.slice cy.pa cy.pn cy.pc) ∧ w'.cell? ⟨g4, k * 8 + 2, none⟩ = some (.string cy.com) ∧ w'.cell? ⟨g4, k * 8 + 3, none⟩ = some (.string cy.msg) ∧ w'.cell? ⟨g4, k * 8 + 4, none⟩ = some (.int .i64 cy.cr) ∧ w'.cell? ⟨g4, k * 8 + 5, none⟩ = some (.map none) ∧ w'.cell? ⟨g4, k * 8 + 6, none⟩ = some (.string cy.mr) ∧ w'.cell? ⟨g4, k * 8 + 7, none⟩ = some (.int .i64 cy.gen))) (with_reducible first | exact ⟨⟨v0, v1, v4, z1, z4, a0, a1, b1⟩, ⟨s0, s1, s2, s3, s4, s5, s6, s7⟩, ⟨t0, t1, t2, t3, t4, t5, t6, t7⟩⟩ | exact ⟨⟨f0, f1, f2, f3, f4, f5, f6, f7⟩, ⟨i0, i1, i2, i3, i4, i5, i6, i7⟩, ⟨j0, j1, j2, j3, j4, j5, j6, j7⟩⟩) ((go_at_call 16; refine HSM.out.mono ?_; rintro e w8 ⟨rfl, hb8⟩; have HB8 := hide hb8; have f0 := cell_below hb8 v0; have f1 := cell_below hb8 v1; have f2 := cell_below hb8 v4; have f3 := cell_below hb8 z1; have f4 := cell_below hb8 z4; have f5 := cell_below hb8 a0; have f6 := cell_below hb8 a1; have f7 := cell_below hb8 b1; obtain ⟨i0, i1, i2, i3, i4, i5, i6, i7⟩ := HA4.out.below hb8; obtain ⟨j0, j1, j2, j3, j4, j5, j6, j7⟩ := HB4.out.below hb8; clear hb8))
                    have HB81 : Hid (Below W9.heap.size W9 w8) := after HB61.out.drew HB8.out
                    clear f0 f1 f2 f3 f4 f5 f6 f7 i0 i1 i2 i3 i4 i5 i6 i7 j0 j1 j2 j3 j4 j5 j6 j7 s0 s1 s2 s3 s4 s5 s6 s7 t0 t1 t2 t3 t4 t5 t6 t7 v0 v1 v4 z1 z4 a0 a1 b1 HA4 HB4 HSM hpe HB8 r0 d0
                    have HUB' : Hid (ub = (ung || (l.take (k + 1)).any (newU K N (K x.b).ps T))) := hide (by
                      rw [HAN.out, HUB.out]
                      unfold newU
                      rw [← ho]
                      simp)
                    have hki : y.b = x.b ↔ k = it := HITE.out y ho.symm
                    have F := HF.out.below HB81.out
                    obtain ⟨-, -, a2, a3, -⟩ := F.postR.at hlt (o := some y') (by rw [HLG.out, hn'])
                    obtain ⟨-, -, b2, b3, -⟩ := F.preR.at hlt (o := some y) (by rw [HLG.out, ho])
                    simp only [ptN, quV] at a2 a3 b2 b3
                    obtain ⟨-, -, z2, z3, -⟩ := F.preB.cells5
                    obtain ⟨-, -, v2, v3, -⟩ := F.postB.cells5
                    clear F ho hn' hyb hKy HITE HAN HUB
                    obtain ⟨yb, op, oq⟩ := y
                    obtain ⟨yb', pp, pq⟩ := y'
                    simp only at a2 a3 b2 b3 hp1 hp0 hq' hy8 hki
                    have hq2 : pq = ((oq && decide (k ≠ it)) || decide (pp ≠ op)) := by
                      rw [hq']
                      congr 2
                      exact decide_eq_decide.2 (not_congr hki)
                    clear hq' hki
                    have u1 : (((op : Nat) : Int) != ((op : Nat) : Int)) = false := by simp
                    have u2 : (((pd : Nat) : Int) != ((pd : Nat) : Int)) = false := by simp
                    have hbt : pb = true → bits BinOp.and IntKind.i64 (pp : Int) (op : Int) = (op : Int) ∧ bits BinOp.and IntKind.i64 (pp : Int) (pd : Int) = (pd : Int) ∧ bits BinOp.or IntKind.i64 (op : Int) (pd : Int) = (pp : Int) ∧ bits BinOp.andNot IntKind.i64 (pp : Int) (pp : Int) = 0 := fun h => by
                      rw [hp1 h]
                      exact bits_sub op pd hy8 hpd8
                    have hbf : pb = false → pp = op ∧ bits BinOp.and IntKind.i64 (op : Int) (op : Int) = (op : Int) := fun h => ⟨hp0 h, bits_self op hy8⟩
                    clear hp1 hp0
                    cases pb with
                    | false =>
                      as_aux_lemma =>
                      obtain ⟨rfl, y1⟩ := hbf rfl
                      have hq3 : pq = (oq && decide (k ≠ it)) := by rw [hq2]; simp
                      clear hbt hbf hq2
                      cases oq with
                      | false =>
                        as_aux_lemma =>
                        have hq4 : pq = false := by rw [hq3]; rfl
                        clear hq3
                        subst hq4
                        go_wp2_with fail
                        go_roundw
                        case rel => exact ⟨k + 1, by omega, by go_num, ub, rfl, HB81.out, HUB'.out⟩
                        case measure => simp [intOf]; omega
                      | true =>
                        as_aux_lemma =>
                        by_cases hki : k = it
                        · have hq4 : pq = false := by rw [hq3]; simp [hki]
                          have t9 : (((k : Nat) : Int) != ((it : Nat) : Int)) = false := by simp [hki]
                          clear hq3 hki
                          subst hq4
                          go_wp2_with fail
                          go_roundw
                          case rel => exact ⟨k + 1, by omega, by go_num, ub, rfl, HB81.out, HUB'.out⟩
                          case measure => simp [intOf]; omega
                        · have hq4 : pq = true := by rw [hq3]; simp [hki]
                          have t9 : (((k : Nat) : Int) != ((it : Nat) : Int)) = true := by rw [bne_iff_ne]; omega
                          clear hq3 hki
                          subst hq4
                          go_wp2_with fail
                          go_roundw
                          case rel => exact ⟨k + 1, by omega, by go_num, ub, rfl, HB81.out, HUB'.out⟩
                          case measure => simp [intOf]; omega
                    | true =>
                      as_aux_lemma =>
                      obtain ⟨y1, y2, y3, y4⟩ := hbt rfl
                      clear hbt hbf
                      cases oq with
                      | false =>
                        as_aux_lemma =>
                        have hq3 : pq = decide (pp ≠ op) := by rw [hq2]; simp
                        clear hq2
                        by_cases hne : pp = op
                        · have hq4 : pq = false := by rw [hq3]; simp [hne]
                          have t8 : (((pp : Nat) : Int) != ((op : Nat) : Int)) = false := by simp [hne]
                          clear hq3 hne
                          subst hq4
                          go_wp2_with fail
                          go_roundw
                          case rel => exact ⟨k + 1, by omega, by go_num, ub, rfl, HB81.out, HUB'.out⟩
                          case measure => simp [intOf]; omega
                        · have hq4 : pq = true := by rw [hq3]; simp [hne]
                          have t8 : (((pp : Nat) : Int) != ((op : Nat) : Int)) = true := by rw [bne_iff_ne]; omega
                          clear hq3 hne
                          subst hq4
                          go_wp2_with fail
                          go_roundw
                          case rel => exact ⟨k + 1, by omega, by go_num, ub, rfl, HB81.out, HUB'.out⟩
                          case measure => simp [intOf]; omega
                      | true =>
                        as_aux_lemma =>
                        by_cases hki : k = it
                        · have hq3 : pq = decide (pp ≠ op) := by rw [hq2]; simp [hki]
                          have t9 : (((k : Nat) : Int) != ((it : Nat) : Int)) = false := by simp [hki]
                          clear hq2 hki
                          by_cases hne : pp = op
                          · have hq4 : pq = false := by rw [hq3]; simp [hne]
                            have t8 : (((pp : Nat) : Int) != ((op : Nat) : Int)) = false := by simp [hne]
                            clear hq3 hne
                            subst hq4
                            go_wp2_with fail
                            go_roundw
                            case rel => exact ⟨k + 1, by omega, by go_num, ub, rfl, HB81.out, HUB'.out⟩
                            case measure => simp [intOf]; omega
                          · have hq4 : pq = true := by rw [hq3]; simp [hne]
                            have t8 : (((pp : Nat) : Int) != ((op : Nat) : Int)) = true := by rw [bne_iff_ne]; omega
                            clear hq3 hne
                            subst hq4
                            go_wp2_with fail
                            go_roundw
                            case rel => exact ⟨k + 1, by omega, by go_num, ub, rfl, HB81.out, HUB'.out⟩
                            case measure => simp [intOf]; omega
                        · have hq4 : pq = true := by rw [hq2]; simp [hki]
                          have t9 : (((k : Nat) : Int) != ((it : Nat) : Int)) = true := by rw [bne_iff_ne]; omega
                          clear hq2 hki
                          subst hq4
                          go_wp2_with fail
                          go_roundw
                          case rel => exact ⟨k + 1, by omega, by go_num, ub, rfl, HB81.out, HUB'.out⟩
                          case measure => simp [intOf]; omega
                  | none =>
                    as_aux_lemma =>
                    simp only [exV, Option.isSome] at r0
                    cases pb with
                    | false =>
                      as_aux_lemma =>
                      have hn' := ent_no HP7.out ho.symm HPB.out.symm
                      have F := HF.out.below HB61.out
                      obtain ⟨a0, -, -, -, -⟩ := F.postR.at hlt (o := none) (by rw [HLG.out, hn'])
                      obtain ⟨v0, -, -, -, -⟩ := F.postB.cells5
                      simp only [exV, Option.isSome] at a0
                      have HUB' : Hid (ub = (ung || (l.take (k + 1)).any (newU K N (K x.b).ps T))) := hide (by
                        rw [HAN.out, HUB.out]
                        unfold newU
                        rw [← HPB.out]
                        simp)
                      clear F ho hn' HITE HAN HUB
                      go_wp2_with fail
                      go_roundw
                      case rel => exact ⟨k + 1, by omega, by go_num, ub, rfl, HB61.out, HUB'.out⟩
                      case measure => simp [intOf]; omega
                    | true =>
                      as_aux_lemma =>
                      obtain ⟨y', hn', hKy, hyp, hyq⟩ := at_new HP7.out HOK'.out ho.symm HPB.out.symm
                      rw [← HPD.out] at hyp hyq
                      have HNU : Hid (newU K N (K x.b).ps T s = decide ((resolveC T s).gen = 0)) := hide (by
                        unfold newU
                        rw [← ho, ← HPB.out]
                        simp)
                      have F6 := HF.out.below HB61.out
                      obtain ⟨aa0, -, -, -, -⟩ := F6.postR.at hlt (o := some y') (by rw [HLG.out, hn'])
                      obtain ⟨vv0, -, -, -, -⟩ := F6.postB.cells5
                      simp only [exV, Option.isSome] at aa0
                      have F := HF.out.below HB61.out.drew
                      obtain ⟨-, -, -, -, a4⟩ := F.postR.at hlt (o := some y') (by rw [HLG.out, hn'])
                      obtain ⟨-, -, -, -, v4⟩ := F.postB.cells5
                      simp only [cmC] at a4
                      rw [hKy] at a4
                      have c1 := F.kc k hkl
                      rw [← HSL.out] at c1
                      have HPC := hide (Par.resolve F.parT s)
                      have HC47 := hide (resolve_any ta T.length tc s T _ rfl HT.out.store.2.2 F.tab)
                      generalize resolveC T s = cy at *
                      have HA4 := hide a4
                      obtain ⟨s0, s1, s2, s3, s4, s5, s6, s7⟩ := a4
                      clear F F6 HITE
                      go_upto_region 47 with fail
                      go_region_held3 (fun w' => (w'.cell? ⟨bq, 4, none⟩ = some (sl h4 n) ∧ w'.cell? ⟨kb, k, none⟩ = some (.string s)) ∧ (w'.cell? ⟨h4, k * 8, none⟩ = some (.string cy.id) ∧ w'.cell? ⟨h4, k * 8 + 1, none⟩ = some (.slice cy.pa cy.pn cy.pc) ∧ w'.cell? ⟨h4, k * 8 + 2, none⟩ = some (.string cy.com) ∧ w'.cell? ⟨h4, k * 8 + 3, none⟩ = some (.string cy.msg) ∧ w'.cell? ⟨h4, k * 8 + 4, none⟩ = some (.int .i64 cy.cr) ∧ w'.cell? ⟨h4, k * 8 + 5, none⟩ = some (.map none) ∧ w'.cell? ⟨h4, k * 8 + 6, none⟩ = some (.string cy.mr) ∧ w'.cell? ⟨h4, k * 8 + 7, none⟩ = some (.int .i64 cy.gen))) (with_reducible first | exact ⟨⟨v4, c1⟩, ⟨s0, s1, s2, s3, s4, s5, s6, s7⟩⟩ | exact ⟨⟨f4, f5⟩, ⟨i0, i1, i2, i3, i4, i5, i6, i7⟩⟩ | exact ⟨⟨f6, f7⟩, ⟨j0, j1, j2, j3, j4, j5, j6, j7⟩⟩) ((first | (go_at_call 47; refine HC47.out.mono ?_; rintro e w7 ⟨rfl, hb7⟩; have HB7 := hide hb7; have HPC7 := hide (HPC.out.below hb7); have f4 := cell_below hb7 v4; have f5 := cell_below hb7 c1; obtain ⟨i0, i1, i2, i3, i4, i5, i6, i7⟩ := HA4.out.below hb7; clear hb7) | (go_at_call 16; refine (same_any cy _ HPC7.out).mono ?_; rintro e w8 ⟨rfl, hb8⟩; have HB8 := hide hb8; have f6 := cell_below hb8 f4; have f7 := cell_below hb8 f5; obtain ⟨j0, j1, j2, j3, j4, j5, j6, j7⟩ := (HA4.out.below HB7.out).below hb8; clear hb8)))
                      have HB81 : Hid (Below W9.heap.size W9 w8) := after (after HB61.out.drew HB7.out) HB8.out
                      clear f4 f5 f6 f7 i0 i1 i2 i3 i4 i5 i6 i7 j0 j1 j2 j3 j4 j5 j6 j7 s0 s1 s2 s3 s4 s5 s6 s7 v4 c1 HA4 HC47 HB8 HB7 HPC7 HPC r0 d0 aa0 vv0
                      have F := HF.out.below HB81.out
                      obtain ⟨-, -, a2, a3, a4⟩ := F.postR.at hlt (o := some y') (by rw [HLG.out, hn'])
                      obtain ⟨-, -, b2, b3, -⟩ := F.preR.at hlt (o := none) (by rw [HLG.out, ho])
                      simp only [ptN, quV, cmC] at a2 a3 a4 b3
                      rw [hKy] at a4
                      obtain ⟨-, -, -, -, -, -, -, s7⟩ := a4
                      obtain ⟨-, -, z2, z3, -⟩ := F.preB.cells5
                      obtain ⟨-, -, v2, v3, v4⟩ := F.postB.cells5
                      obtain ⟨op, hop⟩ : ∃ op, op = 0 := ⟨_, rfl⟩
                      have b2' : w8.cell? ⟨g2, k, none⟩ = some (.int .i64 (op : Int)) := by rw [hop]; exact b2
                      have HOP := hide hop
                      obtain ⟨yb', pp, pq⟩ := y'
                      simp only at a2 a3 hyp hyq hKy
                      have hq3 : pq = decide (pd ≠ 0) := hyq
                      rw [hyp] at a2
                      obtain ⟨y1, y2, y3, y4⟩ := bits_sub op pd (by omega) hpd8
                      rw [show op ||| pd = pd by rw [hop, Nat.zero_or]] at y1 y2 y3 y4
                      have u1 : (((op : Nat) : Int) != ((op : Nat) : Int)) = false := by simp
                      have u2 : (((pd : Nat) : Int) != ((pd : Nat) : Int)) = false := by simp
                      have hub' : ∀ b, b = (ub || decide (cy.gen = 0)) → b = (ung || (l.take (k + 1)).any (newU K N (K x.b).ps T)) := fun b hb => by
                        rw [HAN.out, HNU.out, hb, HUB.out, Bool.or_assoc]
                      have HUA := hide hub'
                      clear F ho hn' hyp hyq hKy HAN HUB HNU b2 hop hub'
                      by_cases hg : cy.gen = 0
                      · have tg : (cy.gen == 0) = true := by rw [hg]; rfl
                        have HUB' : Hid (true = (ung || (l.take (k + 1)).any (newU K N (K x.b).ps T))) := hide (HUA.out true (by simp [hg]))
                        clear HUA hg
                        by_cases hne : pd = 0
                        · have hq4 : pq = false := by rw [hq3]; simp [hne]
                          have t8 : (((pd : Nat) : Int) != ((op : Nat) : Int)) = false := by rw [HOP.out, hne]; rfl
                          clear hq3 hne
                          subst hq4
                          go_wp2_with fail
                          go_roundw
                          case rel => exact ⟨k + 1, by omega, by go_num, true, rfl, HB81.out, HUB'.out⟩
                          case measure => simp [intOf]; omega
                        · have hq4 : pq = true := by rw [hq3]; simp [hne]
                          have t8 : (((pd : Nat) : Int) != ((op : Nat) : Int)) = true := by rw [bne_iff_ne, HOP.out]; omega
                          clear hq3 hne
                          subst hq4
                          go_wp2_with fail
                          go_roundw
                          case rel => exact ⟨k + 1, by omega, by go_num, true, rfl, HB81.out, HUB'.out⟩
                          case measure => simp [intOf]; omega
                      · have tg : (cy.gen == 0) = false := by rw [beq_eq_false_iff_ne]; exact hg
                        have HUB' : Hid (ub = (ung || (l.take (k + 1)).any (newU K N (K x.b).ps T))) := hide (HUA.out ub (by simp [hg]))
                        clear HUA hg
                        by_cases hne : pd = 0
                        · have hq4 : pq = false := by rw [hq3]; simp [hne]
                          have t8 : (((pd : Nat) : Int) != ((op : Nat) : Int)) = false := by rw [HOP.out, hne]; rfl
                          clear hq3 hne
                          subst hq4
                          go_wp2_with fail
                          go_roundw
                          case rel => exact ⟨k + 1, by omega, by go_num, ub, rfl, HB81.out, HUB'.out⟩
                          case measure => simp [intOf]; omega
                        · have hq4 : pq = true := by rw [hq3]; simp [hne]
                          have t8 : (((pd : Nat) : Int) != ((op : Nat) : Int)) = true := by rw [bne_iff_ne, HOP.out]; omega
                          clear hq3 hne
                          subst hq4
                          go_wp2_with fail
                          go_roundw
                          case rel => exact ⟨k + 1, by omega, by go_num, ub, rfl, HB81.out, HUB'.out⟩
                          case measure => simp [intOf]; omega
                · as_aux_lemma =>
                  have hub : ub = ung' := by
                    rw [HUB.out, ung_end HP7.out (HN.out.pin x HX.out), List.take_of_length_le (by have := HNL.out; omega)]
                  have hs := HS9.out.below HBW.out
                  obtain ⟨-, -, -, -, -, p5⟩ := hs.ms.cells
                  have F := HF.out.below HBW.out
                  obtain ⟨v0, v1, v2, v3, v4⟩ := F.postB.cells5
                  have HBK := hide (books_any _ wb mb n h0 h1 h2 h3 h4 D0 D1 D2 D3 D4 _ _ _ K' _ Q' _ ung' l wr hs F.postR HNL.out (by omega) HT.out.nd HIN'.out)
                  clear hs F HUB
                  subst hub
                  have tu : (ub != ub) = false := by simp
                  go_wp2_with fail
                  refine (ungraded_any wb _ _ p5).mono ?_
                  rintro e w6 ⟨rfl, rfl⟩
                  go_wp2_with fail
                  refine HBK.out.mono ?_
                  rintro e w7 ⟨rfl, hb7⟩
                  have HE := hide (HFIN.out _ (after HBW.out hb7))
                  clear hb7 v0 v1 v2 v3 v4 p5 tu
                  go_wp2_with fail
                  go_ret
                  exact ⟨rfl, HE.out⟩
end Go.Proofs.Qxb6605835a
