import Derived.Test.Qxb6605835aPaintW
namespace Go.Proofs.Qxb6605835a
open Go.ChangeShapes Go.WideShapes Go.ChangeAt Go.RowKit
set_option linter.unusedVariables false

theorem mark_stays (a b : Nat) (ha : a < 8) (hb : b < 8) (h : a &&& 4 ≠ 0) : (a ||| b) &&& 4 ≠ 0 := by
  have : ∀ a b : Fin 8, a.val &&& 4 ≠ 0 → (a.val ||| b.val) &&& 4 ≠ 0 := by decide +kernel
  exact this ⟨a, ha⟩ ⟨b, hb⟩ h

/-- What paint promises: the node is painted, the rest of the walk's state goes with it. -/
def PaintPost (w : World) (B : Nat → Prop) (wb mb : Nat) (fnv cv : Value) (K : Nat → Cm) (N : List Nd) (C : List Nat) (ung : Bool) (b pt : Nat) (w' : World) : Prop :=
  ∃ qv' Q', WS w' B wb mb fnv K (setNd N b (paintNd pt)) qv' cv Q' C ung ∧ Keeps w w' B

set_option maxHeartbeats 1000000 in
/-- The paint is there already. -/
theorem paint_none (B : Nat → Prop) (wb mb : Nat) (fnv qv cv : Value) (K : Nat → Cm) (N : List Nd) (Q C : List Nat) (ung : Bool) (x : Nd) (pt : Nat) (w : World) (hs : WS w B wb mb fnv K N qv cv Q C ung) (hx : x ∈ N) (hpt : pt < 8) (h : x.p ||| pt = x.p) :
    Calls Try.prog 52 #[.pointer (some ⟨wb, 0, none⟩), ptr x.b, .int .i64 pt] w fun e w' => e = .returned (.tuple #[]) ∧ PaintPost w B wb mb fnv cv K N C ung x.b pt w' := by
  have hb := hs.ms.nd x hx
  have h8 : w.cell? ⟨x.b, 8, none⟩ = some (.int .i64 x.p) := hb.cell 8
  have hor := or_i64 x.p pt (hs.ms.p8 x hx) hpt
  rw [h] at hor
  have HE : Hid (∀ w', w' = w.drew → PaintPost w B wb mb fnv cv K N C ung x.b pt w') := hide <| by
    rintro w' rfl
    have e : setNd N x.b (paintNd pt) = N := setNd_id (fun y hy e => by
      have := hs.ms.uniq hy hx e
      subst this
      unfold paintNd
      rw [if_pos h])
    refine ⟨qv, Q, ?_, (Keeps.refl _ _).drew⟩
    rw [e]
    exact hs.below (Below.refl _ _).drew
  clear hs hx hb h
  generalize x.p = p at *
  generalize x.b = b at *
  have hpp : ((p : Int) == (p : Int)) = true := by simp
  go_enter Try.func52, Try.ntmps52
  go_wp2
  go_region
  go_wp2
  refine bodyPost_ret (results_none rfl _ _ _) rfl ?_
  exact ⟨rfl, HE.out _ rfl⟩

set_option maxHeartbeats 1000000 in
/-- The node waits in the queue: its paint turns, and the count where it is marked now. -/
theorem paint_queued (B : Nat → Prop) (wb mb : Nat) (fnv qv cv : Value) (K : Nat → Cm) (N : List Nd) (Q C : List Nat) (ung : Bool) (x : Nd) (pt : Nat) (w : World) (hs : WS w B wb mb fnv K N qv cv Q C ung) (hx : x ∈ N) (hpt : pt < 8) (h : x.p ||| pt ≠ x.p) (hq : x.q = true) (hlen : N.length ≤ 900000) :
    Calls Try.prog 52 #[.pointer (some ⟨wb, 0, none⟩), ptr x.b, .int .i64 pt] w fun e w' => e = .returned (.tuple #[]) ∧ PaintPost w B wb mb fnv cv K N C ung x.b pt w' := by
  have hb := hs.ms.nd x hx
  have h8 : w.cell? ⟨x.b, 8, none⟩ = some (.int .i64 x.p) := hb.cell 8
  have h9 : w.cell? ⟨x.b, 9, none⟩ = some (.bool true) := by rw [← hq]; exact hb.cell 9
  have f8 := hb.free 8
  obtain ⟨-, -, -, q3, -, -⟩ := hs.ms.cells
  have f3 := hs.ms.blk.free 3
  have hbw : x.b ≠ wb := hb.ne hs.ms.blk (by decide)
  have hp8 := hs.ms.p8 x hx
  have hor := or_i64 x.p pt hp8 hpt
  have hp' := or8 x.p pt hp8 hpt
  obtain ⟨p', hpd⟩ : ∃ p', p' = x.p ||| pt := ⟨_, rfl⟩
  rw [← hpd] at hor hp'
  have ha1 : bits BinOp.and IntKind.i64 (x.p : Int) 4 = ((x.p &&& 4 : Nat) : Int) := and_i64 x.p 4 hp8 (by decide)
  have ha2 : bits BinOp.and IntKind.i64 (p' : Int) 4 = ((p' &&& 4 : Nat) : Int) := and_i64 p' 4 hp' (by decide)
  have hne : ((p' : Int) == (x.p : Int)) = false := by rw [beq_eq_false_iff_ne]; intro e; exact h (by rw [← hpd]; omega)
  have hcnt := cnt_set (fun y => y.q && (y.p &&& 4 == 0)) (paintNd pt) N x hx hs.ms.nodup
  have hpx : paintNd pt x = ⟨x.b, p', true⟩ := by unfold paintNd; rw [if_neg h, hpd]
  simp only [hpx, hq, Bool.true_and] at hcnt
  have hset : setNd N x.b (paintNd pt) = setNd N x.b (fun y => ⟨y.b, p', true⟩) := setNd_congr (fun y hy e => by
    have := hs.ms.uniq hy hx e
    subst this
    exact hpx)
  have hul : unmk N ≤ N.length := List.length_filter_le _ _
  have hmm : x.p &&& 4 ≠ 0 → p' &&& 4 ≠ 0 := by rw [hpd]; exact mark_stays x.p pt hp8 hpt
  have HE : Hid (∀ w' (u' : Int), u' = ((unmk (setNd N x.b (paintNd pt)) : Nat) : Int) → (w' = (w.setCell ⟨x.b, 8, none⟩ (.int .i64 (p' : Int))).drew ∧ u' = ((unmk N : Nat) : Int) ∨ w' = ((w.setCell ⟨x.b, 8, none⟩ (.int .i64 (p' : Int))).setCell ⟨wb, 3, none⟩ (.int .i64 u')).drew) → PaintPost w B wb mb fnv cv K N C ung x.b pt w') := hide <| by
    intro w' u' hu hw
    have k1 : Keeps w (w.setCell ⟨x.b, 8, none⟩ (.int .i64 (p' : Int))) (· = x.b) := (Keeps.refl _ _).set x.b 8 _ (.inl rfl)
    have b1 : Blk (w.setCell ⟨x.b, 8, none⟩ (.int .i64 (p' : Int))) x.b 92 (nodeArr (K x.b) p' true) := by
      have := hb.set 8 (.int .i64 (p' : Int))
      rw [hq] at this
      exact this
    have m1 := hs.ms.setNode hx p' true hp' b1 k1
    rw [← hset] at m1
    have hqd : qd (setNd N x.b (paintNd pt)) = qd N := qd_same (paintNd_b pt) (fun y hy e => by
      have := hs.ms.uniq hy hx e
      subst this
      rw [hpx, hq])
    rcases hw with ⟨rfl, e⟩ | rfl
    · refine ⟨qv, Q, ⟨?_, by rw [hqd]; exact hs.qperm⟩, (hs.ms.belowB k1 (fun k e => e ▸ hs.ms.bn x hx)).drew⟩
      rw [← hu, e]
      exact m1.below (Below.refl _ _).drew
    · have k2 : Keeps (w.setCell ⟨x.b, 8, none⟩ (.int .i64 (p' : Int))) ((w.setCell ⟨x.b, 8, none⟩ (.int .i64 (p' : Int))).setCell ⟨wb, 3, none⟩ (.int .i64 u')) (· = wb) := (Keeps.refl _ _).set wb 3 _ (.inl rfl)
      have m2 := m1.setWalk u' ung (m1.blk.set 3 (.int .i64 u')) k2
      refine ⟨qv, Q, ⟨?_, by rw [hqd]; exact hs.qperm⟩, ((hs.ms.belowB k1 (fun k e => e ▸ hs.ms.bn x hx)).trans (m1.belowB k2 (fun k e => e ▸ hs.ms.bw))).drew⟩
      rw [← hu]
      exact m2.below (Below.refl _ _).drew
  clear hs hx hb h hset hpx hpd
  change unmk _ + _ = unmk _ + _ at hcnt
  generalize unmk (setNd N x.b (paintNd pt)) = un' at *
  generalize unmk N = un at *
  generalize x.p = p at *
  generalize x.b = b at *
  generalize p &&& 4 = m at *
  generalize p' &&& 4 = m' at *
  by_cases hm : m = 0
  · subst hm
    by_cases hm' : m' = 0
    · subst hm'
      have e1 : un' = un := by simpa using hcnt
      have HEE := hide e1
      clear hcnt e1
      have z0 : (((0 : Nat) : Int) == 0) = true := rfl
      have z1 : (((0 : Nat) : Int) != 0) = false := rfl
      go_enter Try.func52, Try.ntmps52
      go_wp2
      go_region
      go_wp2
      go_end0
      exact ⟨rfl, HE.out _ _ rfl (.inl ⟨rfl, by rw [HEE.out]⟩)⟩
    · have hm0 : (m' == 0) = false := by rw [beq_eq_false_iff_ne]; exact hm'
      have e1 : un' + 1 = un := by simpa [hm0] using hcnt
      obtain rfl : un = un' + 1 := e1.symm
      have z0 : (((0 : Nat) : Int) == 0) = true := rfl
      have z1 : ((m' : Int) != 0) = true := by rw [bne_iff_ne]; omega
      clear hcnt e1 hm' hm0 hmm
      go_enter Try.func52, Try.ntmps52
      go_wp2
      go_region
      go_wp2
      go_end0
      exact ⟨rfl, HE.out _ _ rfl (.inr rfl)⟩
  · have hm' := hmm hm
    have hm0 : (m' == 0) = false := by rw [beq_eq_false_iff_ne]; exact hm'
    have hm1 : (m == 0) = false := by rw [beq_eq_false_iff_ne]; exact hm
    have e1 : un' = un := by simpa [hm0, hm1] using hcnt
    have HEE := hide e1
    have z0 : ((m : Int) == 0) = false := by rw [beq_eq_false_iff_ne]; omega
    clear hcnt e1 hm' hm0 hm1 hm hmm
    go_enter Try.func52, Try.ntmps52
    go_wp2
    go_region
    go_wp2
    go_end0
    exact ⟨rfl, HE.out _ _ rfl (.inl ⟨rfl, by rw [HEE.out]⟩)⟩

set_option maxHeartbeats 2000000 in
/-- The node does not wait: it is painted, queued, and counted where it is not marked. -/
theorem paint_push (B : Nat → Prop) (wb mb : Nat) (fnv qv cv : Value) (K : Nat → Cm) (N : List Nd) (Q C : List Nat) (ung : Bool) (x : Nd) (pt : Nat) (w : World) (hs : WS w B wb mb fnv K N qv cv Q C ung) (hx : x ∈ N) (hpt : pt < 8) (h : x.p ||| pt ≠ x.p) (hq : x.q = false) (hlen : N.length ≤ 900000) :
    Calls Try.prog 52 #[.pointer (some ⟨wb, 0, none⟩), ptr x.b, .int .i64 pt] w fun e w' => e = .returned (.tuple #[]) ∧ PaintPost w B wb mb fnv cv K N C ung x.b pt w' := by
  have hb := hs.ms.nd x hx
  have h8 : w.cell? ⟨x.b, 8, none⟩ = some (.int .i64 x.p) := hb.cell 8
  have h9 : w.cell? ⟨x.b, 9, none⟩ = some (.bool false) := by rw [← hq]; exact hb.cell 9
  have f8 := hb.free 8
  have f9 := hb.free 9
  have hbw : x.b ≠ wb := hb.ne hs.ms.blk (by decide)
  have hp8 := hs.ms.p8 x hx
  have hor := or_i64 x.p pt hp8 hpt
  have hp' := or8 x.p pt hp8 hpt
  obtain ⟨p', hpd⟩ : ∃ p', p' = x.p ||| pt := ⟨_, rfl⟩
  rw [← hpd] at hor hp'
  have ha1 : bits BinOp.and IntKind.i64 (x.p : Int) 4 = ((x.p &&& 4 : Nat) : Int) := and_i64 x.p 4 hp8 (by decide)
  have ha2 : bits BinOp.and IntKind.i64 (p' : Int) 4 = ((p' &&& 4 : Nat) : Int) := and_i64 p' 4 hp' (by decide)
  have hne : ((p' : Int) == (x.p : Int)) = false := by rw [beq_eq_false_iff_ne]; intro e; exact h (by rw [← hpd]; omega)
  have hcnt := cnt_set (fun y => y.q && (y.p &&& 4 == 0)) (paintNd pt) N x hx hs.ms.nodup
  have hpx : paintNd pt x = ⟨x.b, p', true⟩ := by unfold paintNd; rw [if_neg h, hpd]
  simp only [hpx, hq, Bool.true_and, Bool.false_and, Bool.toNat_false, Nat.add_zero] at hcnt
  change unmk _ = unmk _ + _ at hcnt
  have hset : setNd N x.b (paintNd pt) = setNd N x.b (fun y => ⟨y.b, p', true⟩) := setNd_congr (fun y hy e => by
    have := hs.ms.uniq hy hx e
    subst this
    exact hpx)
  have hul : unmk N ≤ N.length := List.length_filter_le _ _
  have hQl : Q.length ≤ 900000 := by
    rw [hs.qperm.length_eq]
    unfold qd
    rw [List.length_map]
    exact Nat.le_trans (List.length_filter_le _ _) hlen
  -- the world as heap.Push meets it
  obtain ⟨W, hW⟩ : ∃ W, W = ((w.setCell ⟨x.b, 8, none⟩ (.int .i64 (p' : Int))).setCell ⟨x.b, 9, none⟩ (.bool true)).drew := ⟨_, rfl⟩
  have kW : Keeps w W (· = x.b) := by rw [hW]; exact (((Keeps.refl w (· = x.b)).set x.b 8 _ (.inl rfl)).set x.b 9 _ (.inl rfl)).drew
  have bW : Blk W x.b 92 (nodeArr (K x.b) p' true) := by rw [hW]; exact (hb.set 8 (.int .i64 (p' : Int))).set 9 (.bool true)
  have mW := hs.ms.setNode hx p' true hp' bW kW
  rw [← hset] at mW
  have hpush := hpush_any wb x.b 0 K _ qv Q W mW.blk rfl rfl mW.qown (Nat.zero_le _) (by omega) mW.nodes ⟨_, _, bW⟩ mW.heap
  have HP := hide hpush
  have HM := hide mW
  have HK := hide kW
  have HS := hide hs
  have HX := hide hx
  have HQP : Hid ((qd N ++ [x.b]).Perm (qd (setNd N x.b (paintNd pt)))) := qd_push (paintNd_b pt) hx hs.ms.nodup hq (by rw [hpx]) (fun y hy e => hs.ms.uniq hy hx e)
  have HPX := hide hpx
  clear hs hx hb h hset hpx hpd kW bW mW hpush
  rw [hW] at HP
  have HW := hide hW
  clear hW
  obtain ⟨b, hbd⟩ : ∃ b, b = x.b := ⟨_, rfl⟩
  obtain ⟨p, hpd⟩ : ∃ p, p = x.p := ⟨_, rfl⟩
  have HBD := hide hbd
  rw [← hbd] at h8 h9 f8 f9 hbw HP HW ⊢
  rw [← hpd] at h8 hor ha1 hne
  clear hbd hpd
  by_cases hm' : p' &&& 4 = 0
  · rw [hm'] at ha2
    have hc1 : unmk (setNd N x.b (paintNd pt)) = unmk N + 1 := by rw [hcnt, hm']; rfl
    have z1 : (((0 : Nat) : Int) == 0) = true := rfl
    have HC1 := hide hc1
    clear hcnt hc1 hm'
    go_enter Try.func52, Try.ntmps52
    go_wp2
    go_region
    go_wp2_with fail
    refine HP.out.mono ?_
    rintro e w2 ⟨rfl, g, cap, l', hp, hh, hat, hown, hbk, hk2⟩
    rw [← HW.out] at hat hk2
    have hin : ∀ k ∈ l', ∃ y ∈ setNd N x.b (paintNd pt), y.b = k := fun k hk => by
      rcases List.mem_append.1 (hp.mem_iff.1 hk) with h | h
      · exact HM.out.qin k h
      · simp at h
        subst h
        have := mem_setNd (b := x.b) (f := paintNd pt) HX.out
        rw [if_pos rfl] at this
        exact ⟨_, this, by rw [paintNd_b, HBD.out]⟩
    have HM2 : Hid (MS w2 B wb mb fnv K (setNd N x.b (paintNd pt)) (.slice (some ⟨g, 0, none⟩) l'.length cap) cv l' C ((unmk N : Nat) : Int) ung) :=
      HM.out.setQueue _ l' hbk hk2 hown (fun g' hg' => by
        have : g = g' := by simpa [Value.ownBlock] using hg'
        rw [← this]
        exact hat) hh hin
    have HQQ : Hid (l'.Perm (qd (setNd N b (paintNd pt)))) := hide (by
      rw [HBD.out]
      rw [HBD.out] at hp
      exact hp.trans ((List.Perm.append_right _ HS.out.qperm).trans HQP.out))
    have HBB : Hid (Keeps w w2 B) := hide ((HS.out.ms.belowB HK.out (fun k e => e ▸ HS.out.ms.bn x HX.out)).trans (HM.out.belowB hk2 (fun k e => by
      rcases e with e | e
      · exact e ▸ HM.out.bw
      · exact HM.out.qB e)))
    have hbn : Blk w2 b 92 (nodeArr (K b) p' true) := by
      obtain ⟨y, hy, ey⟩ : ∃ y ∈ setNd N x.b (paintNd pt), y = (⟨b, p', true⟩ : Nd) := by
        have := mem_setNd (b := x.b) (f := paintNd pt) HX.out
        rw [if_pos rfl] at this
        exact ⟨_, this, by rw [HPX.out, HBD.out]⟩
      have := HM2.out.nd y hy
      rw [ey] at this
      exact this
    have r8 : w2.cell? ⟨b, 8, none⟩ = some (.int .i64 (p' : Int)) := hbn.cell 8
    have r3 : w2.cell? ⟨wb, 3, none⟩ = some (.int .i64 ((unmk N : Nat) : Int)) := HM2.out.blk.cell 3
    have s3 := HM2.out.blk.free 3
    clear hp hh hat hown hbk hk2 hin hbn
    go_wp2_with fail
    go_end0
    refine ⟨rfl, .slice (some ⟨g, 0, none⟩) l'.length cap, l', ⟨?_, HQQ.out⟩, HBB.out.trans (HM2.out.belowB (w' := w2.setCell ⟨wb, 3, none⟩ (.int .i64 (((unmk N : Nat) : Int) + 1))) (S := (· = wb)) ((Keeps.refl _ _).set wb 3 _ (.inl rfl)) (fun k e => e ▸ HM2.out.bw))⟩
    rw [HBD.out, HC1.out]
    exact HM2.out.setWalk _ ung (HM2.out.blk.set 3 (.int .i64 (((unmk N : Nat) : Int) + 1))) ((Keeps.refl _ _).set wb 3 _ (.inl rfl))
  · have hc1 : unmk (setNd N x.b (paintNd pt)) = unmk N := by
      have : (p' &&& 4 == 0) = false := by rw [beq_eq_false_iff_ne]; exact hm'
      rw [hcnt, this]
      rfl
    have z1 : (((p' &&& 4 : Nat) : Int) == 0) = false := by rw [beq_eq_false_iff_ne]; omega
    have HC1 := hide hc1
    clear hcnt hc1 hm'
    go_enter Try.func52, Try.ntmps52
    go_wp2
    go_region
    go_wp2_with fail
    refine HP.out.mono ?_
    rintro e w2 ⟨rfl, g, cap, l', hp, hh, hat, hown, hbk, hk2⟩
    rw [← HW.out] at hat hk2
    have hin : ∀ k ∈ l', ∃ y ∈ setNd N x.b (paintNd pt), y.b = k := fun k hk => by
      rcases List.mem_append.1 (hp.mem_iff.1 hk) with h | h
      · exact HM.out.qin k h
      · simp at h
        subst h
        have := mem_setNd (b := x.b) (f := paintNd pt) HX.out
        rw [if_pos rfl] at this
        exact ⟨_, this, by rw [paintNd_b, HBD.out]⟩
    have HM2 : Hid (MS w2 B wb mb fnv K (setNd N x.b (paintNd pt)) (.slice (some ⟨g, 0, none⟩) l'.length cap) cv l' C ((unmk N : Nat) : Int) ung) :=
      HM.out.setQueue _ l' hbk hk2 hown (fun g' hg' => by
        have : g = g' := by simpa [Value.ownBlock] using hg'
        rw [← this]
        exact hat) hh hin
    have HQQ : Hid (l'.Perm (qd (setNd N b (paintNd pt)))) := hide (by
      rw [HBD.out]
      rw [HBD.out] at hp
      exact hp.trans ((List.Perm.append_right _ HS.out.qperm).trans HQP.out))
    have HBB : Hid (Keeps w w2 B) := hide ((HS.out.ms.belowB HK.out (fun k e => e ▸ HS.out.ms.bn x HX.out)).trans (HM.out.belowB hk2 (fun k e => by
      rcases e with e | e
      · exact e ▸ HM.out.bw
      · exact HM.out.qB e)))
    have hbn : Blk w2 b 92 (nodeArr (K b) p' true) := by
      obtain ⟨y, hy, ey⟩ : ∃ y ∈ setNd N x.b (paintNd pt), y = (⟨b, p', true⟩ : Nd) := by
        have := mem_setNd (b := x.b) (f := paintNd pt) HX.out
        rw [if_pos rfl] at this
        exact ⟨_, this, by rw [HPX.out, HBD.out]⟩
      have := HM2.out.nd y hy
      rw [ey] at this
      exact this
    have r8 : w2.cell? ⟨b, 8, none⟩ = some (.int .i64 (p' : Int)) := hbn.cell 8
    have r3 : w2.cell? ⟨wb, 3, none⟩ = some (.int .i64 ((unmk N : Nat) : Int)) := HM2.out.blk.cell 3
    have s3 := HM2.out.blk.free 3
    clear hp hh hat hown hbk hk2 hin hbn
    go_wp2_with fail
    go_end0
    refine ⟨rfl, .slice (some ⟨g, 0, none⟩) l'.length cap, l', ⟨?_, HQQ.out⟩, HBB.out⟩
    rw [HBD.out, HC1.out]
    exact HM2.out


/-- paint, whatever the node's state. -/
theorem paint_any (B : Nat → Prop) (wb mb : Nat) (fnv qv cv : Value) (K : Nat → Cm) (N : List Nd) (Q C : List Nat) (ung : Bool) (x : Nd) (pt : Nat) (w : World) (hs : WS w B wb mb fnv K N qv cv Q C ung) (hx : x ∈ N) (hpt : pt < 8) (hlen : N.length ≤ 900000) :
    Calls Try.prog 52 #[.pointer (some ⟨wb, 0, none⟩), ptr x.b, .int .i64 pt] w fun e w' => e = .returned (.tuple #[]) ∧ PaintPost w B wb mb fnv cv K N C ung x.b pt w' := by
  by_cases h : x.p ||| pt = x.p
  · exact paint_none B wb mb fnv qv cv K N Q C ung x pt w hs hx hpt h
  · cases hq : x.q with
    | true => exact paint_queued B wb mb fnv qv cv K N Q C ung x pt w hs hx hpt h hq hlen
    | false => exact paint_push B wb mb fnv qv cv K N Q C ung x pt w hs hx hpt h hq hlen

end Go.Proofs.Qxb6605835a
