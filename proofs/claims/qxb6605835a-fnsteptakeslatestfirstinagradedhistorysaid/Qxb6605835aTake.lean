import Derived.Test.Qxb6605835aTakeS
import Derived.Deep.RegionHeld3
namespace Go.Proofs.Qxb6605835a
open Go.ChangeShapes Go.WideShapes Go.ChangeAt Go.RowKit
set_option linter.unusedVariables false

/-- A return of a snapshot that lies in block b. -/
theorem ret15 {Q : Ending → World → Prop} {W' : World} {b : Nat} {tm : Array Value} {v0 v1 v2 v3 v4 : Value} (h4 : tm[4]?.getD undef = .pointer (some ⟨b, 0, none⟩)) (hb : Blk W' b 49 #[v0, v1, v2, v3, v4]) (hQ : Q (.returned (.agg #[v0, v1, v2, v3, v4])) W') :
    bodyPost Try.prog Try.f15 Q Exit.ret { tmps := tm, defers := [] } W' := by
  have r0 : W'.cell? ⟨b, 0, none⟩ = some v0 := hb.cell 0
  have r1 : W'.cell? ⟨b, 1, none⟩ = some v1 := hb.cell 1
  have r2 : W'.cell? ⟨b, 2, none⟩ = some v2 := hb.cell 2
  have r3 : W'.cell? ⟨b, 3, none⟩ = some v3 := hb.cell 3
  have r4 : W'.cell? ⟨b, 4, none⟩ = some v4 := hb.cell 4
  exact bodyPost_ret (v := .agg #[v0, v1, v2, v3, v4]) (by simp [results, Try.results15, go_sem, h4, r0, r1, r2, r3, r4]) rfl hQ

/-- What zzTake promises. -/
def TakePost (w : World) (l : List ByteArray) (K : Nat → Cm) (N : List Nd) (e : Ending) (w' : World) : Prop :=
  ∃ g0 g1 g2 g3 g4 A0 A1 A2 A3 A4, e = .returned (.agg #[sl g0 l.length, sl g1 l.length, sl g2 l.length, sl g3 l.length, sl g4 l.length]) ∧
    Rows5 w' l.length (fun i => nodeFor K N (l.getD i ⟨#[]⟩)) K g0 g1 g2 g3 g4 A0 A1 A2 A3 A4 ∧ Below w.heap.size w w' ∧ w.heap.size ≤ g0 ∧ w.heap.size ≤ g1 ∧ w.heap.size ≤ g2 ∧ w.heap.size ≤ g3 ∧ w.heap.size ≤ g4

theorem Rows5.other {w w' : World} {S : Nat → Prop} {n : Nat} {E : Nat → Option Nd} {K : Nat → Cm} {g0 g1 g2 g3 g4 : Nat} {A0 A1 A2 A3 A4 : Array Value} (h : Rows5 w n E K g0 g1 g2 g3 g4 A0 A1 A2 A3 A4) (hk : Keeps w w' S) (n0 : ¬ S g0) (n1 : ¬ S g1) (n2 : ¬ S g2) (n3 : ¬ S g3) (n4 : ¬ S g4) : Rows5 w' n E K g0 g1 g2 g3 g4 A0 A1 A2 A3 A4 :=
  ⟨h.b0.kept hk n0, h.b1.kept hk n1, h.b2.kept hk n2, h.b3.kept hk n3, h.b4.kept hk n4, h.ne, h.s0, h.s1, h.s2, h.s3, h.s4, h.v0, h.v1, h.v2, h.v3, h.v4⟩

theorem take_end {w wr : World} {n k b6 g0 g1 g2 g3 g4 : Nat} {A0 A1 A2 A3 A4 : Array Value} {K : Nat → Cm} {N : List Nd} {l : List ByteArray} {u0 u1 u2 u3 u4 : Value} (hnl : n = l.length) (hk : k = n) (raw : Raw w wr n b6 g0 g1 g2 g3 g4 A0 A1 A2 A3 A4) (hr : Rows5 wr n (Ent K N l k) K g0 g1 g2 g3 g4 A0 A1 A2 A3 A4) :
    TakePost w l K N (.returned (.agg #[sl g0 n, sl g1 n, sl g2 n, sl g3 n, sl g4 n])) (((((wr.setCell ⟨w.heap.size, 0, none⟩ u0).setCell ⟨w.heap.size, 1, none⟩ u1).setCell ⟨w.heap.size, 2, none⟩ u2).setCell ⟨w.heap.size, 3, none⟩ u3).setCell ⟨w.heap.size, 4, none⟩ u4) := by
  subst hk
  subst hnl
  have hkp : Keeps wr (((((wr.setCell ⟨w.heap.size, 0, none⟩ u0).setCell ⟨w.heap.size, 1, none⟩ u1).setCell ⟨w.heap.size, 2, none⟩ u2).setCell ⟨w.heap.size, 3, none⟩ u3).setCell ⟨w.heap.size, 4, none⟩ u4) (· = w.heap.size) :=
    (((((Keeps.refl wr (· = w.heap.size)).set _ 0 _ (.inl rfl)).set _ 1 _ (.inl rfl)).set _ 2 _ (.inl rfl)).set _ 3 _ (.inl rfl)).set _ 4 _ (.inl rfl)
  refine ⟨g0, g1, g2, g3, g4, A0, A1, A2, A3, A4, rfl, (hr.other hkp (raw.b0.ne raw.h4 (by decide)) (raw.b1.ne raw.h4 (by decide)) (raw.b2.ne raw.h4 (by decide)) (raw.b3.ne raw.h4 (by decide)) (raw.b4.ne raw.h4 (by decide))).ext (fun i hi => by unfold Ent; rw [if_pos hi]), raw.bel.trans (hkp.below raw.bel.size (fun k e => by omega)), raw.l0, raw.l1, raw.l2, raw.l3, raw.l4⟩

set_option maxHeartbeats 8000000 in
set_option maxRecDepth 8000 in
theorem take_some (B : Nat → Prop) (wb mb kb kc n : Nat) (fnv qv cv : Value) (K : Nat → Cm) (N : List Nd) (Q C : List Nat) (ung : Bool) (l : List ByteArray) (w : World) (hs : WS w B wb mb fnv K N qv cv Q C ung) (hnl : n = l.length) (hc : ∀ i (hi : i < l.length), w.cell? ⟨kb, i, none⟩ = some (.string l[i])) (hn : n ≤ 1000000) :
    Calls Try.prog 15 #[ptr wb, .slice (some ⟨kb, 0, none⟩) n kc] w fun e w' => TakePost w l K N e w' := by
  have HS := hide hs
  have HC := hide hc
  have HNL := hide hnl
  clear hs hc hnl
  go_enter Try.func15, Try.ntmps15
  go_upto_region 2 with fail
  go_cut [6] (fun s6 wx => ∃ b6 g0 g1 g2 g3 g4, s6 = ptr b6 ∧ Hid (TS w wx n K (fun _ => none) b6 g0 g1 g2 g3 g4))
  case first =>
    refine take_region (n := n) (G := fun x6 x12 x13 x14 x15 x16 x17 x18 x19 x20 x21 x22 => ⟨List.toArray (ptr wb :: .slice (some ⟨kb, 0, none⟩) n kc :: undef :: undef :: ptr w.heap.size :: .int .i64 n :: x6 :: undef :: undef :: undef :: .slice (some ⟨kb, 0, none⟩) n kc :: .int .i64 n :: x12 :: x13 :: x14 :: x15 :: x16 :: x17 :: x18 :: x19 :: x20 :: x21 :: x22 :: undef :: undef :: undef :: undef :: undef :: undef :: undef :: undef :: undef :: undef :: undef :: undef :: undef :: undef :: undef :: undef :: undef :: undef :: undef :: undef :: undef :: undef :: undef :: undef :: undef :: undef :: undef :: undef :: undef :: undef :: undef :: undef :: undef :: undef :: undef :: undef :: undef :: undef :: undef :: undef :: undef :: undef :: undef :: undef :: undef :: undef :: undef :: []), []⟩) _ hn ?h1 ?h2 ?h3
    case h1 =>
      refine ⟨rfl, fun i hi => ?_⟩
      obtain rfl | rfl | rfl | rfl | rfl | rfl | rfl | rfl | rfl | rfl | rfl | rfl | rfl : i = 0 ∨ i = 1 ∨ i = 2 ∨ i = 3 ∨ i = 4 ∨ i = 5 ∨ i = 6 ∨ i = 7 ∨ i = 8 ∨ i = 9 ∨ i = 10 ∨ i = 11 ∨ i = 12 := by omega
      all_goals refine ⟨_, rfl, rfl, rfl, rfl, fun listed => ?_⟩
      all_goals simp [depT, Region.binds]
      all_goals (rw [Bool.eq_iff_iff]; simp only [Bool.and_eq_true]; exact ⟨fun h => by simp [h], fun h => by simp [h]⟩)
    case h2 =>
      constructor
      all_goals (intros; rfl)
    case h3 =>
      intro p w' x6 x12 x13 x14 x15 x16 x17 x18 x19 x20 x21 x22 hall hx
      have HX := hide (hx.ts hall K)
      clear hx hall
      go_wp2_with fail
      go_meet
      exact HX.out
  case rest =>
    obtain ⟨b6, g0, g1, g2, g3, g4, rfl, HT⟩ := hcut
    have HT0 : Hid (TS w wc n K (Ent K N l 0) b6 g0 g1 g2 g3 g4) := hide (HT.out.ext (fun i hi => rfl))
    clear HT
    go_wp2_with fail
    go_loopw [7] (fun i wr => ∃ k : Nat, k ≤ n ∧ i = .int .i64 k ∧ Hid (TS w wr n K (Ent K N l k) b6 g0 g1 g2 g3 g4)) (fun i _ => n - (intOf i).toNat)
    case atStart => exact ⟨0, Nat.zero_le _, rfl, HT0.out⟩
    case round =>
      obtain ⟨k, hk, rfl, HR⟩ := hrel
      by_cases hlt : k < n
      · have hkl : k < l.length := by have := HNL.out; omega
        have hbw : Below w.heap.size w wr := by
          obtain ⟨_, _, _, _, _, _, _, _, h, _⟩ := HR.out
          exact h
        have hsr := HS.out.below hbw
        have c0 := cell_below hbw (HC.out k hkl)
        have hlg : l.getD k ⟨#[]⟩ = l[k] := by simp [List.getD, hkl]
        obtain ⟨-, q1, -, -, -, -⟩ := hsr.ms.cells
        have HSR := hide hsr
        have HLG := hide hlg
        clear hsr hbw hlg
        generalize l[k] = s at *
        cases hnf : nodeFor K N s with
        | none =>
          have HNO : Hid (∀ x ∈ N, (K x.b).id ≠ s) := hide fun x hx e => by
            have := List.find?_eq_none.1 hnf x hx
            rw [e] at this
            simp at this
          have HX : Hid (∀ i, i < n → Ent K N l k i = Ent K N l (k + 1) i) := hide fun i hi => by
            unfold Ent
            by_cases e : i < k
            · rw [if_pos e, if_pos (by omega)]
            · rw [if_neg e]
              by_cases e' : i = k
              · subst e'
                rw [if_pos (by omega), HLG.out, hnf]
              · rw [if_neg (by omega)]
          clear hnf
          go_wp2_with fail
          refine (nodeOf_miss wb mb K N s wr q1 HSR.out.ms.map HNO.out).mono ?_
          rintro e w1 ⟨rfl, hb1⟩
          have HR1 := hide ((HR.out.below hb1).ext HX.out)
          clear hb1 HR
          go_wp2_with fail
          go_roundw
          case rel => exact ⟨k + 1, by omega, by go_num, HR1.out⟩
          case measure => simp [intOf]; omega
        | some x =>
          have hxm := List.mem_of_find?_eq_some hnf
          have hxi : (K x.b).id = s := by
            have := List.find?_some hnf
            rw [beq_iff_eq] at this
            exact toList_inj this
          have HXM := hide hxm
          have HXI := hide hxi
          clear hxm hxi
          go_wp2_with fail
          refine (nodeOf_hit wb mb K N s x wr q1 HSR.out.ms.map HXM.out HXI.out (fun y hy e => HSR.out.ms.ids y hy x HXM.out (e.trans HXI.out.symm))).mono ?_
          rintro e w1 ⟨rfl, hb1⟩
          have HR1 := hide (HR.out.below hb1)
          have HS1 := hide (HSR.out.below hb1)
          clear hb1 HR HSR q1 c0
          obtain ⟨A0, A1, A2, A3, A4, raw, hr⟩ := Raw.of HR1.out
          have HRR := hide hr
          have d0 : w1.cell? ⟨b6, 0, none⟩ = some (sl g0 n) := raw.h6.cell 0
          have d1 : w1.cell? ⟨b6, 1, none⟩ = some (sl g1 n) := raw.h6.cell 1
          have a0 : w1.cell? ⟨g0, k, none⟩ = some (exV (Ent K N l k k)) := by rw [hr.b0.cell]; exact hr.v0 k hlt
          have a1 : w1.cell? ⟨g1, k, none⟩ = some (ndV (Ent K N l k k)) := by rw [hr.b1.cell]; exact hr.v1 k hlt
          have f0 := hr.b0.free k
          have f1 := hr.b1.free k
          have n60 : b6 ≠ g0 := raw.h6.ne hr.b0 (by decide)
          have n01 : g0 ≠ g1 := hr.b0.ne hr.b1 (by decide)
          have raw3 := (raw.set0 k (.bool true)).set1 k (ptr x.b)
          have HRAW3 := hide raw3
          have HS8 := hide (HS.out.ms.at HXM.out)
          clear raw raw3 hr HR1 HS1
          go_upto_region 10 with fail
          obtain ⟨W3, hW3⟩ : ∃ W3, W3 = (w1.setCell ⟨g0, k, none⟩ (.bool true)).setCell ⟨g1, k, none⟩ (.pointer (some ⟨x.b, 0, none⟩)) := ⟨_, rfl⟩
          rw [← hW3]
          rw [← hW3] at HRAW3
          clear hW3 d0 d1 a0 a1 f0 f1 n60 n01
          have hraw := HRAW3.out.below (W' := W3.drew) (Below.refl _ _).drew
          have d2 : W3.drew.cell? ⟨b6, 2, none⟩ = some (sl g2 n) := hraw.h6.cell 2
          have x8 : W3.drew.cell? ⟨x.b, 8, none⟩ = some (.int .i64 x.p) := cell_below hraw.bel HS8.out.2.1
          have a2 : W3.drew.cell? ⟨g2, k, none⟩ = some (.int .i64 (ptN (Ent K N l k k))) := by rw [hraw.b2.cell]; exact HRR.out.v2 k hlt
          have f2 := hraw.b2.free k
          have HRAW4 := hide (hraw.set2 k (.int .i64 x.p))
          clear hraw HRAW3
          have e2 : (W3.setCell ⟨g2, k, none⟩ (.int .i64 x.p)).drew.cell? ⟨b6, 2, none⟩ = some (sl g2 n) := HRAW4.out.h6.cell 2
          have y8 : (W3.setCell ⟨g2, k, none⟩ (.int .i64 x.p)).drew.cell? ⟨x.b, 8, none⟩ = some (.int .i64 x.p) := cell_below HRAW4.out.bel HS8.out.2.1
          go_region_held3 (fun w' => w'.cell? ⟨b6, 2, none⟩ = some (sl g2 n) ∧ w'.cell? ⟨x.b, 8, none⟩ = some (.int .i64 x.p)) (first | exact ⟨d2, x8⟩ | exact ⟨e2, y8⟩) ((go_at_call 33; refine (nodePaint_any _ _ _ x8).mono ?_; rintro e w' ⟨rfl, rfl⟩))
          go_upto_region 11 with fail
          obtain ⟨W4, hW4⟩ : ∃ W4, W4 = (W3.setCell ⟨g2, k, none⟩ (.int .i64 x.p)).drew := ⟨_, rfl⟩
          rw [← hW4]
          have HRAW5 : Hid (Raw w W4 n b6 g0 g1 g2 g3 g4 _ _ _ _ _) := hide (by rw [hW4]; exact HRAW4.out)
          clear hW4 d2 x8 a2 f2 e2 y8 HRAW4
          have hraw := HRAW5.out.below (W' := W4.drew) (Below.refl _ _).drew
          have d3 : W4.drew.cell? ⟨b6, 3, none⟩ = some (sl g3 n) := hraw.h6.cell 3
          have x9 : W4.drew.cell? ⟨x.b, 9, none⟩ = some (.bool x.q) := cell_below hraw.bel HS8.out.2.2
          have a3 : W4.drew.cell? ⟨g3, k, none⟩ = some (.bool (quV (Ent K N l k k))) := by rw [hraw.b3.cell]; exact HRR.out.v3 k hlt
          have f3 := hraw.b3.free k
          have HRAW6 := hide (hraw.set3 k (.bool x.q))
          clear hraw HRAW5
          have e3 : (W4.setCell ⟨g3, k, none⟩ (.bool x.q)).drew.cell? ⟨b6, 3, none⟩ = some (sl g3 n) := HRAW6.out.h6.cell 3
          have y9 : (W4.setCell ⟨g3, k, none⟩ (.bool x.q)).drew.cell? ⟨x.b, 9, none⟩ = some (.bool x.q) := cell_below HRAW6.out.bel HS8.out.2.2
          go_region_held3 (fun w' => w'.cell? ⟨b6, 3, none⟩ = some (sl g3 n) ∧ w'.cell? ⟨x.b, 9, none⟩ = some (.bool x.q)) (first | exact ⟨d3, x9⟩ | exact ⟨e3, y9⟩) ((go_at_call 31; refine (nodeQueued_any _ _ _ x9).mono ?_; rintro e w' ⟨rfl, rfl⟩))
          go_upto_region 12 with fail
          obtain ⟨W5, hW5⟩ : ∃ W5, W5 = (W4.setCell ⟨g3, k, none⟩ (.bool x.q)).drew := ⟨_, rfl⟩
          rw [← hW5]
          have HRAW7 : Hid (Raw w W5 n b6 g0 g1 g2 g3 g4 _ _ _ _ _) := hide (by rw [hW5]; exact HRAW6.out)
          clear hW5 d3 x9 a3 f3 e3 y9 HRAW6
          have hraw := HRAW7.out.below (W' := W5.drew) (Below.refl _ _).drew
          have HNX := hide (HS8.out.1.below hraw.bel)
          have HRAW8 := hide hraw
          have d4 : W5.drew.cell? ⟨b6, 4, none⟩ = some (sl g4 n) := hraw.h6.cell 4
          have hsz4 : k * 8 + 7 < A4.size := by have := HRR.out.s4; omega
          have HA4 : Hid (∀ j, j < 8 → ∃ o, A4[k * 8 + j]? = some o) := hide fun j hj => ⟨A4[k * 8 + j]'(by omega), Array.getElem?_eq_getElem (by omega)⟩
          have HEX : Hid (∀ i, i < n → i ≠ k → Ent K N l k i = Ent K N l (k + 1) i) := hide fun i hi hne => by
            unfold Ent
            by_cases e : i < k
            · rw [if_pos e, if_pos (by omega)]
            · rw [if_neg e, if_neg (by omega)]
          have HEK : Hid (Ent K N l (k + 1) k = some x) := hide (by
            unfold Ent
            rw [if_pos (by omega), HLG.out, hnf])
          generalize hcx : K x.b = cx at *
          have HCX := hide hcx
          clear hraw HRAW7 hsz4 hcx
          go_region_held3 (fun w' => w'.cell? ⟨b6, 4, none⟩ = some (sl g4 n)) (with_reducible first | exact d4 | exact e4 | exact g40) ((go_at_call 29; refine (nodeCommit_any x.b cx _ HNX.out).mono ?_; rintro e w6 ⟨rfl, hb6⟩; have hraw9 := HRAW8.out.below hb6; have e4 : w6.cell? ⟨b6, 4, none⟩ = some (sl g4 n) := hraw9.h6.cell 4; obtain ⟨o0, h0⟩ := HA4.out 0 (by decide); obtain ⟨o1, h1⟩ := HA4.out 1 (by decide); obtain ⟨o2, h2⟩ := HA4.out 2 (by decide); obtain ⟨o3, h3⟩ := HA4.out 3 (by decide); obtain ⟨o4, h4⟩ := HA4.out 4 (by decide); obtain ⟨o5, h5⟩ := HA4.out 5 (by decide); obtain ⟨o6, h6⟩ := HA4.out 6 (by decide); obtain ⟨o7, h7⟩ := HA4.out 7 (by decide); have r0 : w6.cell? ⟨g4, k * 8, none⟩ = some o0 := (hraw9.b4.cell _).trans h0; have r1 : w6.cell? ⟨g4, k * 8 + 1, none⟩ = some o1 := (hraw9.b4.cell _).trans h1; have r2 : w6.cell? ⟨g4, k * 8 + 2, none⟩ = some o2 := (hraw9.b4.cell _).trans h2; have r3 : w6.cell? ⟨g4, k * 8 + 3, none⟩ = some o3 := (hraw9.b4.cell _).trans h3; have r4 : w6.cell? ⟨g4, k * 8 + 4, none⟩ = some o4 := (hraw9.b4.cell _).trans h4; have r5 : w6.cell? ⟨g4, k * 8 + 5, none⟩ = some o5 := (hraw9.b4.cell _).trans h5; have r6 : w6.cell? ⟨g4, k * 8 + 6, none⟩ = some o6 := (hraw9.b4.cell _).trans h6; have r7 : w6.cell? ⟨g4, k * 8 + 7, none⟩ = some o7 := (hraw9.b4.cell _).trans h7; have f0 := hraw9.b4.free (k * 8); have f1 := hraw9.b4.free (k * 8 + 1); have f2 := hraw9.b4.free (k * 8 + 2); have f3 := hraw9.b4.free (k * 8 + 3); have f4 := hraw9.b4.free (k * 8 + 4); have f5 := hraw9.b4.free (k * 8 + 5); have f6 := hraw9.b4.free (k * 8 + 6); have f7 := hraw9.b4.free (k * 8 + 7); have hrawE := (((((((hraw9.set4 (k * 8) (.string cx.id)).set4 (k * 8 + 1) (.slice cx.pa cx.pn cx.pc)).set4 (k * 8 + 2) (.string cx.com)).set4 (k * 8 + 3) (.string cx.msg)).set4 (k * 8 + 4) (.int .i64 cx.cr)).set4 (k * 8 + 5) (.map none)).set4 (k * 8 + 6) (.string cx.mr)).set4 (k * 8 + 7) (.int .i64 cx.gen); have g40 : World.cell? _ ⟨b6, 4, none⟩ = some (sl g4 n) := hrawE.h6.cell 4; have HRE := hide hrawE; clear hb6 hraw9 hrawE h0 h1 h2 h3 h4 h5 h6 h7))
          have HF : Hid (TS w _ n K (Ent K N l (k + 1)) b6 g0 g1 g2 g3 g4) := hide (Raw.ts HRR.out hlt HEX.out HEK.out (by rw [HCX.out]; exact HRE.out))
          go_wp2_with fail
          go_roundw
          case rel => exact ⟨k + 1, by omega, by go_num, HF.out⟩
          case measure => simp [intOf]; omega
      · obtain ⟨A0, A1, A2, A3, A4, raw, hr⟩ := Raw.of HR.out
        have d0 : wr.cell? ⟨b6, 0, none⟩ = some (sl g0 n) := raw.h6.cell 0
        have d1 : wr.cell? ⟨b6, 1, none⟩ = some (sl g1 n) := raw.h6.cell 1
        have d2 : wr.cell? ⟨b6, 2, none⟩ = some (sl g2 n) := raw.h6.cell 2
        have d3 : wr.cell? ⟨b6, 3, none⟩ = some (sl g3 n) := raw.h6.cell 3
        have d4 : wr.cell? ⟨b6, 4, none⟩ = some (sl g4 n) := raw.h6.cell 4
        have z0 : wr.cell? ⟨w.heap.size, 0, none⟩ = some (.slice none 0 0) := raw.h4.cell 0
        have z1 : wr.cell? ⟨w.heap.size, 1, none⟩ = some (.slice none 0 0) := raw.h4.cell 1
        have z2 : wr.cell? ⟨w.heap.size, 2, none⟩ = some (.slice none 0 0) := raw.h4.cell 2
        have z3 : wr.cell? ⟨w.heap.size, 3, none⟩ = some (.slice none 0 0) := raw.h4.cell 3
        have z4 : wr.cell? ⟨w.heap.size, 4, none⟩ = some (.slice none 0 0) := raw.h4.cell 4
        have f0 := raw.h4.free 0
        have f1 := raw.h4.free 1
        have f2 := raw.h4.free 2
        have f3 := raw.h4.free 3
        have f4 := raw.h4.free 4
        have HRAW := hide raw
        have HRR := hide hr
        have hkn : k = n := by omega
        have HKN := hide hkn
        clear raw hr HR hkn
        go_wp2_with fail
        refine ret15 rfl (((((HRAW.out.h4.set 0 _).set 1 _).set 2 _).set 3 _).set 4 _) ?_
        exact take_end HNL.out HKN.out HRAW.out HRR.out
end Go.Proofs.Qxb6605835a
