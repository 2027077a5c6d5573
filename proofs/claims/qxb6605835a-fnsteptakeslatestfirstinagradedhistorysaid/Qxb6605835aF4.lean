import Derived.Test.Qxb6605835aBldW
import Derived.Test.Qxb6605835aBytes22
import Derived.Test.Qxb6605835aF4P
import Derived.Deep.CutBlock
import Derived.Test.Qxb6605835aF3P
namespace Go.Proofs.Qxb6605835a
open Go.ChangeShapes Go.WideShapes Go.ChangeAt Go.RowKit
set_option linter.unusedVariables false

set_option maxHeartbeats 20000000 in
set_option maxRecDepth 20000 in
theorem f4_any (a b : Cm) (ta : Option Addr) (tc : Nat) (T : List Cm) (w : World) (ha : ParA w a) (hb : ParA w b) (hT : TabA w ta T) :
    Calls Try.prog 4 #[zval a, zval b, .slice ta T.length tc] w fun e w' => e = .returned (.bool true) ∧ Below w.heap.size w w' := by
  have hTl := hT.1
  have HB2 : Hid (Below w.heap.size w ((w.alloc (.cells (zarr a) 24)).alloc (.cells (zarr b) 24))) := ((Below.refl _ _).alloc (Nat.le_refl _) _).alloc (by simp only [World.size_alloc]; omega) _
  have HXA : Hid (Blk ((w.alloc (.cells (zarr a) 24)).alloc (.cells (zarr b) 24)) w.heap.size 24 (zarr a)) := (Blk.new w 24 (zarr a)).alloc _
  have HXB : Hid (Blk ((w.alloc (.cells (zarr a) 24)).alloc (.cells (zarr b) 24)) (w.heap.size + 1) 24 (zarr b)) := hide (by
    have := Blk.new (w.alloc (.cells (zarr a) 24)) 24 (zarr b)
    rw [World.size_alloc] at this
    exact this)
  have HC5 := hide (bytes22_any a b ta tc T _ (ha.below HB2.out) (hb.below HB2.out) (hT.below HB2.out))
  have HA := hide ha
  have HBP := hide hb
  have HT := hide hT
  clear ha hb hT
  go_enter Try.func4, Try.ntmps4
  go_wp2_with fail
  obtain ⟨W2, hW2⟩ : ∃ W2, W2 = (w.alloc (.cells (zarr a) 24)).alloc (.cells (zarr b) 24) := ⟨_, rfl⟩
  obtain ⟨ba, hba⟩ : ∃ ba, ba = w.heap.size := ⟨_, rfl⟩
  obtain ⟨bb, hbb⟩ : ∃ bb, bb = w.heap.size + 1 := ⟨_, rfl⟩
  have hsz : W2.heap.size = w.heap.size + 2 := by rw [hW2]; simp only [World.size_alloc]
  rw [← hW2] at HB2 HXA HXB HC5
  rw [← hba] at HXA
  rw [← hbb] at HXB
  rw [← hW2]
  rw [← hbb]
  rw [← hba]
  have HBA : Hid (ba = w.heap.size ∧ bb = w.heap.size + 1 ∧ W2.heap.size = w.heap.size + 2) := hide ⟨hba, hbb, hsz⟩
  clear hW2 hba hbb hsz
  refine HC5.out.mono ?_
  rintro e w3 ⟨⟨r, rfl⟩, hb3⟩
  have HB3 := hide hb3
  have HB03 : Hid (Below w.heap.size w w3) := after HB2.out hb3
  clear hb3 HC5
  cases r with
  | false =>
    go_wp2_with fail
    go_ret
    exact ⟨rfl, HB03.out⟩
  | true =>
    have hA3 := HXA.out.below HB3.out.drew HXA.out.lt
    have hB3 := HXB.out.below HB3.out.drew HXB.out.lt
    obtain ⟨⟨x0, x1, x2, x3, x4, x5, x6⟩, -⟩ := cells7 hA3
    obtain ⟨⟨y0, y1, y2, y3, y4, y5, y6⟩, -⟩ := cells7 hB3
    have HXA3 := hide hA3
    have HXB3 := hide hB3
    have hb03 : Below w.heap.size w w3.drew := HB03.out.drew
    have HPA := hide (HA.out.below hb03)
    have HPB := hide (HBP.out.below hb03)
    have HPT := hide (HT.out.below hb03)
    have HC7 := hide (addCommit_any 0 a _ ⟨by decide, by decide⟩ HPA.out)
    have HC8 : Hid (∀ (r1 : Int) (w4 : World), 0 ≤ r1 → r1 ≤ 4194304 → Below w3.drew.heap.size w3.drew w4 → Calls Try.prog 7 #[.int .i64 r1, zval b] w4 fun e w' => (∃ r, 0 ≤ r ∧ r ≤ 4194304 ∧ e = .returned (.int .i64 r)) ∧ Below w4.heap.size w4 w') := hide fun r1 w4 h1 h2 h3 => addCommit_any r1 b _ ⟨h1, h2⟩ (HPB.out.below h3)
    have HC6 : Hid (∀ (r1 : Int) (w4 : World), 0 ≤ r1 → r1 ≤ 4194304 → Below w3.drew.heap.size w3.drew w4 → Calls Try.prog 6 #[.int .i64 r1, .slice ta T.length tc] w4 fun e w' => (∃ r, 0 ≤ r ∧ r ≤ 4194304 ∧ e = .returned (.int .i64 r)) ∧ Below w4.heap.size w4 w') := hide fun r1 w4 h1 h2 h3 => addTable_any r1 ta tc T _ ⟨h1, h2⟩ (HPT.out.below h3)
    clear hA3 hB3 hb03 HPA HPB HPT
    go_upto_region 3 with fail
    go_region_held3 (fun w' => (w'.cell? ⟨ba, 0, none⟩ = some (.string a.id) ∧ w'.cell? ⟨ba, 1, none⟩ = some (.slice a.pa a.pn a.pc) ∧ w'.cell? ⟨ba, 2, none⟩ = some (.string a.com) ∧ w'.cell? ⟨ba, 3, none⟩ = some (.string a.msg) ∧ w'.cell? ⟨ba, 4, none⟩ = some (.int .i64 a.cr) ∧ w'.cell? ⟨ba, 5, none⟩ = some (.string a.mr) ∧ w'.cell? ⟨ba, 6, none⟩ = some (.int .i64 a.gen)) ∧ (w'.cell? ⟨bb, 0, none⟩ = some (.string b.id) ∧ w'.cell? ⟨bb, 1, none⟩ = some (.slice b.pa b.pn b.pc) ∧ w'.cell? ⟨bb, 2, none⟩ = some (.string b.com) ∧ w'.cell? ⟨bb, 3, none⟩ = some (.string b.msg) ∧ w'.cell? ⟨bb, 4, none⟩ = some (.int .i64 b.cr) ∧ w'.cell? ⟨bb, 5, none⟩ = some (.string b.mr) ∧ w'.cell? ⟨bb, 6, none⟩ = some (.int .i64 b.gen))) (with_reducible first | exact ⟨⟨x0, x1, x2, x3, x4, x5, x6⟩, ⟨y0, y1, y2, y3, y4, y5, y6⟩⟩ | exact ⟨⟨xa0, xa1, xa2, xa3, xa4, xa5, xa6⟩, ⟨ya0, ya1, ya2, ya3, ya4, ya5, ya6⟩⟩ | exact ⟨⟨xb0, xb1, xb2, xb3, xb4, xb5, xb6⟩, ⟨yb0, yb1, yb2, yb3, yb4, yb5, yb6⟩⟩ | exact ⟨⟨xc0, xc1, xc2, xc3, xc4, xc5, xc6⟩, ⟨yc0, yc1, yc2, yc3, yc4, yc5, yc6⟩⟩) ((first | (go_at_call 6; refine (HC6.out r2 w5 h2a h2b HB5.out).mono ?_; rintro e w6 ⟨⟨r3, h3a, h3b, rfl⟩, hb6⟩; have HB6 := hide (after HB5.out hb6); clear hb6; obtain ⟨⟨xc0, xc1, xc2, xc3, xc4, xc5, xc6⟩, -⟩ := cells7 (HXA3.out.below HB6.out HXA3.out.lt); obtain ⟨⟨yc0, yc1, yc2, yc3, yc4, yc5, yc6⟩, -⟩ := cells7 (HXB3.out.below HB6.out HXB3.out.lt)) | (go_at_call 7; refine (HC8.out r1 w4 h1a h1b HB4.out).mono ?_; rintro e w5 ⟨⟨r2, h2a, h2b, rfl⟩, hb5⟩; have HB5 := hide (after HB4.out hb5); clear hb5; obtain ⟨⟨xb0, xb1, xb2, xb3, xb4, xb5, xb6⟩, -⟩ := cells7 (HXA3.out.below HB5.out HXA3.out.lt); obtain ⟨⟨yb0, yb1, yb2, yb3, yb4, yb5, yb6⟩, -⟩ := cells7 (HXB3.out.below HB5.out HXB3.out.lt)) | (go_at_call 7; refine HC7.out.mono ?_; rintro e w4 ⟨⟨r1, h1a, h1b, rfl⟩, hb4⟩; have HB4 := hide hb4; obtain ⟨⟨xa0, xa1, xa2, xa3, xa4, xa5, xa6⟩, -⟩ := cells7 (HXA3.out.below hb4 HXA3.out.lt); obtain ⟨⟨ya0, ya1, ya2, ya3, ya4, ya5, ya6⟩, -⟩ := cells7 (HXB3.out.below hb4 HXB3.out.lt); clear hb4)))
    clear x0 x1 x2 x3 x4 x5 x6 y0 y1 y2 y3 y4 y5 y6 xa0 xa1 xa2 xa3 xa4 xa5 xa6 ya0 ya1 ya2 ya3 ya4 ya5 ya6 xb0 xb1 xb2 xb3 xb4 xb5 xb6 yb0 yb1 yb2 yb3 yb4 yb5 yb6 xc0 xc1 xc2 xc3 xc4 xc5 xc6 yc0 yc1 yc2 yc3 yc4 yc5 yc6
    have hb06 : Below w.heap.size w w6 := after HB03.out.drew HB6.out
    have HXA6 := hide (HXA3.out.below HB6.out HXA3.out.lt)
    have HXB6 := hide (HXB3.out.below HB6.out HXB3.out.lt)
    have HB06 := hide hb06
    clear hb06 HXA3 HXB3 HB4 HB5 HB6 HC7 HC8 HC6 HB3 HXA HXB HB2
    by_cases hr : 1048576 < r3
    · as_aux_lemma =>
      go_wp2_with fail
      go_ret
      exact ⟨rfl, HB06.out⟩
    obtain ⟨x0, x1, x2, x3, x4, x5, x6⟩ := (cells7 HXA6.out).1
    obtain ⟨y0, y1, y2, y3, y4, y5, y6⟩ := (cells7 HXB6.out).1
    by_cases hn : 4096 < T.length
    · as_aux_lemma =>
      go_wp2_with fail
      go_ret
      exact ⟨rfl, HB06.out⟩
    have HC8 := hide (refs_any a b ta tc T w6 (HT.out.below HB06.out))
    go_wp2_with fail
    refine HC8.out.mono ?_
    rintro e w7 ⟨⟨r, rfl, hr2⟩, hb7⟩
    have HB07 : Hid (Below w.heap.size w w7) := after HB06.out hb7
    have HXA7 := hide (HXA6.out.below hb7 HXA6.out.lt)
    have HXB7 := hide (HXB6.out.below hb7 HXB6.out.lt)
    clear hb7 x0 x1 x2 x3 x4 x5 x6 y0 y1 y2 y3 y4 y5 y6 HC8 HXA6 HXB6 HB06
    by_cases hr4 : 4096 < r
    · as_aux_lemma =>
      clear hr2
      go_wp2_with fail
      go_ret
      exact ⟨rfl, HB07.out⟩
    have hsum : a.pn + b.pn + refsOf T ≤ 4096 := by
      have := hr2 (by omega)
      omega
    clear hr2
    obtain ⟨x0, x1, x2, x3, x4, x5, x6⟩ := (cells7 HXA7.out).1
    have HC9 := hide (cloneZ_any a w7 (HA.out.below HB07.out) (by omega))
    go_wp2_with fail
    refine HC9.out.mono ?_
    rintro e w8 ⟨a', rfl, hb8, hca⟩
    have hA8 := HXA7.out.below hb8 HXA7.out.lt
    have hB8 := HXB7.out.below hb8 HXB7.out.lt
    have hne : ba ≠ bb := by have := HBA.out; omega
    have HRN := hide (renew a' hA8 hB8 hne)
    have HB08 : Hid (Below w.heap.size w w8) := after HB07.out hb8
    have HW78 : Hid (w7.heap.size ≤ w8.heap.size) := hide hb8.size
    have HS7 : Hid (w.heap.size + 2 ≤ w7.heap.size) := hide (by
      have := HXB7.out.lt
      have := HBA.out
      omega)
    have HCA := hide hca
    clear x0 x1 x2 x3 x4 x5 x6
    obtain ⟨⟨x0, x1, x2, x3, x4, x5, x6⟩, ⟨f0, f1, f2, f3, f4, f5, f6⟩⟩ := cells7 hA8
    obtain ⟨y0, y1, y2, y3, y4, y5, y6⟩ := (cells7 hB8).1
    clear hA8 hB8 hca hb8 HC9 HXA7 HXB7
    go_wp2_with fail
    clear x0 x1 x2 x3 x4 x5 x6 f0 f1 f2 f3 f4 f5 f6 y0 y1 y2 y3 y4 y5 y6
    obtain ⟨W9, hW9⟩ : ∃ W9, W9 = (((((((w8.setCell ⟨ba, 0, none⟩ (.string a'.id)).setCell ⟨ba, 1, none⟩ (.slice a'.pa a'.pn a'.pc)).setCell ⟨ba, 2, none⟩ (.string a'.com)).setCell ⟨ba, 3, none⟩ (.string a'.msg)).setCell ⟨ba, 4, none⟩ (.int .i64 a'.cr)).setCell ⟨ba, 5, none⟩ (.string a'.mr)).setCell ⟨ba, 6, none⟩ (.int .i64 a'.gen)) := ⟨_, rfl⟩
    rw [← hW9]
    have HRN9 : Hid (Blk W9 ba 24 (zarr a') ∧ Blk W9 bb 24 (zarr b) ∧ Keeps w8 W9 (· = ba)) := hide (by rw [hW9]; exact HRN.out)
    have HB09 : Hid (Below w.heap.size w W9) := hide (HB08.out.trans (HRN9.out.2.2.below HB08.out.size (fun k e => by have := HBA.out; omega)))
    have HPA9 : Hid (Par W9 a') := hide (HCA.out.2.2.2.1.kept HRN9.out.2.2 (fun p hp => by
      have h1 := HCA.out.2.2.2.2 p hp
      have h2 := HBA.out
      have h3 := HS7.out
      omega))
    have HC9 := hide (cloneZ_any b W9 (HBP.out.below HB09.out) (by omega))
    clear hW9 HRN
    refine HC9.out.mono ?_
    rintro e w10 ⟨b', rfl, hb10, hcb⟩
    have hA10 := HRN9.out.1.below hb10 HRN9.out.1.lt
    have hB10 := HRN9.out.2.1.below hb10 HRN9.out.2.1.lt
    have HRN := hide (renew b' hB10 hA10 hne.symm)
    have HB010 : Hid (Below w.heap.size w w10) := after HB09.out hb10
    have HPA10 := hide (HPA9.out.below hb10)
    have HS9 : Hid (w.heap.size + 2 ≤ W9.heap.size) := hide (Nat.le_trans HS7.out (Nat.le_trans HW78.out HRN9.out.2.2.size))
    have HCB := hide hcb
    obtain ⟨⟨y0, y1, y2, y3, y4, y5, y6⟩, ⟨f0, f1, f2, f3, f4, f5, f6⟩⟩ := cells7 hB10
    clear hA10 hB10 hcb hb10 HC9 HPA9 HRN9
    go_wp2_with fail
    clear f0 f1 f2 f3 f4 f5 f6 y0 y1 y2 y3 y4 y5 y6
    obtain ⟨W11, hW11⟩ : ∃ W11, W11 = (((((((w10.setCell ⟨bb, 0, none⟩ (.string b'.id)).setCell ⟨bb, 1, none⟩ (.slice b'.pa b'.pn b'.pc)).setCell ⟨bb, 2, none⟩ (.string b'.com)).setCell ⟨bb, 3, none⟩ (.string b'.msg)).setCell ⟨bb, 4, none⟩ (.int .i64 b'.cr)).setCell ⟨bb, 5, none⟩ (.string b'.mr)).setCell ⟨bb, 6, none⟩ (.int .i64 b'.gen)) := ⟨_, rfl⟩
    rw [← hW11]
    have HRN11 : Hid (Blk W11 bb 24 (zarr b') ∧ Blk W11 ba 24 (zarr a') ∧ Keeps w10 W11 (· = bb)) := hide (by rw [hW11]; exact HRN.out)
    have HB011 : Hid (Below w.heap.size w W11) := hide (HB010.out.trans (HRN11.out.2.2.below HB010.out.size (fun k e => by have := HBA.out; omega)))
    have HPA11 : Hid (Par W11 a') := hide (HPA10.out.kept HRN11.out.2.2 (fun p hp => by
      have h1 := HCA.out.2.2.2.2 p hp
      have h2 := HBA.out
      have h3 := HS7.out
      omega))
    have HPB11 : Hid (Par W11 b') := hide (HCB.out.2.2.2.1.kept HRN11.out.2.2 (fun p hp => by
      have h1 := HCB.out.2.2.2.2 p hp
      have h2 := HBA.out
      have h3 := HS9.out
      omega))
    have HC10 := hide (cloneTable_any ta tc T W11 (HT.out.below HB011.out) (by omega) (by omega))
    clear hW11 HRN HPA10 HB010 HS7 HS9 HB08 HB09
    refine HC10.out.mono ?_
    rintro e w12 ⟨ta', tc', T', rfl, hTl', hTr', htab, hpT, hb12⟩
    have HB012 : Hid (Below w.heap.size w w12) := after HB011.out hb12
    have HXA12 := hide (HRN11.out.2.1.below hb12 HRN11.out.2.1.lt)
    have HXB12 := hide (HRN11.out.1.below hb12 HRN11.out.1.lt)
    have HPA12 := hide (HPA11.out.below hb12)
    have HPB12 := hide (HPB11.out.below hb12)
    have HTAB := hide htab
    have HPT := hide hpT
    have hTl2 : T'.length ≤ 4096 := by omega
    have hsum2 : a'.pn + b'.pn + refsOf T' ≤ 4096 := by
      have h1 : a'.pn = a.pn := HCA.out.2.1
      have h2 : b'.pn = b.pn := HCB.out.2.1
      omega
    have hM : ([a'.id, b'.id] ++ a'.ps ++ b'.ps ++ tabIds T').length ≤ 20000 := by
      have h2 := tabIds_len T' (fun c hc => (hpT c hc).1)
      have h3 := HPA12.out.1
      have h4 := HPB12.out.1
      simp only [List.length_append, List.length_cons, List.length_nil]
      omega
    obtain ⟨M, hMd⟩ : ∃ M, M = [a'.id, b'.id] ++ a'.ps ++ b'.ps ++ tabIds T' := ⟨_, rfl⟩
    rw [← hMd] at hM
    have hpa2 : Par w12 a' ∧ (∀ p ∈ a'.ps, p ∈ M) ∧ a'.ps.length ≤ 9000 := ⟨HPA12.out, fun p hp => by rw [hMd]; simp [hp], by have := HPA12.out.1; omega⟩
    have hpb2 : Par w12 b' ∧ (∀ p ∈ b'.ps, p ∈ M) ∧ b'.ps.length ≤ 9000 := ⟨HPB12.out, fun p hp => by rw [hMd]; simp [hp], by have := HPB12.out.1; omega⟩
    have hpT2 : ∀ c ∈ T', Par w12 c ∧ (∀ p ∈ c.ps, p ∈ M) ∧ c.ps.length ≤ 9000 := fun c hc => ⟨hpT c hc, fun p hp => by
      rw [hMd]
      refine List.mem_append.2 (.inr ?_)
      unfold tabIds
      exact List.mem_flatMap.2 ⟨c, hc, by simp [hp]⟩, by
      have h1 := (hpT c hc).1
      have h2 := pn_le_refs hc
      omega⟩
    have HC23 := hide (build_any a' b' ta' tc' T' M w12 hpa2 hpb2 hpT2 htab (by omega) (by rw [hMd]; simp) (by rw [hMd]; simp) (by omega))
    have HPAX := hide hpa2
    have HPBX := hide hpb2
    have HPTX := hide hpT2
    clear hTl' hTr' hb12 htab hpT HC10 HRN11 HPA11 HPB11 HB011 hMd hpa2 hpb2 hpT2
    obtain ⟨x0, x1, x2, x3, x4, x5, x6⟩ := (cells7 HXA12.out).1
    obtain ⟨y0, y1, y2, y3, y4, y5, y6⟩ := (cells7 HXB12.out).1
    go_wp2_with fail
    refine HC23.out.mono ?_
    rintro e w13 ⟨ng, nc, pg, pc, G, PI, bi, rfl, hbg, hpb, hnodes, hrows, hb13⟩
    clear x0 x1 x2 x3 x4 x5 x6 y0 y1 y2 y3 y4 y5 y6
    have HB1213 := hide hb13
    have HGA : Hid (GA (w13.alloc (.cells #[.slice (some ⟨ng, 0, none⟩) G.length nc, .slice (some ⟨pg, 0, none⟩) PI.length pc, .int .i64 bi] 58)) w13.heap.size ng nc pg pc G PI bi) := hide (by
      have hba : Below w13.heap.size w13 (w13.alloc (.cells #[.slice (some ⟨ng, 0, none⟩) G.length nc, .slice (some ⟨pg, 0, none⟩) PI.length pc, .int .i64 bi] 58)) := (Below.refl _ _).alloc (Nat.le_refl _) _
      exact ⟨Blk.new w13 58 _, fun i hi => (hnodes i hi).below hba, fun i hi => by
        obtain ⟨rb, h1, h2⟩ := hrows i hi
        exact ⟨rb, cell_below hba h1, fun j hj => cell_below hba (h2 j hj)⟩⟩)
    have hGl : G.length ≤ 20000 := Nat.le_trans hpb.len hM
    have HBG := hide hbg
    have HPBG := hide hpb
    have HC24 := hide (graded_any _ ng nc pg pc bi G PI _ HGA.out hbg.gp (by omega))
    clear hnodes hrows hbg hpb hb13 HC23
    go_wp2_with fail
    obtain ⟨gb, hgb⟩ : ∃ gb, gb = w13.heap.size := ⟨_, rfl⟩
    obtain ⟨W14, hW14⟩ : ∃ W14, W14 = w13.alloc (.cells #[.slice (some ⟨ng, 0, none⟩) G.length nc, .slice (some ⟨pg, 0, none⟩) PI.length pc, .int .i64 bi] 58) := ⟨_, rfl⟩
    have hb14 : Below w13.heap.size w13 W14 := by rw [hW14]; exact (Below.refl _ _).alloc (Nat.le_refl _) _
    rw [← hW14, ← hgb] at HGA HC24
    rw [← hW14, ← hgb]
    have HB014 : Hid (Below w12.heap.size w12 W14) := after HB1213.out hb14
    clear hW14 hgb hb14
    refine HC24.out.mono ?_
    rintro e w15 ⟨⟨r, rfl, hgr⟩, hb15⟩
    have HB15 : Hid (Below w12.heap.size w12 w15) := after HB014.out hb15
    have HGA15 := hide (HGA.out.below hb15)
    clear HC24 HGA HB014 hb15
    cases r with
    | false =>
      go_wp2_with fail
      go_ret
      exact ⟨rfl, after HB012.out HB15.out⟩
    | true =>
      have HGR := hide (hgr rfl)
      clear hgr
      have HB16 : Hid (Below w15.heap.size w15 (w15.alloc (.cells #[.slice ta' T'.length tc'] 35))) := (Below.refl _ _).alloc (Nat.le_refl _) _
      have HSB : Hid (Blk (w15.alloc (.cells #[.slice ta' T'.length tc'] 35)) w15.heap.size 35 #[.slice ta' T'.length tc']) := Blk.new w15 35 _
      go_upto_region 14 with fail
      obtain ⟨sb, hsb⟩ : ∃ sb, sb = w15.heap.size := ⟨_, rfl⟩
      obtain ⟨W16, hW16⟩ : ∃ W16, W16 = w15.alloc (.cells #[.slice ta' T'.length tc'] 35) := ⟨_, rfl⟩
      rw [← hW16] at HB16 HSB
      rw [← hsb] at HSB
      rw [← hW16, ← hsb]
      clear hW16 hsb
      have hbd : Below w12.heap.size w12 W16.drew := (after HB15.out HB16.out).drew
      have HXA16 := hide (HXA12.out.below hbd HXA12.out.lt)
      have HXB16 := hide (HXB12.out.below hbd HXB12.out.lt)
      obtain ⟨x0, x1, x2, x3, x4, x5, x6⟩ := (cells7 HXA16.out).1
      obtain ⟨y0, y1, y2, y3, y4, y5, y6⟩ := (cells7 HXB16.out).1
      have HT12 := hide (toCommit_any a' W16.drew)
      clear hbd
      go_region_held3 (fun w' => (w'.cell? ⟨ba, 0, none⟩ = some (.string a'.id) ∧ w'.cell? ⟨ba, 1, none⟩ = some (.slice a'.pa a'.pn a'.pc) ∧ w'.cell? ⟨ba, 2, none⟩ = some (.string a'.com) ∧ w'.cell? ⟨ba, 3, none⟩ = some (.string a'.msg) ∧ w'.cell? ⟨ba, 4, none⟩ = some (.int .i64 a'.cr) ∧ w'.cell? ⟨ba, 5, none⟩ = some (.string a'.mr) ∧ w'.cell? ⟨ba, 6, none⟩ = some (.int .i64 a'.gen)) ∧ (w'.cell? ⟨bb, 0, none⟩ = some (.string b'.id) ∧ w'.cell? ⟨bb, 1, none⟩ = some (.slice b'.pa b'.pn b'.pc) ∧ w'.cell? ⟨bb, 2, none⟩ = some (.string b'.com) ∧ w'.cell? ⟨bb, 3, none⟩ = some (.string b'.msg) ∧ w'.cell? ⟨bb, 4, none⟩ = some (.int .i64 b'.cr) ∧ w'.cell? ⟨bb, 5, none⟩ = some (.string b'.mr) ∧ w'.cell? ⟨bb, 6, none⟩ = some (.int .i64 b'.gen))) (with_reducible first | exact ⟨⟨x0, x1, x2, x3, x4, x5, x6⟩, ⟨y0, y1, y2, y3, y4, y5, y6⟩⟩ | exact ⟨⟨xa0, xa1, xa2, xa3, xa4, xa5, xa6⟩, ⟨ya0, ya1, ya2, ya3, ya4, ya5, ya6⟩⟩ | exact ⟨⟨xb0, xb1, xb2, xb3, xb4, xb5, xb6⟩, ⟨yb0, yb1, yb2, yb3, yb4, yb5, yb6⟩⟩ | exact ⟨⟨xc0, xc1, xc2, xc3, xc4, xc5, xc6⟩, ⟨yc0, yc1, yc2, yc3, yc4, yc5, yc6⟩⟩) ((first | (go_at_call 13; refine (startWalk_any sb a' b' wv5).mono ?_; rintro e w6 ⟨wb, mb, qv, K, N, Q, ung, rfl, hs19, hb19, hst⟩; have HS19 := hide hs19; have HB19 := hide hb19; have HST := hide hst; obtain ⟨⟨xc0, xc1, xc2, xc3, xc4, xc5, xc6⟩, -⟩ := cells7 (HXA16.out.below (after HV5.out hb19) HXA16.out.lt); obtain ⟨⟨yc0, yc1, yc2, yc3, yc4, yc5, yc6⟩, -⟩ := cells7 (HXB16.out.below (after HV5.out hb19) HXB16.out.lt); clear hs19 hb19 hst) | (go_at_call 12; refine (toCommit_any b' wv4).mono ?_; rintro e wv5 ⟨rfl, hb5⟩; have HV5 := hide (after HV4.out hb5); obtain ⟨⟨xb0, xb1, xb2, xb3, xb4, xb5, xb6⟩, -⟩ := cells7 (HXA16.out.below HV5.out HXA16.out.lt); obtain ⟨⟨yb0, yb1, yb2, yb3, yb4, yb5, yb6⟩, -⟩ := cells7 (HXB16.out.below HV5.out HXB16.out.lt); clear hb5) | (go_at_call 12; refine HT12.out.mono ?_; rintro e wv4 ⟨rfl, hb4⟩; have HV4 := hide hb4; obtain ⟨⟨xa0, xa1, xa2, xa3, xa4, xa5, xa6⟩, -⟩ := cells7 (HXA16.out.below hb4 HXA16.out.lt); obtain ⟨⟨ya0, ya1, ya2, ya3, ya4, ya5, ya6⟩, -⟩ := cells7 (HXB16.out.below hb4 HXB16.out.lt); clear hb4)))
      clear x0 x1 x2 x3 x4 x5 x6 y0 y1 y2 y3 y4 y5 y6 xa0 xa1 xa2 xa3 xa4 xa5 xa6 ya0 ya1 ya2 ya3 ya4 ya5 ya6 xb0 xb1 xb2 xb3 xb4 xb5 xb6 yb0 yb1 yb2 yb3 yb4 yb5 yb6 xc0 xc1 xc2 xc3 xc4 xc5 xc6 yc0 yc1 yc2 yc3 yc4 yc5 yc6 HT12
      obtain ⟨bt, hbt⟩ : ∃ bt, bt = (a'.id.toList == b'.id.toList) := ⟨_, rfl⟩
      have HBT := hide hbt
      clear hbt
      have x0 : w6.cell? ⟨ba, 0, none⟩ = some (.string a'.id) := (HXA16.out.below (after HV5.out HB19.out) HXA16.out.lt).cell 0
      have y0 : w6.cell? ⟨bb, 0, none⟩ = some (.string b'.id) := (HXB16.out.below (after HV5.out HB19.out) HXB16.out.lt).cell 0
      have hN : N.length = (if bt = true then 1 else 2) ∧ Q.length = N.length ∧ unmk N = N.length := by
        rw [HBT.out]
        have hq := HS19.out.qperm.length_eq
        rcases HST.out with ⟨hid, n1, rfl, _, _⟩ | ⟨hid, n1, n2, rfl, _, _, _⟩
        · refine ⟨by simp [hid], ?_, by simp [unmk]⟩
          rw [hq]
          rfl
        · refine ⟨?_, ?_, by simp [unmk]⟩
          · rw [if_neg]
            · rfl
            · rw [beq_iff_eq]
              exact fun e => hid (toList_inj e)
          · rw [hq]
            rfl
      obtain ⟨n0, hn0⟩ : ∃ n0, n0 = N.length := ⟨_, rfl⟩
      rw [← hn0] at hN
      obtain ⟨hN1, hN2, hN3⟩ := hN
      go_upto_region 16 with fail
      go_cut [72] from 68 to 71 (fun s wx => s = .bool bt ∧ wx = w6)
      case first =>
        clear hN1 hN2 hN3 hn0
        go_wp2_with fail
        go_meet
        exact ⟨by rw [HBT.out], rfl⟩
      case rest =>
      obtain ⟨rfl, rfl⟩ := hcut
      obtain ⟨w19, hw19⟩ : ∃ w19, w19 = wc := ⟨_, rfl⟩
      subst hw19
      clear x0 y0
      go_upto_if 72 with fail
      go_cut [10] from 72 to 72 (fun s wx => s = .int .i64 n0 ∧ wx = w19)
      case first =>
        have HN1 := hide hN1
        clear hN1 hN2 hN3 hn0
        cases bt with
        | true =>
          go_wp2_with fail
          go_meet
          exact ⟨by rw [HN1.out]; rfl, rfl⟩
        | false =>
          go_wp2_with fail
          go_meet
          exact ⟨by rw [HN1.out]; rfl, rfl⟩
      case rest =>
      obtain ⟨rfl, rfl⟩ := hcut
      obtain ⟨w19, hw19⟩ : ∃ w19, w19 = wc := ⟨_, rfl⟩
      subst hw19
      obtain ⟨qa, qc, hqv⟩ : ∃ qa qc, qv = .slice qa Q.length qc := by
        rcases HS19.out.ms.qown.2 with ⟨hv, h0⟩ | ⟨g, cap, cur, hv, _⟩
        · exact ⟨none, 0, by rw [hv, h0]⟩
        · exact ⟨_, cap, hv⟩
      subst hqv
      obtain ⟨-, -, q2, q3, -, -⟩ := HS19.out.ms.cells
      rw [hN2] at q2
      rw [hN3] at q3
      have tn : (((n0 : Nat) : Int) != ((n0 : Nat) : Int)) = false := by simp
      have HN0 := hide hn0
      clear hN1 hN2 hN3 hn0
      go_wp2_with fail
      refine (queue_any wb _ _ q2).mono ?_
      rintro e w20 ⟨rfl, rfl⟩
      go_wp2_with fail
      refine (unmarked_any wb _ _ q3).mono ?_
      rintro e w20 ⟨rfl, rfl⟩
      go_upto_block 0 with fail
      obtain ⟨w0, hw0⟩ : ∃ w0, w0 = wv5 := ⟨_, rfl⟩
      subst hw0
      have hbi : bi < G.length := HBG.out.hb.1
      have HGRA := hide (HBG.out.gra HGR.out hbi)
      have hbcase : (a'.id = b'.id ∧ G[bi] = a') ∨ (a'.id ≠ b'.id ∧ G[bi] = b') := HBG.out.hb.2
      have HL0 : Hid (L4 w0 w19 sb wb mb G a' G[bi] (.slice none 0 0) 0 0) := hide (by
        have hung := start_graded HST.out HGRA.out hbcase
        have hs := HS19.out
        rw [hung] at hs
        exact ⟨_, _, K, N, Q, [], [], hs, HB19.out, WInv.start HST.out HGRA.out hbcase, Own.nil _ _, fun g hg => by simp [Value.ownBlock] at hg, rfl, fun k hk => by simp at hk⟩)
      have HB120 : Hid (Below w12.heap.size w12 w0) := hide (after (after HB15.out HB16.out).drew HV5.out)
      have HGA0 := hide (HGA15.out.below (after HB16.out.drew HV5.out))
      have HST0 : Hid (Store w0 sb ta' tc' T') := hide ⟨(HSB.out.below (after ((Below.refl _ _).drew) HV5.out) HSB.out.lt).cell 0, HTAB.out.below HB120.out, by omega⟩
      clear q2 q3 tn HN0 hbcase HS19 HST HBT
      obtain ⟨b2, hb2⟩ : ∃ b2, b2 = G[bi] := ⟨_, rfl⟩
      rw [← hb2] at HL0 HGRA
      have HB2D := hide hb2
      clear hb2
      obtain ⟨n, hn⟩ : ∃ n, n = G.length := ⟨_, rfl⟩
      have HNG := hide hn
      clear hn
      go_cut [11] from 84 to 161 (fun s wx => Hid (∃ qv cv K N Q C P, WS wx (fun k => w0.heap.size ≤ k) wb mb (.func (.func 39) #[.pointer (some ⟨sb, 0, none⟩)] #[]) K N qv cv Q C false ∧ Below w0.heap.size w0 wx ∧ WInv G a' b2 K N P C ∧ unmk N = 0))
      case first =>
        go_wp2_with fail
        go_loopw [11, 12, 13] (fun tv lv sv wr => ∃ st : Nat, st ≤ n ∧ sv = .int .i64 st ∧ ∃ last : Int, lv = .int .i64 last ∧ Hid (L4 w0 wr sb wb mb G a' b2 tv last st)) (fun _ _ sv _ => n - (intOf sv).toNat)
        case atStart => exact ⟨0, Nat.zero_le _, rfl, 0, rfl, HL0.out⟩
        case round =>
          obtain ⟨st, hst, rfl, last, rfl, HL⟩ := hrel
          obtain ⟨qv, cv, K, N, Q, C, P, hs, hb, hi, hown, hoff, hPl, hlast⟩ := HL.out
          have hk : NOk K N := ⟨hs.ms.nodup, hs.ms.ids⟩
          have hCN : ∀ k ∈ C, ∃ y ∈ N, y.b = k := fun k hk => hi.pin k (hi.csub k hk)
          have hn2 : n ≤ 20000 := by rw [HNG.out]; exact hGl
          have hCl : C.length ≤ n := by
            have h1 := nodup_leN hi.cnd hi.csub
            omega
          have HCG := hide (goesOn_any hs hCN (by omega))
          have hgo : goesOn N C false = decide (0 < unmk N) := by unfold goesOn; simp
          rw [hgo] at HCG
          have d0 : wr.cell? ⟨gb, 0, none⟩ = some (.slice (some ⟨ng, 0, none⟩) n nc) := by rw [HNG.out]; exact (HGA0.out.below hb).blk.cell 0
          by_cases hlt : st < n
          · cases hu : decide (0 < unmk N) with
            | false =>
              have HE : Hid (∃ qv cv K N Q C P, WS wr (fun k => w0.heap.size ≤ k) wb mb (.func (.func 39) #[.pointer (some ⟨sb, 0, none⟩)] #[]) K N qv cv Q C false ∧ Below w0.heap.size w0 wr ∧ WInv G a' b2 K N P C ∧ unmk N = 0) := hide ⟨qv, cv, K, N, Q, C, P, hs, hb, hi, by simpa using hu⟩
              rw [hu] at HCG
              clear hs hb hi hown hoff hPl hlast hk hCN hCl hgo hu HL
              go_wp2_with fail
              refine HCG.out.mono ?_
              rintro e w20 ⟨rfl, rfl⟩
              go_wp2_with fail
              go_meet
              exact HE.out
            | true =>
              rw [hu] at HCG
              obtain ⟨hQl, x, hx, hxb, hxq⟩ := hs.top3 (by rw [hgo, hu])
              obtain ⟨qg, qc2, hqv⟩ := hs.ms.qown.form hQl
              subst hqv
              have q2 := hs.ms.cells.2.2.1
              have hNl : N.length ≤ 20000 := by have := hi.nlen hk; omega
              have hQN : Q.length ≤ 20000 := by
                have h1 := hs.qperm.length_eq
                have h2 : (qd N).length ≤ N.length := by unfold qd; rw [List.length_map]; exact List.length_filter_le _ _
                omega
              have HTOP := hide (top_any qg qc2 0 K Q wr hs.ms.qown hs.ms.nodes (by omega))
              have hti := top_is hs hQl
              have htl := topU_le K Q (Q.length - 1)
              have htq : (((Q.length : Nat) : Int) == 0) = false := by rw [beq_eq_false_iff_ne]; omega
              obtain ⟨tp, tcap, htv⟩ : ∃ tp tcap, u11 = .slice tp P.length tcap := by
                rcases hown.2 with ⟨hv, h0⟩ | ⟨g, cap, cur, hv, _⟩
                · exact ⟨none, 0, by rw [hv, h0]⟩
                · exact ⟨_, cap, hv⟩
              subst htv
              have HS := hide hs
              have HBB := hide hb
              have HI := hide hi
              have HOWN := hide hown
              have HOFF := hide hoff
              have HLAST := hide hlast
              have HX := hide hx
              have HXB := hide hxb
              have HXQ := hide hxq
              have HOK := hide hk
              have HPL := hide hPl
              clear hs hb hi hown hoff hlast hx hxb hxq hk hPl hCN hgo hu HL
              go_wp2_with fail
              refine HCG.out.mono ?_
              rintro e w20 ⟨rfl, rfl⟩
              go_wp2_with fail
              refine (queue_any wb _ _ q2).mono ?_
              rintro e w20 ⟨rfl, rfl⟩
              go_wp2_with fail
              refine HTOP.out.mono ?_
              rintro e w1 ⟨rfl, hb1⟩
              generalize topU K Q (Q.length - 1) = tt at *
              have htt : tt < Q.length := by omega
              have c1 := cell_below hb1 (HS.out.ms.qown.cell tt htt)
              have hqt : Q[tt] = x.b := by rw [← nth_eq Q tt htt, hti, HXB.out]
              rw [hqt] at c1
              have HB1 := hide hb1
              have HNX := hide ((HS.out.ms.at HX.out).1.below hb1)
              clear hb1 hqt hti htl HTOP q2 HCG d0
              go_wp2_with fail
              refine (nodeCommit_any x.b (K x.b) _ HNX.out).mono ?_
              rintro e w2 ⟨rfl, hb2⟩
              have HB2 : Hid (Below wr.heap.size wr w2) := after HB1.out hb2
              clear hb2 c1 HNX HB1
              go_wp2_with fail
              refine (key_any (K x.b) w2).mono ?_
              rintro e w3 ⟨rfl, hb3⟩
              have HB3 : Hid (Below wr.heap.size wr w3) := after HB2.out hb3
              have hkt : (K x.b).key = (K x.b).gen := key_gen (HGRA.out.gr _ (HI.out.inG x HX.out))
              rw [hkt]
              obtain ⟨kt, hkt2⟩ : ∃ kt, kt = (K x.b).gen := ⟨_, rfl⟩
              rw [← hkt2]
              have HKT := hide hkt2
              have HS3 := hide (HS.out.below HB3.out)
              have HB03 : Hid (Below w0.heap.size w0 w3) := hide (HBB.out.trans (HB3.out.mono HBB.out.size))
              obtain ⟨m, hm⟩ : ∃ m, m = P.length := ⟨_, rfl⟩
              rw [← hm] at HOWN HOFF
              rw [← hm]
              have HM := hide hm
              have HOWN3 : Hid (Own w3 w0.heap.size (.slice tp m tcap) P) := hide (HOWN.out.kept (Keeps.of_below HB3.out (fun _ => False)) (fun _ _ => id))
              have HOFF3 : Hid (∀ g, (Value.slice tp m tcap).ownBlock = some g → ¬ Qxb6605835a.mine w3 wb mb N _ _ g) := hide fun g hg hm => HOFF.out g hg (mine_less HB3.out.size hm)
              clear hkt hkt2 hm hb3 HB2 HB3 HS HBB HOWN HOFF htt htq
              go_upto_region 31 with fail
              go_cut [114] from 107 to 113 (fun s wx => s = .bool false ∧ wx = w3)
              case first =>
                by_cases hp0 : 0 < m
                · have hle : kt ≤ last := by
                    have hPm : P ≠ [] := fun e => by have := HM.out; rw [e] at this; simp at this; omega
                    obtain ⟨z, hz, hzb⟩ := HI.out.pin (P.getLast hPm) (List.getLast_mem hPm)
                    have h1 := HLAST.out _ (List.getLast?_eq_some_getLast hPm)
                    have h2 := HI.out.ord x HX.out HXQ.out z hz (by rw [hzb]; exact List.getLast_mem hPm)
                    rw [HKT.out, h1, ← hzb]
                    exact h2
                  go_wp2_with fail
                  go_meet
                  exact ⟨by rw [decide_eq_false (by omega)], rfl⟩
                · go_wp2_with fail
                  go_meet
                  exact ⟨rfl, rfl⟩
              case rest =>
              obtain ⟨rfl, rfl⟩ := hcut
              obtain ⟨w3, hw3⟩ : ∃ w3, w3 = wc := ⟨_, rfl⟩
              subst hw3
              go_wp2_with fail
              obtain ⟨wr0, hwr0⟩ : ∃ wr0, wr0 = wr := ⟨_, rfl⟩
              subst hwr0
              obtain ⟨i62, hi62, hz0, hz1, hz2⟩ := info_parts info62
              have HI62 := hide (And.intro hi62 (And.intro hz0 (And.intro hz1 hz2)))
              clear hi62 hz0 hz1 hz2
              have hmn : m < n := by
                have h1 := HPL.out
                have h2 := HM.out
                omega
              go_loopw [17] (fun i wx => ∃ k : Nat, k ≤ m ∧ i = .int .i64 k ∧ wx = w3) (fun i _ => m - (intOf i).toNat)
              case atStart => exact ⟨0, Nat.zero_le _, rfl, rfl⟩
              case round =>
                obtain ⟨k, hk, rfl, hwr⟩ := hrel
                subst hwr
                by_cases hlt2 : k < m
                · have hkP : k < P.length := by have := HM.out; omega
                  obtain ⟨tg, tcp, hform⟩ := HOWN3.out.form (by omega)
                  simp only [Value.slice.injEq] at hform
                  obtain ⟨htp, -, -⟩ := hform
                  subst htp
                  have c1 := HOWN3.out.cell k hkP
                  obtain ⟨y, hy, hyb⟩ := HI.out.pin _ (List.getElem_mem hkP)
                  have hne : P[k] ≠ x.b := fun e => by
                    have := HI.out.pq x HX.out (e ▸ List.getElem_mem hkP)
                    rw [HXQ.out] at this
                    cases this
                  have hpe : (binOp .eql 62 (ptr P[k]) (ptr x.b)).run Try.prog wr = .ok (.bool false) wr := by
                    rw [← hyb, eqlPtr wr y.b x.b (HS3.out.ms.nd y hy) (HS3.out.ms.nd x HX.out)]
                    simp [hyb, hne]
                  clear hne hyb hy
                  generalize P[k] = pk at *
                  clear hkP
                  go_wp2_with fail
                  go_roundw
                  case rel => exact ⟨k + 1, by omega, by go_num, trivial⟩
                  case measure => simp [intOf]; omega
                · have hkm : k = m := by omega
                  clear hlt2 hk
                  subst hkm
                  obtain ⟨w3, hw3⟩ : ∃ w3, w3 = wr := ⟨_, rfl⟩
                  subst hw3
                  obtain ⟨m, hmk⟩ : ∃ m, m = k := ⟨_, rfl⟩
                  subst hmk
                  have HOA : Hid ((w3.alloc (.cells #[ptr x.b] 62)).ownsRow w0.heap.size 62 1 (.slice tp m tcap) m (P.map ptr)) := hide (by
                    have h1 : Own (w3.alloc (.cells #[ptr x.b] 62)) w0.heap.size (.slice tp m tcap) P := HOWN3.out.kept (Keeps.of_below ((Below.refl _ _).alloc (Nat.le_refl _) _) (fun _ => False)) (fun _ _ => id)
                    unfold Own at h1
                    rw [← HM.out] at h1
                    exact h1)
                  have HPUT : Hid (∀ g cap w5, w5.ownsRow w0.heap.size 62 1 (.slice (some ⟨g, 0, none⟩) (m + 1) cap) (m + 1) (P.map ptr ++ [ptr x.b]) → (w3.alloc (.cells #[ptr x.b] 62)).grownBy w5 (Value.slice tp m tcap).ownBlock → ((Value.slice tp m tcap).ownBlock = some g ∨ g = w3.heap.size + 1) → WS w5 (fun k => w0.heap.size ≤ k) wb mb (.func (.func 39) #[.pointer (some ⟨sb, 0, none⟩)] #[]) K N (.slice (some ⟨qg, 0, none⟩) Q.length qc2) cv Q C false ∧ Own w5 w0.heap.size (.slice (some ⟨g, 0, none⟩) (m + 1) cap) (P ++ [x.b]) ∧ (∀ q, (Value.slice (some ⟨g, 0, none⟩) (m + 1) cap).ownBlock = some q → ¬ Qxb6605835a.mine w5 wb mb N (.slice (some ⟨qg, 0, none⟩) Q.length qc2) cv q) ∧ Below w0.heap.size w0 w5) := hide fun g cap w5 h1 h2 h3 => by
                    have e := HM.out
                    subst e
                    obtain ⟨t1, t2, t3, t4⟩ := taken_push HS3.out HOWN3.out HOFF3.out h1 h2 h3
                    exact ⟨t1, t2, t3, HB03.out.trans (t4.below HB03.out.size (fun j hj => by
                      obtain ⟨_, _, h⟩ := ownBlock_blk HOWN3.out hj
                      exact h))⟩
                  have hw03 : w0.heap.size ≤ w3.heap.size := HB03.out.size
                  clear HOWN3 HOFF3 HS3
                  go_wp2_with ((at_builtin; refine wpList_append_lies _ rfl _ _ 45 rfl w0.heap.size 62 i62 (.pointer none) 1 8 Try.underlying45 HI62.out.1 HI62.out.2.1 HI62.out.2.2.1 HI62.out.2.2.2 rfl (by decide) (.slice tp m tcap) m (P.map ptr) rfl HOA.out ⟨w3.heap.size, 0, none⟩ 1 1 [ptr x.b] rfl rfl (World.news_of_block (Blk.new w3 62 #[ptr x.b])) (by simp [Value.oneCell']) (by decide) (by unfold maxLen; omega) (by omega) (by simp only [World.size_alloc]; omega) (w3.heap.size + 1) (by simp only [World.size_alloc]) ?_; intro g4 cap4 w5 hown5 hgrow5 hat5 hlt5; have HP5 := hide (HPUT.out g4 cap4 w5 hown5 hgrow5 hat5); clear hown5 hgrow5 hat5 hlt5))
                  obtain ⟨hs5, hown5, hoff5, hb05⟩ := HP5.out
                  have HSTEP := hide (stepZ_any w0 _ wb mb sb tc' ta' _ _ K N Q C false T' x w5 hs5.mine (mine_sub hs5) hb05 HST0.out (fun c hc => (HPTX.out c hc).1.below HB120.out) (fun y hy => (HPBG.out.par _ (HI.out.inG y hy)).1.below HB120.out) hQl HX.out HXB.out HXQ.out (by
                    have := (HPBG.out.par _ (HI.out.inG x HX.out)).2.2
                    omega) (by omega))
                  clear HP5 HPUT HOA
                  refine HSTEP.out.mono ?_
                  rintro e w7 ⟨rfl, hsp⟩
                  obtain ⟨K', N', qv', cv', Q', C', hs7, hb07, hi7, hown7, hoff7, hKx⟩ := step4 hs5 hb05 HI.out HGRA.out HX.out HXQ.out HXB.out hown5 hoff5 hsp
                  obtain ⟨x', hx', hxb'⟩ := hi7.pin x.b (by simp)
                  have hxq' := hi7.pq x' hx' (by rw [hxb']; simp)
                  have n9 := (hs7.ms.at hx').2.2
                  rw [hxb', hxq'] at n9
                  obtain ⟨qa7, qc7, hqv7⟩ : ∃ qa qc, qv' = .slice qa Q'.length qc := by
                    rcases hs7.ms.qown.2 with ⟨hv, h0⟩ | ⟨g, cap, cur, hv, _⟩
                    · exact ⟨none, 0, by rw [hv, h0]⟩
                    · exact ⟨_, cap, hv⟩
                  subst hqv7
                  have p2 := hs7.ms.cells.2.2.1
                  have HKT7 : Hid (kt = (K' x'.b).gen) := hide (by rw [hxb', hKx, HKT.out])
                  have HX7 := hide (And.intro hx' hxb')
                  have HS7 := hide hs7
                  have HB07 := hide hb07
                  have HI7 := hide hi7
                  have HOWN7 := hide hown7
                  have HOFF7 := hide hoff7
                  have hQ7 : Q'.length ≤ 20000 := by
                    have h0 := hi7.nlen ⟨hs7.ms.nodup, hs7.ms.ids⟩
                    have h1 := hs7.qperm.length_eq
                    have h2 : (qd N').length ≤ N'.length := by unfold qd; rw [List.length_map]; exact List.length_filter_le _ _
                    omega
                  clear hs5 hown5 hoff5 hb05 HSTEP hsp hs7 hb07 hi7 hown7 hoff7 hKx hx' hxq' HKT HI HX HXB HXQ HOK HLAST
                  go_wp2_with fail
                  refine (nodeQueued_any x.b _ w7 n9).mono ?_
                  rintro e w8 ⟨rfl, rfl⟩
                  go_wp2_with fail
                  refine (queue_any wb _ _ p2).mono ?_
                  rintro e w8 ⟨rfl, rfl⟩
                  obtain ⟨qn, hqn⟩ : ∃ qn, qn = Q'.length := ⟨_, rfl⟩
                  rw [← hqn] at HS7 HOFF7 hQ7
                  rw [← hqn]
                  have HQN := hide hqn
                  clear hqn p2 n9 hw03
                  go_wp2_with fail
                  go_loopw [19] (fun i wx => ∃ j : Nat, j ≤ qn ∧ i = .int .i64 j ∧ Hid (Below w7.heap.size w7 wx)) (fun i _ => qn - (intOf i).toNat)
                  case atStart => exact ⟨0, Nat.zero_le _, rfl, Below.refl _ _⟩
                  case round =>
                    obtain ⟨j, hj, rfl, HBJ⟩ := hrel
                    by_cases hjl : j < qn
                    · have hjQ : j < Q'.length := by have := HQN.out; omega
                      obtain ⟨gq, capq, hform⟩ := HS7.out.ms.qown.form (by omega)
                      simp only [Value.slice.injEq] at hform
                      obtain ⟨hqa, -, -⟩ := hform
                      subst hqa
                      have c1 := cell_below HBJ.out (HS7.out.ms.qown.cell j hjQ)
                      obtain ⟨y, hy, hyb, hyq⟩ := qd_mem.1 (HS7.out.qperm.mem_iff.1 (List.getElem_mem hjQ))
                      rw [← hyb] at c1
                      have hne : y.b ≠ x.b := fun e => by
                        have := HI7.out.pq y hy (by rw [e]; simp)
                        rw [hyq] at this
                        cases this
                      have hpe : (binOp .eql 62 (ptr y.b) (ptr x.b)).run Try.prog wr = .ok (.bool false) wr := by
                        have h1 := HS7.out.below HBJ.out
                        have h2 := h1.ms.nd x' HX7.out.1
                        rw [HX7.out.2] at h2
                        rw [eqlPtr wr y.b x.b (h1.ms.nd y hy) h2]
                        simp [hne]
                      have HNY := hide ((HS7.out.ms.at hy).1.below HBJ.out)
                      have hle : (K' y.b).gen ≤ kt := by
                        rw [HKT7.out]
                        exact HI7.out.ord y hy hyq x' HX7.out.1 (by rw [HX7.out.2]; simp)
                      have hky := key_gen (HGRA.out.gr _ (HI7.out.inG y hy))
                      have HKY := hide hky
                      clear hy hyb hyq hne hjQ hky
                      go_wp2_with fail
                      refine (nodeCommit_any y.b (K' y.b) _ HNY.out).mono ?_
                      rintro e w9 ⟨rfl, hb9⟩
                      have HB9 : Hid (Below w7.heap.size w7 w9) := after HBJ.out hb9
                      clear hb9
                      go_wp2_with fail
                      refine (key_any (K' y.b) w9).mono ?_
                      rintro e w10 ⟨rfl, hb10⟩
                      have HB10 : Hid (Below w7.heap.size w7 w10) := after HB9.out hb10
                      rw [HKY.out]
                      clear hb10 HB9 HKY HNY
                      generalize (K' y.b).gen = ky at *
                      go_wp2_with fail
                      go_roundw
                      case rel => exact ⟨j + 1, by omega, by go_num, HB10.out⟩
                      case measure => simp [intOf]; omega
                    · have HEND : Hid (L4 w0 wr sb wb mb G a' b2 (.slice (some ⟨g4, 0, none⟩) (m + 1) cap4) kt (st + 1)) := hide (by
                        refine ⟨_, _, K', N', Q', C', P ++ [x.b], HS7.out.below HBJ.out, HB07.out.trans (HBJ.out.mono HB07.out.size), HI7.out, HOWN7.out.kept (Keeps.of_below HBJ.out (fun _ => False)) (fun _ _ => id), fun g hg hm => HOFF7.out g hg (mine_less HBJ.out.size hm), ?_, fun k hk => ?_⟩
                        · have := HPL.out
                          simp only [List.length_append, List.length_singleton]
                          omega
                        · simp at hk
                          rw [← hk, HKT7.out, HX7.out.2])
                      clear hj
                      go_wp2_with fail
                      go_roundw
                      case rel => exact ⟨st + 1, by omega, by go_num, kt, rfl, HEND.out⟩
                      case measure => simp [intOf]; omega
          · have hfull := hi.full hk HBG.out.nd (by have := HNG.out; omega)
            have HE : Hid (∃ qv cv K N Q C P, WS wr (fun k => w0.heap.size ≤ k) wb mb (.func (.func 39) #[.pointer (some ⟨sb, 0, none⟩)] #[]) K N qv cv Q C false ∧ Below w0.heap.size w0 wr ∧ WInv G a' b2 K N P C ∧ unmk N = 0) := hide ⟨qv, cv, K, N, Q, C, P, hs, hb, hi, by
              unfold unmk
              rw [List.length_eq_zero_iff, List.filter_eq_nil_iff]
              intro y hy
              simp [hfull y hy]⟩
            clear hs hb hi hown hoff hPl hlast hk hCN hCl hgo HL hfull HCG
            go_wp2_with fail
            go_meet
            exact HE.out
      case rest =>
        obtain ⟨qv, cv, K, N, Q, C, P, hs, hb, hi, hu0⟩ := hcut.out
        obtain ⟨w1, hw1⟩ : ∃ w1, w1 = wc := ⟨_, rfl⟩
        subst hw1
        have hk : NOk K N := ⟨hs.ms.nodup, hs.ms.ids⟩
        have hCN : ∀ k ∈ C, ∃ y ∈ N, y.b = k := fun k hk => hi.pin k (hi.csub k hk)
        have hn2 : n ≤ 20000 := by rw [HNG.out]; exact hGl
        have hCl : C.length ≤ n := by
          have h1 := nodup_leN hi.cnd hi.csub
          have h2 := hi.count hk HBG.out.nd
          have h3 := HNG.out
          omega
        have HCG := hide (goesOn_any hs hCN (by omega))
        have hgo : goesOn N C false = false := by unfold goesOn; simp [hu0]
        rw [hgo] at HCG
        obtain ⟨ca, cc, hcv⟩ : ∃ ca cc, cv = .slice ca C.length cc := by
          rcases hs.ms.cown.2 with ⟨hv, h0⟩ | ⟨g, cap, cur, hv, _⟩
          · exact ⟨none, 0, by rw [hv, h0]⟩
          · exact ⟨_, cap, hv⟩
        subst hcv
        have HBEST := hide (best_any gb ng nc pg pc bi G PI w1 (HGA0.out.below hb) HBG.out.gp (by omega) hbi (by
          have h1 := tot_le HBG.out.gp.psl
          have h2 := HBG.out.gp.len
          omega))
        have HS := hide hs
        have HBB := hide hb
        have HI := hide hi
        have HCN := hide hCN
        have HU0 := hide (unmk_zero hu0)
        have HP8 := hide hs.ms.p8
        have HK := hide hk
        clear hs hb hi hCN hu0 hk hgo hcut HL0
        go_wp2_with fail
        refine HCG.out.mono ?_
        rintro e w20 ⟨rfl, rfl⟩
        go_wp2_with fail
        refine HBEST.out.mono ?_
        rintro e w2 ⟨v, sa, sb', su, L2, rfl, hsa, hsb, hsu, hp2, hs2, hv2, hb2⟩
        have HPERM : Hid (∀ L1 : List Cm, L1.Perm (C.map K) → L1.Pairwise nb → L1 = L2) := hide fun L1 h1 h2 => by
          have hi' : WInv G a' G[bi] K N P C := by rw [← HB2D.out]; exact HI.out
          exact end_same HBG.out (end_perm HBG.out HGR.out hbi hi' HK.out HP8.out HU0.out hsa hsb hsu) h1 hp2 h2 hs2
        have HLM : Hid (∀ c ∈ L2, c ∈ G) := hide fun c hc => by
          obtain ⟨i, hi, _, rfl⟩ := ol_mem.1 (hp2.mem_iff.1 hc)
          exact List.getElem_mem hi
        obtain ⟨va, vc, hv, HV⟩ : ∃ va vc, v = .slice va L2.length vc ∧ Hid (L2 = [] ∨ ∃ g, va = some ⟨g, 0, none⟩ ∧ CRow w2 g L2) := by
          rcases hv2 with ⟨e, a, c, rfl⟩ | ⟨g, cap, rfl, hr⟩
          · exact ⟨a, c, by rw [e]; rfl, .inl e⟩
          · exact ⟨_, cap, rfl, .inr ⟨g, rfl, hr⟩⟩
        subst hv
        have HS2 := hide (HS.out.below hb2)
        have HB02 : Hid (Below w0.heap.size w0 w2) := hide (HBB.out.trans (hb2.mono HBB.out.size))
        have p4 := HS2.out.ms.cells.2.2.2.2.1
        clear hsa hsb hsu hp2 hs2 hv2 hb2 HBEST HCG HS HBB HU0
        go_wp2_with fail
        refine (candidates_any wb _ _ p4).mono ?_
        rintro e w20 ⟨rfl, rfl⟩
        obtain ⟨cn, hcn⟩ : ∃ cn, cn = C.length := ⟨_, rfl⟩
        rw [← hcn] at HS2 hCl
        rw [← hcn]
        have HCL := hide hcn
        obtain ⟨i39, hi39, hz0, hz1, hz2⟩ := info_parts info39
        have HI39 := hide (And.intro hi39 (And.intro hz0 (And.intro hz1 hz2)))
        clear hcn p4 hi39 hz0 hz1 hz2
        go_wp2_with fail
        go_loopw [21, 23] (fun gv i wx => ∃ k : Nat, k ≤ cn ∧ i = .int .i64 k ∧ Hid (OwnC wx w2.heap.size gv ((C.take k).map K) ∧ Below w2.heap.size w2 wx)) (fun _ i _ => cn - (intOf i).toNat)
        case atStart => exact ⟨0, Nat.zero_le _, rfl, OwnC.nil _ _, Below.refl _ _⟩
        case round =>
          obtain ⟨k, hk, rfl, HQ⟩ := hrel
          by_cases hlt : k < cn
          · have hkC : k < C.length := by have := HCL.out; omega
            obtain ⟨gc, capc, hform⟩ := HS2.out.ms.cown.form (by omega)
            simp only [Value.slice.injEq] at hform
            obtain ⟨hca, -, -⟩ := hform
            subst hca
            have c1 := cell_below HQ.out.2 (HS2.out.ms.cown.cell k hkC)
            obtain ⟨y, hy, hyb⟩ := HCN.out _ (List.getElem_mem hkC)
            have hbits := (becomes_bits (HP8.out y hy)).1 ((HI.out.cin y hy).1 (by rw [hyb]; exact List.getElem_mem hkC)).2
            have ha4 : bits BinOp.and IntKind.i64 (y.p : Int) 4 = 0 := (and_i64 y.p 4 (HP8.out y hy) (by decide)).trans (by rw [hbits.2.2]; rfl)
            rw [← hyb] at c1
            have c8 := cell_below HQ.out.2 (HS2.out.ms.at hy).2.1
            have HNY := hide ((HS2.out.ms.at hy).1.below HQ.out.2)
            have HTK : Hid ((C.take (k + 1)).map K = (C.take k).map K ++ [K y.b]) := hide (by
              rw [List.take_succ_eq_append_getElem hkC, List.map_append, hyb]
              rfl)
            have hol : ((C.take k).map K).length ≤ 20000 := by
              rw [List.length_map, List.length_take]
              omega
            clear hy hyb hbits hkC
            go_wp2_with fail
            refine (nodePaint_any y.b _ _ c8).mono ?_
            rintro e w3 ⟨rfl, rfl⟩
            go_wp2_with fail
            refine (nodeCommit_any y.b (K y.b) _ HNY.out).mono ?_
            rintro e w3 ⟨rfl, hb3⟩
            have HB23 : Hid (Below w2.heap.size w2 w3) := after HQ.out.2 hb3
            have HOWN := hide (HQ.out.1.below hb3)
            have hwz : w2.heap.size ≤ w3.heap.size := HB23.out.size
            clear c1 c8 HNY HQ hb3 ha4
            generalize K y.b = cq at *
            have HOA := hide (HOWN.out.below (w' := w3.alloc (.cells (carr cq).toArray 39)) ((Below.refl _ _).alloc (Nat.le_refl _) _))
            have HPUT : Hid (∀ g cap w', w'.ownsRow w2.heap.size 39 8 (.slice (some ⟨g, 0, none⟩) (((C.take k).map K).length + 1) cap) (((C.take k).map K).length + 1) (((C.take k).map K).flatMap carr ++ carr cq) → (w3.alloc (.cells (carr cq).toArray 39)).grownBy w' u21.ownBlock → OwnC w' w2.heap.size (.slice (some ⟨g, 0, none⟩) (((C.take k).map K).length + 1) cap) ((C.take (k + 1)).map K) ∧ Below w2.heap.size w2 w') := hide fun g cap w' h1 h2 => by
              refine ⟨by rw [HTK.out]; exact OwnC.snoc h1, HB23.out.trans ((((Keeps.refl w3 _).alloc _).trans (Keeps.of_grown h2)).below hwz (fun j hj => ?_))⟩
              obtain ⟨_, _, hB⟩ := HOWN.out.blk hj
              exact hB
            clear HTK
            generalize (C.take k).map K = oq at *
            go_wp2_with ((at_builtin; refine wpList_append_lies _ rfl _ _ 47 rfl w2.heap.size 39 i39 (.agg zeroC) 8 112 Try.underlying47 HI39.out.1 HI39.out.2.1 HI39.out.2.2.1 HI39.out.2.2.2 rfl (by decide) u21 oq.length (oq.flatMap carr) rfl HOA.out ⟨w3.heap.size, 0, none⟩ 1 1 (carr cq) rfl rfl (World.news_of_block (Blk.new w3 39 (carr cq).toArray)) (by simp [carr, Value.oneCell']) (by decide) (by unfold maxLen; omega) (by omega) (by simp only [World.size_alloc]; omega) (w3.heap.size + 1) (by simp only [World.size_alloc]) ?_; intro g4 cap4 w5 hown hgrow hat hlt4; have HE := hide (HPUT.out g4 cap4 w5 hown hgrow); clear hown hgrow hat hlt4))
            go_roundw
            case rel => exact ⟨k + 1, by omega, by go_num, HE.out⟩
            case measure => simp [intOf]; omega
          · have hkc : k = cn := by omega
            clear hlt hk
            subst hkc
            have HOW : Hid (OwnC wr w2.heap.size u21 (C.map K)) := hide (by
              have h1 := HQ.out.1
              rw [List.take_of_length_le (by have := HCL.out; omega)] at h1
              exact h1)
            have HB2R := hide HQ.out.2
            have HSRT := hide (sort_any HOW.out (by rw [List.length_map, ← HCL.out]; omega))
            obtain ⟨ga, gcp, hgv⟩ : ∃ ga gc, u21 = .slice ga k gc := by
              rcases HOW.out.form with ⟨rfl, h0⟩ | ⟨g, cap, rfl, _⟩
              · have h1 : C.length = 0 := by
                  have := congrArg List.length h0
                  simpa using this
                exact ⟨none, 0, by rw [HCL.out, h1]⟩
              · exact ⟨_, cap, by rw [List.length_map, ← HCL.out]⟩
            subst hgv
            clear HQ
            go_wp2_with fail
            refine HSRT.out.mono ?_
            rintro e w6 ⟨rfl, L1, hperm, hsort, hvv, hk6⟩
            have hL := HPERM.out L1 hperm hsort
            have hlen : L2.length = k := by
              rw [← hL, hperm.length_eq, List.length_map, ← HCL.out]
            have HB26 : Hid (Below w2.heap.size w2 w6) := hide (HB2R.out.trans (hk6.below HB2R.out.size (fun j hj => by
              obtain ⟨_, _, hB⟩ := HOW.out.blk hj
              exact hB)))
            have HV6 : Hid (L2 = [] ∨ ∃ g g', ga = some ⟨g, 0, none⟩ ∧ va = some ⟨g', 0, none⟩ ∧ CRow w6 g L2 ∧ CRow w6 g' L2) := hide (by
              rcases HV.out with e | ⟨g', e', hr'⟩
              · exact .inl e
              · rcases hvv with e | ⟨g, cap, e, hr⟩
                · exact .inl (hL ▸ e)
                · simp only [Value.slice.injEq] at e
                  exact .inr ⟨g, g', e.1, e', hL ▸ hr, hr'.below HB26.out⟩)
            rw [hlen]
            have HLEN := hide hlen
            have t1 : (((k : Nat) : Int) != ((k : Nat) : Int)) = false := by simp
            clear hL hlen hperm hsort hvv hk6 HSRT HOW HB2R HV HPERM HS2 HI HP8 HK HCN HI39
            go_wp2_with fail
            clear t1
            go_loopw [24] (fun i wx => ∃ q : Nat, q ≤ k ∧ i = .int .i64 q ∧ Hid (Below w6.heap.size w6 wx)) (fun i _ => k - (intOf i).toNat)
            case atStart => exact ⟨0, Nat.zero_le _, rfl, Below.refl _ _⟩
            case round =>
              obtain ⟨q, hq, rfl, HBQ⟩ := hrel
              by_cases hql : q < k
              · have hqL : q < L2.length := by have := HLEN.out; omega
                obtain ⟨g1, g2, e1, e2, hr1, hr2⟩ := HV6.out.resolve_left (fun e => by rw [e] at hqL; simp at hqL)
                subst e1
                subst e2
                have HA1 := hide ((hr1.below HBQ.out.drew).at hqL)
                have HA2 := hide ((hr2.below HBQ.out.drew).at hqL)
                have HPC : Hid (Par wr.drew L2[q]) := hide ((((HPBG.out.par _ (HLM.out _ (List.getElem_mem hqL))).1.below HB120.out).below HB02.out).below (after HB26.out HBQ.out.drew))
                generalize L2[q] = cy at *
                obtain ⟨s0, s1, s2, s3, s4, s5, s6, s7⟩ := HA1.out
                obtain ⟨z0, z1, z2, z3, z4, z5, z6, z7⟩ := HA2.out
                clear hr1 hr2 hqL
                go_upto_region 67 with fail
                go_region_held3 (fun w' => (w'.cell? ⟨g1, q * 8, none⟩ = some (.string cy.id) ∧ w'.cell? ⟨g1, q * 8 + 1, none⟩ = some (.slice cy.pa cy.pn cy.pc) ∧ w'.cell? ⟨g1, q * 8 + 2, none⟩ = some (.string cy.com) ∧ w'.cell? ⟨g1, q * 8 + 3, none⟩ = some (.string cy.msg) ∧ w'.cell? ⟨g1, q * 8 + 4, none⟩ = some (.int .i64 cy.cr) ∧ w'.cell? ⟨g1, q * 8 + 5, none⟩ = some (.map none) ∧ w'.cell? ⟨g1, q * 8 + 6, none⟩ = some (.string cy.mr) ∧ w'.cell? ⟨g1, q * 8 + 7, none⟩ = some (.int .i64 cy.gen)) ∧ (w'.cell? ⟨g2, q * 8, none⟩ = some (.string cy.id) ∧ w'.cell? ⟨g2, q * 8 + 1, none⟩ = some (.slice cy.pa cy.pn cy.pc) ∧ w'.cell? ⟨g2, q * 8 + 2, none⟩ = some (.string cy.com) ∧ w'.cell? ⟨g2, q * 8 + 3, none⟩ = some (.string cy.msg) ∧ w'.cell? ⟨g2, q * 8 + 4, none⟩ = some (.int .i64 cy.cr) ∧ w'.cell? ⟨g2, q * 8 + 5, none⟩ = some (.map none) ∧ w'.cell? ⟨g2, q * 8 + 6, none⟩ = some (.string cy.mr) ∧ w'.cell? ⟨g2, q * 8 + 7, none⟩ = some (.int .i64 cy.gen))) (with_reducible first | exact ⟨⟨s0, s1, s2, s3, s4, s5, s6, s7⟩, ⟨z0, z1, z2, z3, z4, z5, z6, z7⟩⟩ | exact ⟨⟨i0, i1, i2, i3, i4, i5, i6, i7⟩, ⟨j0, j1, j2, j3, j4, j5, j6, j7⟩⟩) ((go_at_call 16; refine (same_any cy _ HPC.out).mono ?_; rintro e w8 ⟨rfl, hb8⟩; have HB8 := hide hb8; obtain ⟨i0, i1, i2, i3, i4, i5, i6, i7⟩ := HA1.out.below hb8; obtain ⟨j0, j1, j2, j3, j4, j5, j6, j7⟩ := HA2.out.below hb8; clear hb8))
                have HB68 : Hid (Below w6.heap.size w6 w8) := after HBQ.out.drew HB8.out
                clear i0 i1 i2 i3 i4 i5 i6 i7 j0 j1 j2 j3 j4 j5 j6 j7 s0 s1 s2 s3 s4 s5 s6 s7 z0 z1 z2 z3 z4 z5 z6 z7 HA1 HA2 HPC HB8
                go_wp2_with fail
                go_roundw
                case rel => exact ⟨q + 1, by omega, by go_num, HB68.out⟩
                case measure => simp [intOf]; omega
              · have HFIN : Hid (Below w.heap.size w wr) := after (after (after (after HB012.out HB120.out) HB02.out) HB26.out) HBQ.out
                clear hq
                go_wp2_with fail
                go_ret
                exact ⟨rfl, HFIN.out⟩
end Go.Proofs.Qxb6605835a
