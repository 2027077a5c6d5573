import Derived.Test.Qxb6605835aF3P
import Derived.Test.Qxb6605835aHoldsW
namespace Go.Proofs.Qxb6605835a
open Go.ChangeShapes Go.WideShapes Go.ChangeAt Go.RowKit
set_option linter.unusedVariables false

set_option maxHeartbeats 20000000 in
set_option maxRecDepth 20000 in
theorem f3_any (a b : Cm) (ta : Option Addr) (tc : Nat) (T : List Cm) (w : World) (ha : ParA w a) (hb : ParA w b) (hT : TabA w ta T) :
    Calls Try.prog 3 #[zval a, zval b, .slice ta T.length tc] w fun e w' => e = .returned (.bool true) ∧ Below w.heap.size w w' := by
  have hTl := hT.1
  have HB2 : Hid (Below w.heap.size w ((w.alloc (.cells (zarr a) 24)).alloc (.cells (zarr b) 24))) := ((Below.refl _ _).alloc (Nat.le_refl _) _).alloc (by simp only [World.size_alloc]; omega) _
  have HXA : Hid (Blk ((w.alloc (.cells (zarr a) 24)).alloc (.cells (zarr b) 24)) w.heap.size 24 (zarr a)) := (Blk.new w 24 (zarr a)).alloc _
  have HXB : Hid (Blk ((w.alloc (.cells (zarr a) 24)).alloc (.cells (zarr b) 24)) (w.heap.size + 1) 24 (zarr b)) := hide (by
    have := Blk.new (w.alloc (.cells (zarr a) 24)) 24 (zarr b)
    rw [World.size_alloc] at this
    exact this)
  have HC5 := hide (bytes5_any a b ta tc T _ (ha.below HB2.out) (hb.below HB2.out) (hT.below HB2.out))
  have HA := hide ha
  have HBP := hide hb
  have HT := hide hT
  clear ha hb hT
  go_enter Try.func3, Try.ntmps3
  go_wp2_with fail
  obtain ⟨W2, hW2⟩ : ∃ W2, W2 = (w.alloc (.cells (zarr a) 24)).alloc (.cells (zarr b) 24) := ⟨_, rfl⟩
  obtain ⟨ba, hba⟩ : ∃ ba, ba = w.heap.size := ⟨_, rfl⟩
  obtain ⟨bb, hbb⟩ : ∃ bb, bb = w.heap.size + 1 := ⟨_, rfl⟩
  have hsz : W2.heap.size = w.heap.size + 2 := by rw [hW2]; simp only [World.size_alloc]
  rw [← hW2] at HB2 HXA HXB HC5
  rw [← hba] at HXA
  rw [← hbb] at HXB
  rw [← hW2]
  rw [← hbb]
  rw [← hba]
  have HBA : Hid (ba = w.heap.size ∧ bb = w.heap.size + 1 ∧ W2.heap.size = w.heap.size + 2) := hide ⟨hba, hbb, hsz⟩
  clear hW2 hba hbb hsz
  refine HC5.out.mono ?_
  rintro e w3 ⟨⟨r, rfl⟩, hb3⟩
  have HB3 := hide hb3
  have HB03 : Hid (Below w.heap.size w w3) := after HB2.out hb3
  clear hb3 HC5
  cases r with
  | false =>
    go_wp2_with fail
    go_ret
    exact ⟨rfl, HB03.out⟩
  | true =>
    have hA3 := HXA.out.below HB3.out.drew HXA.out.lt
    have hB3 := HXB.out.below HB3.out.drew HXB.out.lt
    obtain ⟨⟨x0, x1, x2, x3, x4, x5, x6⟩, -⟩ := cells7 hA3
    obtain ⟨⟨y0, y1, y2, y3, y4, y5, y6⟩, -⟩ := cells7 hB3
    have HXA3 := hide hA3
    have HXB3 := hide hB3
    have hb03 : Below w.heap.size w w3.drew := HB03.out.drew
    have HPA := hide (HA.out.below hb03)
    have HPB := hide (HBP.out.below hb03)
    have HPT := hide (HT.out.below hb03)
    have HC7 := hide (addCommit_any 0 a _ ⟨by decide, by decide⟩ HPA.out)
    have HC8 : Hid (∀ (r1 : Int) (w4 : World), 0 ≤ r1 → r1 ≤ 4194304 → Below w3.drew.heap.size w3.drew w4 → Calls Try.prog 7 #[.int .i64 r1, zval b] w4 fun e w' => (∃ r, 0 ≤ r ∧ r ≤ 4194304 ∧ e = .returned (.int .i64 r)) ∧ Below w4.heap.size w4 w') := hide fun r1 w4 h1 h2 h3 => addCommit_any r1 b _ ⟨h1, h2⟩ (HPB.out.below h3)
    have HC6 : Hid (∀ (r1 : Int) (w4 : World), 0 ≤ r1 → r1 ≤ 4194304 → Below w3.drew.heap.size w3.drew w4 → Calls Try.prog 6 #[.int .i64 r1, .slice ta T.length tc] w4 fun e w' => (∃ r, 0 ≤ r ∧ r ≤ 4194304 ∧ e = .returned (.int .i64 r)) ∧ Below w4.heap.size w4 w') := hide fun r1 w4 h1 h2 h3 => addTable_any r1 ta tc T _ ⟨h1, h2⟩ (HPT.out.below h3)
    clear hA3 hB3 hb03 HPA HPB HPT
    go_upto_region 3 with fail
    go_region_held3 (fun w' => (w'.cell? ⟨ba, 0, none⟩ = some (.string a.id) ∧ w'.cell? ⟨ba, 1, none⟩ = some (.slice a.pa a.pn a.pc) ∧ w'.cell? ⟨ba, 2, none⟩ = some (.string a.com) ∧ w'.cell? ⟨ba, 3, none⟩ = some (.string a.msg) ∧ w'.cell? ⟨ba, 4, none⟩ = some (.int .i64 a.cr) ∧ w'.cell? ⟨ba, 5, none⟩ = some (.string a.mr) ∧ w'.cell? ⟨ba, 6, none⟩ = some (.int .i64 a.gen)) ∧ (w'.cell? ⟨bb, 0, none⟩ = some (.string b.id) ∧ w'.cell? ⟨bb, 1, none⟩ = some (.slice b.pa b.pn b.pc) ∧ w'.cell? ⟨bb, 2, none⟩ = some (.string b.com) ∧ w'.cell? ⟨bb, 3, none⟩ = some (.string b.msg) ∧ w'.cell? ⟨bb, 4, none⟩ = some (.int .i64 b.cr) ∧ w'.cell? ⟨bb, 5, none⟩ = some (.string b.mr) ∧ w'.cell? ⟨bb, 6, none⟩ = some (.int .i64 b.gen))) (with_reducible first | exact ⟨⟨x0, x1, x2, x3, x4, x5, x6⟩, ⟨y0, y1, y2, y3, y4, y5, y6⟩⟩ | exact ⟨⟨xa0, xa1, xa2, xa3, xa4, xa5, xa6⟩, ⟨ya0, ya1, ya2, ya3, ya4, ya5, ya6⟩⟩ | exact ⟨⟨xb0, xb1, xb2, xb3, xb4, xb5, xb6⟩, ⟨yb0, yb1, yb2, yb3, yb4, yb5, yb6⟩⟩ | exact ⟨⟨xc0, xc1, xc2, xc3, xc4, xc5, xc6⟩, ⟨yc0, yc1, yc2, yc3, yc4, yc5, yc6⟩⟩) ((first | (go_at_call 6; refine (HC6.out r2 w5 h2a h2b HB5.out).mono ?_; rintro e w6 ⟨⟨r3, h3a, h3b, rfl⟩, hb6⟩; have HB6 := hide (after HB5.out hb6); clear hb6; obtain ⟨⟨xc0, xc1, xc2, xc3, xc4, xc5, xc6⟩, -⟩ := cells7 (HXA3.out.below HB6.out HXA3.out.lt); obtain ⟨⟨yc0, yc1, yc2, yc3, yc4, yc5, yc6⟩, -⟩ := cells7 (HXB3.out.below HB6.out HXB3.out.lt)) | (go_at_call 7; refine (HC8.out r1 w4 h1a h1b HB4.out).mono ?_; rintro e w5 ⟨⟨r2, h2a, h2b, rfl⟩, hb5⟩; have HB5 := hide (after HB4.out hb5); clear hb5; obtain ⟨⟨xb0, xb1, xb2, xb3, xb4, xb5, xb6⟩, -⟩ := cells7 (HXA3.out.below HB5.out HXA3.out.lt); obtain ⟨⟨yb0, yb1, yb2, yb3, yb4, yb5, yb6⟩, -⟩ := cells7 (HXB3.out.below HB5.out HXB3.out.lt)) | (go_at_call 7; refine HC7.out.mono ?_; rintro e w4 ⟨⟨r1, h1a, h1b, rfl⟩, hb4⟩; have HB4 := hide hb4; obtain ⟨⟨xa0, xa1, xa2, xa3, xa4, xa5, xa6⟩, -⟩ := cells7 (HXA3.out.below hb4 HXA3.out.lt); obtain ⟨⟨ya0, ya1, ya2, ya3, ya4, ya5, ya6⟩, -⟩ := cells7 (HXB3.out.below hb4 HXB3.out.lt); clear hb4)))
    clear x0 x1 x2 x3 x4 x5 x6 y0 y1 y2 y3 y4 y5 y6 xa0 xa1 xa2 xa3 xa4 xa5 xa6 ya0 ya1 ya2 ya3 ya4 ya5 ya6 xb0 xb1 xb2 xb3 xb4 xb5 xb6 yb0 yb1 yb2 yb3 yb4 yb5 yb6 xc0 xc1 xc2 xc3 xc4 xc5 xc6 yc0 yc1 yc2 yc3 yc4 yc5 yc6
    have hb06 : Below w.heap.size w w6 := after HB03.out.drew HB6.out
    have HXA6 := hide (HXA3.out.below HB6.out HXA3.out.lt)
    have HXB6 := hide (HXB3.out.below HB6.out HXB3.out.lt)
    have HB06 := hide hb06
    clear hb06 HXA3 HXB3 HB4 HB5 HB6 HC7 HC8 HC6 HB3 HXA HXB HB2
    by_cases hr : 1048576 < r3
    · as_aux_lemma =>
      go_wp2_with fail
      go_ret
      exact ⟨rfl, HB06.out⟩
    obtain ⟨x0, x1, x2, x3, x4, x5, x6⟩ := (cells7 HXA6.out).1
    obtain ⟨y0, y1, y2, y3, y4, y5, y6⟩ := (cells7 HXB6.out).1
    by_cases hn : 256 < T.length
    · as_aux_lemma =>
      go_wp2_with fail
      go_ret
      exact ⟨rfl, HB06.out⟩
    have HC8 := hide (refs_any a b ta tc T w6 (HT.out.below HB06.out))
    go_wp2_with fail
    refine HC8.out.mono ?_
    rintro e w7 ⟨⟨r, rfl, hr2⟩, hb7⟩
    have HB07 : Hid (Below w.heap.size w w7) := after HB06.out hb7
    have HXA7 := hide (HXA6.out.below hb7 HXA6.out.lt)
    have HXB7 := hide (HXB6.out.below hb7 HXB6.out.lt)
    clear hb7 x0 x1 x2 x3 x4 x5 x6 y0 y1 y2 y3 y4 y5 y6 HC8 HXA6 HXB6 HB06
    by_cases hr4 : 256 < r
    · as_aux_lemma =>
      clear hr2
      go_wp2_with fail
      go_ret
      exact ⟨rfl, HB07.out⟩
    have hsum : a.pn + b.pn + refsOf T ≤ 256 := by
      have := hr2 (by omega)
      omega
    clear hr2
    obtain ⟨x0, x1, x2, x3, x4, x5, x6⟩ := (cells7 HXA7.out).1
    have HC9 := hide (cloneZ_any a w7 (HA.out.below HB07.out) (by omega))
    go_wp2_with fail
    refine HC9.out.mono ?_
    rintro e w8 ⟨a', rfl, hb8, hca⟩
    have hA8 := HXA7.out.below hb8 HXA7.out.lt
    have hB8 := HXB7.out.below hb8 HXB7.out.lt
    have hne : ba ≠ bb := by have := HBA.out; omega
    have HRN := hide (renew a' hA8 hB8 hne)
    have HB08 : Hid (Below w.heap.size w w8) := after HB07.out hb8
    have HW78 : Hid (w7.heap.size ≤ w8.heap.size) := hide hb8.size
    have HS7 : Hid (w.heap.size + 2 ≤ w7.heap.size) := hide (by
      have := HXB7.out.lt
      have := HBA.out
      omega)
    have HCA := hide hca
    clear x0 x1 x2 x3 x4 x5 x6
    obtain ⟨⟨x0, x1, x2, x3, x4, x5, x6⟩, ⟨f0, f1, f2, f3, f4, f5, f6⟩⟩ := cells7 hA8
    obtain ⟨y0, y1, y2, y3, y4, y5, y6⟩ := (cells7 hB8).1
    clear hA8 hB8 hca hb8 HC9 HXA7 HXB7
    go_wp2_with fail
    clear x0 x1 x2 x3 x4 x5 x6 f0 f1 f2 f3 f4 f5 f6 y0 y1 y2 y3 y4 y5 y6
    obtain ⟨W9, hW9⟩ : ∃ W9, W9 = (((((((w8.setCell ⟨ba, 0, none⟩ (.string a'.id)).setCell ⟨ba, 1, none⟩ (.slice a'.pa a'.pn a'.pc)).setCell ⟨ba, 2, none⟩ (.string a'.com)).setCell ⟨ba, 3, none⟩ (.string a'.msg)).setCell ⟨ba, 4, none⟩ (.int .i64 a'.cr)).setCell ⟨ba, 5, none⟩ (.string a'.mr)).setCell ⟨ba, 6, none⟩ (.int .i64 a'.gen)) := ⟨_, rfl⟩
    rw [← hW9]
    have HRN9 : Hid (Blk W9 ba 24 (zarr a') ∧ Blk W9 bb 24 (zarr b) ∧ Keeps w8 W9 (· = ba)) := hide (by rw [hW9]; exact HRN.out)
    have HB09 : Hid (Below w.heap.size w W9) := hide (HB08.out.trans (HRN9.out.2.2.below HB08.out.size (fun k e => by have := HBA.out; omega)))
    have HPA9 : Hid (Par W9 a') := hide (HCA.out.2.2.2.1.kept HRN9.out.2.2 (fun p hp => by
      have h1 := HCA.out.2.2.2.2 p hp
      have h2 := HBA.out
      have h3 := HS7.out
      omega))
    have HC9 := hide (cloneZ_any b W9 (HBP.out.below HB09.out) (by omega))
    clear hW9 HRN
    refine HC9.out.mono ?_
    rintro e w10 ⟨b', rfl, hb10, hcb⟩
    have hA10 := HRN9.out.1.below hb10 HRN9.out.1.lt
    have hB10 := HRN9.out.2.1.below hb10 HRN9.out.2.1.lt
    have HRN := hide (renew b' hB10 hA10 hne.symm)
    have HB010 : Hid (Below w.heap.size w w10) := after HB09.out hb10
    have HPA10 := hide (HPA9.out.below hb10)
    have HS9 : Hid (w.heap.size + 2 ≤ W9.heap.size) := hide (Nat.le_trans HS7.out (Nat.le_trans HW78.out HRN9.out.2.2.size))
    have HCB := hide hcb
    obtain ⟨⟨y0, y1, y2, y3, y4, y5, y6⟩, ⟨f0, f1, f2, f3, f4, f5, f6⟩⟩ := cells7 hB10
    clear hA10 hB10 hcb hb10 HC9 HPA9 HRN9
    go_wp2_with fail
    clear f0 f1 f2 f3 f4 f5 f6 y0 y1 y2 y3 y4 y5 y6
    obtain ⟨W11, hW11⟩ : ∃ W11, W11 = (((((((w10.setCell ⟨bb, 0, none⟩ (.string b'.id)).setCell ⟨bb, 1, none⟩ (.slice b'.pa b'.pn b'.pc)).setCell ⟨bb, 2, none⟩ (.string b'.com)).setCell ⟨bb, 3, none⟩ (.string b'.msg)).setCell ⟨bb, 4, none⟩ (.int .i64 b'.cr)).setCell ⟨bb, 5, none⟩ (.string b'.mr)).setCell ⟨bb, 6, none⟩ (.int .i64 b'.gen)) := ⟨_, rfl⟩
    rw [← hW11]
    have HRN11 : Hid (Blk W11 bb 24 (zarr b') ∧ Blk W11 ba 24 (zarr a') ∧ Keeps w10 W11 (· = bb)) := hide (by rw [hW11]; exact HRN.out)
    have HB011 : Hid (Below w.heap.size w W11) := hide (HB010.out.trans (HRN11.out.2.2.below HB010.out.size (fun k e => by have := HBA.out; omega)))
    have HPA11 : Hid (Par W11 a') := hide (HPA10.out.kept HRN11.out.2.2 (fun p hp => by
      have h1 := HCA.out.2.2.2.2 p hp
      have h2 := HBA.out
      have h3 := HS7.out
      omega))
    have HPB11 : Hid (Par W11 b') := hide (HCB.out.2.2.2.1.kept HRN11.out.2.2 (fun p hp => by
      have h1 := HCB.out.2.2.2.2 p hp
      have h2 := HBA.out
      have h3 := HS9.out
      omega))
    have HC10 := hide (cloneTable_any ta tc T W11 (HT.out.below HB011.out) (by omega) (by omega))
    clear hW11 HRN HPA10 HB010 HS7 HS9 HB08 HB09
    refine HC10.out.mono ?_
    rintro e w12 ⟨ta', tc', T', rfl, hTl', hTr', htab, hpT, hb12⟩
    have HB012 : Hid (Below w.heap.size w w12) := after HB011.out hb12
    have HXA12 := hide (HRN11.out.2.1.below hb12 HRN11.out.2.1.lt)
    have HXB12 := hide (HRN11.out.1.below hb12 HRN11.out.1.lt)
    have HPA12 := hide (HPA11.out.below hb12)
    have HPB12 := hide (HPB11.out.below hb12)
    have HTAB := hide htab
    have HPT := hide hpT
    have hTl2 : T'.length ≤ 256 := by omega
    have hsum2 : a'.pn + b'.pn + refsOf T' ≤ 256 := by
      have h1 : a'.pn = a.pn := HCA.out.2.1
      have h2 : b'.pn = b.pn := HCB.out.2.1
      omega
    have HC11 := hide (known_any a' b' ta' tc' T' w12 HPA12.out HPB12.out htab hpT (by omega))
    clear hTl' hTr'
    clear hb12 htab hpT HC10 HRN11 HPA11 HPB11 HB011
    obtain ⟨x0, x1, x2, x3, x4, x5, x6⟩ := (cells7 HXA12.out).1
    obtain ⟨y0, y1, y2, y3, y4, y5, y6⟩ := (cells7 HXB12.out).1
    go_wp2_with fail
    refine HC11.out.mono ?_
    rintro e w13 ⟨v, rfl, l, how, hinv, hb13⟩
    clear x0 x1 x2 x3 x4 x5 x6 y0 y1 y2 y3 y4 y5 y6
    have hal : a'.id ∈ l := hinv.2.2 _ (by simp)
    have hbl : b'.id ∈ l := hinv.2.2 _ (by simp)
    obtain ⟨kb, kc, hv, hkc⟩ : ∃ kb kc, v = .slice (some ⟨kb, 0, none⟩) l.length kc ∧ ∀ i (hi : i < l.length), w13.cell? ⟨kb, i, none⟩ = some (.string l[i]) := by
      rcases how.form with ⟨_, h0⟩ | ⟨kb, kc, hv, _, hkc⟩
      · rw [h0] at hal; simp at hal
      · exact ⟨kb, kc, hv, hkc⟩
    subst hv
    have hll : l.length ≤ 1000 := by
      have h1 := hinv.2.1
      have h2 := tabIds_len T' (fun c hc => (HPT.out c hc).1)
      have h3 := HPA12.out.1
      have h4 := HPB12.out.1
      simp only [List.length_append, List.length_cons, List.length_nil] at h1
      omega
    have HB013 : Hid (Below w.heap.size w w13) := after HB012.out hb13
    have HXA13 := hide (HXA12.out.below hb13 HXA12.out.lt)
    have HXB13 := hide (HXB12.out.below hb13 HXB12.out.lt)
    have HPA13 := hide (HPA12.out.below hb13)
    have HPB13 := hide (HPB12.out.below hb13)
    have HTAB13 := hide (HTAB.out.below hb13)
    have HPT13 : Hid (∀ c ∈ T', Par w13 c) := hide fun c hc => (HPT.out c hc).below hb13
    have HKC := hide hkc
    have HINV := hide hinv
    have HAL := hide hal
    have HBL := hide hbl
    obtain ⟨n, hn2⟩ : ∃ n, n = l.length := ⟨_, rfl⟩
    rw [← hn2] at hll ⊢
    have HNL := hide hn2
    clear hb13 hkc hinv hal hbl how hn2 HC11 HXA12 HXB12 HPA12 HPB12 HTAB HPT HB012
    -- the store
    have HB14 : Hid (Below w13.heap.size w13 (w13.alloc (.cells #[.slice ta' T'.length tc'] 35))) := (Below.refl _ _).alloc (Nat.le_refl _) _
    have HSB : Hid (Blk (w13.alloc (.cells #[.slice ta' T'.length tc'] 35)) w13.heap.size 35 #[.slice ta' T'.length tc']) := Blk.new w13 35 _
    obtain ⟨x0, x1, x2, x3, x4, x5, x6⟩ := (cells7 (HXA13.out.below HB14.out HXA13.out.lt)).1
    have HC12 := hide (toCommit_any a' (w13.alloc (.cells #[.slice ta' T'.length tc'] 35)))
    go_wp2_with fail
    refine HC12.out.mono ?_
    rintro e w15 ⟨rfl, hb15⟩
    obtain ⟨W14, hW14⟩ : ∃ W14, W14 = w13.alloc (.cells #[.slice ta' T'.length tc'] 35) := ⟨_, rfl⟩
    obtain ⟨sb, hsb⟩ : ∃ sb, sb = w13.heap.size := ⟨_, rfl⟩
    rw [← hW14] at HB14 HSB hb15
    rw [← hsb] at HSB ⊢
    clear x0 x1 x2 x3 x4 x5 x6 HC12 hW14 hsb
    -- a's commit
    have HB16 : Hid (Below w13.heap.size w13 (w15.alloc (boxed a'))) := after HB14.out (hb15.alloc hb15.size _)
    have HCA16 : Hid (Blk (w15.alloc (boxed a')) w15.heap.size 39 #[.string a'.id, .slice a'.pa a'.pn a'.pc, .string a'.com, .string a'.msg, .int .i64 a'.cr, .map none, .string a'.mr, .int .i64 a'.gen]) := Blk.new w15 39 _
    have HSB16 := hide ((HSB.out.below hb15 HSB.out.lt).alloc (boxed a'))
    obtain ⟨y0, y1, y2, y3, y4, y5, y6⟩ := (cells7 (HXB13.out.below HB16.out HXB13.out.lt)).1
    have HC12 := hide (toCommit_any b' (w15.alloc (boxed a')))
    clear hb15 HSB HB14
    go_wp2_with fail
    refine HC12.out.mono ?_
    rintro e w17 ⟨rfl, hb17⟩
    obtain ⟨W16, hW16⟩ : ∃ W16, W16 = w15.alloc (boxed a') := ⟨_, rfl⟩
    obtain ⟨b9, hb9⟩ : ∃ b9, b9 = w15.heap.size := ⟨_, rfl⟩
    rw [← hW16] at HB16 HCA16 HSB16 hb17
    rw [← hb9] at HCA16 ⊢
    clear y0 y1 y2 y3 y4 y5 y6 HC12 hW16 hb9
    -- b's commit
    have HB18 : Hid (Below w13.heap.size w13 (w17.alloc (boxed b'))) := after HB16.out (hb17.alloc hb17.size _)
    have HCB18 : Hid (Blk (w17.alloc (boxed b')) w17.heap.size 39 #[.string b'.id, .slice b'.pa b'.pn b'.pc, .string b'.com, .string b'.msg, .int .i64 b'.cr, .map none, .string b'.mr, .int .i64 b'.gen]) := Blk.new w17 39 _
    have HCA18 := hide ((HCA16.out.below hb17 HCA16.out.lt).alloc (boxed b'))
    have HSB18 := hide ((HSB16.out.below hb17 HSB16.out.lt).alloc (boxed b'))
    obtain ⟨⟨x0, x1, x2, x3, x4, x5, x6, x7⟩, -⟩ := cells8 HCA18.out
    clear hb17 HSB16 HB16 HCA16
    have HC13 := hide (startWalk_any sb a' b' (w17.alloc (boxed b')))
    go_wp2_with fail
    clear x0 x1 x2 x3 x4 x5 x6 x7
    obtain ⟨w0, hw0⟩ : ∃ w0, w0 = w17.alloc (boxed b') := ⟨_, rfl⟩
    obtain ⟨b10, hb10⟩ : ∃ b10, b10 = w17.heap.size := ⟨_, rfl⟩
    rw [← hw0] at HB18 HCB18 HCA18 HSB18 HC13
    rw [← hb10] at HCB18
    rw [← hw0, ← hb10]
    clear hw0 hb10
    refine HC13.out.mono ?_
    rintro e w19 ⟨wb, mb, qv, K, N, Q, ung, rfl, hs19, hb19, hst⟩
    have hlaw := start_law HINV.out (HSB18.out.cell 0) (HTAB13.out.below HB18.out) hTl2 (fun c hc => (HPT13.out c hc).below HB18.out) (HPA13.out.below HB18.out) (HPB13.out.below HB18.out) hsum2 (by have := HNL.out; omega) hs19 hb19 hst
    have HLT := hide hlaw.1
    have HL3 := hide hlaw.2.1
    have HIDS := hide hlaw.2.2
    have HSA := hide (hst.at HINV.out.1 HAL.out HBL.out)
    have hia := ix_lt.2 HAL.out
    have hib := ix_lt.2 HBL.out
    have hza : ixZ l a'.id = ((ix l a'.id : Nat) : Int) := by unfold ixZ; rw [if_pos hia]
    have hzb : ixZ l b'.id = ((ix l b'.id : Nat) : Int) := by unfold ixZ; rw [if_pos hib]
    have HS19 := hide hs19
    have HB19 := hide hb19
    have HB0 : Hid (Below w.heap.size w w0) := after HB013.out HB18.out
    have HKC0 : Hid (∀ i (hi : i < l.length), w0.cell? ⟨kb, i, none⟩ = some (.string l[i])) := hide fun i hi => cell_below HB18.out (HKC.out i hi)
    have HXA0 := hide (HXA13.out.below HB18.out HXA13.out.lt)
    have HXB0 := hide (HXB13.out.below HB18.out HXB13.out.lt)
    have HPA0 := hide (HPA13.out.below HB18.out)
    have HPB0 := hide (HPB13.out.below HB18.out)
    have HKC19 : Hid (∀ i (hi : i < l.length), w19.cell? ⟨kb, i, none⟩ = some (.string l[i])) := hide fun i hi => cell_below hb19 (HKC0.out i hi)
    have HIA := hide (index_some kb kc l a'.id w19 HKC19.out (by have := HNL.out; omega))
    have HIB := hide (index_some kb kc l b'.id w19 HKC19.out (by have := HNL.out; omega))
    rw [hza, ← HNL.out] at HIA
    rw [hzb, ← HNL.out] at HIB
    obtain ⟨ia, hia'⟩ : ∃ ia, ia = ix l a'.id := ⟨_, rfl⟩
    obtain ⟨ib, hib'⟩ : ∃ ib, ib = ix l b'.id := ⟨_, rfl⟩
    rw [← hia', ← hib'] at HSA
    rw [← hia'] at HIA hia
    rw [← hib'] at HIB hib
    rw [← HNL.out] at hia hib
    obtain ⟨x0, -, -, -, -, -, -⟩ := (cells7 (HXA0.out.below hb19 HXA0.out.lt)).1
    obtain ⟨y0, -, -, -, -, -, -⟩ := (cells7 (HXB0.out.below hb19 HXB0.out.lt)).1
    clear hlaw hst hza hzb hs19 hb19 hia' hib' HC13 HB18 HSB18 HXA13 HXB13 HPA13 HPB13 HTAB13 HPT13 HKC HINV HAL HBL HB013 HA HBP HT HCA HCB hr hr4 hn hsum hTl HBA HB03 HB07 HW78 hne h1a h1b h2a h2b h3a h3b
    go_wp2_with fail
    refine HIA.out.mono ?_
    rintro e w20 ⟨rfl, rfl⟩
    go_wp2_with fail
    refine HIB.out.mono ?_
    rintro e w20 ⟨rfl, rfl⟩
    have HTK := hide (take_some _ wb mb kb kc n _ _ _ K N Q [] ung l w19 HS19.out HNL.out HKC19.out (by omega))
    clear HIA HIB x0 y0 HKC19
    go_wp2_with fail
    refine HTK.out.mono ?_
    rintro e w20 ⟨g0, g1, g2, g3, g4, A0, A1, A2, A3, A4, rfl, hr20, hb20, -, -, -, -, -⟩
    rw [← HNL.out] at hr20 ⊢
    have HB21 : Hid (Below w19.heap.size w19 (w20.alloc (.cells #[sl g0 n, sl g1 n, sl g2 n, sl g3 n, sl g4 n] 49))) := hb20.alloc hb20.size _
    have HPB21 : Hid (Blk (w20.alloc (.cells #[sl g0 n, sl g1 n, sl g2 n, sl g3 n, sl g4 n] 49)) w20.heap.size 49 #[sl g0 n, sl g1 n, sl g2 n, sl g3 n, sl g4 n]) := Blk.new w20 49 _
    have HR21 := hide (hr20.below (w' := w20.alloc (.cells #[sl g0 n, sl g1 n, sl g2 n, sl g3 n, sl g4 n] 49)) ((Below.refl _ _).alloc (Nat.le_refl _) _))
    clear hr20 hb20 HTK
    go_upto_region 18 with fail
    obtain ⟨W21, hW21⟩ : ∃ W21, W21 = w20.alloc (.cells #[sl g0 n, sl g1 n, sl g2 n, sl g3 n, sl g4 n] 49) := ⟨_, rfl⟩
    obtain ⟨b14, hb14⟩ : ∃ b14, b14 = w20.heap.size := ⟨_, rfl⟩
    rw [← hW21] at HB21 HPB21 HR21
    rw [← hb14] at HPB21
    rw [← hW21, ← hb14]
    have HB021 : Hid (Below w0.heap.size w0 W21) := after HB19.out HB21.out
    clear hW21 hb14
    go_wp2_with fail
    go_loop [15] (fun i => ∃ k : Nat, k ≤ n ∧ i = .int .i64 k) (fun i => n - (intOf i).toNat)
    case atStart => exact ⟨0, Nat.zero_le _, rfl⟩
    case round =>
      obtain ⟨k, hk, rfl⟩ := hrel
      by_cases hlt : k < n
      · as_aux_lemma =>
        have hkl : k < l.length := by have := HNL.out; omega
        have hlg : l.getD k ⟨#[]⟩ = l[k] := by simp [List.getD, hkl]
        obtain ⟨d0, -, d2, d3, -⟩ := HPB21.out.cells5
        have o1 : bits BinOp.or IntKind.i64 0 1 = 1 := by decide
        have o2 : bits BinOp.or IntKind.i64 0 2 = 2 := by decide
        have o3 : bits BinOp.or IntKind.i64 1 2 = 3 := by decide
        have q1 : ∀ o, nodeFor K N l[k] = o → W21.cell? ⟨g0, k, none⟩ = some (exV o) ∧ W21.cell? ⟨g2, k, none⟩ = some (.int .i64 (ptN o)) ∧ W21.cell? ⟨g3, k, none⟩ = some (.bool (quV o)) := fun o ho => by
          obtain ⟨a0, -, a2, a3, -⟩ := HR21.out.at hlt (o := o) (by rw [hlg, ho])
          exact ⟨a0, a2, a3⟩
        by_cases ea : k = ia
        · have ta1 : (((k : Nat) : Int) == ((ia : Nat) : Int)) = true := by simp [ea]
          by_cases eb : k = ib
          · have tb1 : (((k : Nat) : Int) == ((ib : Nat) : Int)) = true := by simp [eb]
            obtain ⟨m, hm, -⟩ := HSA.out.both (by omega) (by rw [← ea]; exact hkl)
            have hm' : nodeFor K N l[k] = some ⟨m, 3, true⟩ := by rw [← hm]; simp only [ea]
            obtain ⟨a0, a2, a3⟩ := q1 _ hm'
            simp only [exV, ptN, quV, Option.isSome] at a0 a2 a3
            clear q1 hm hm' ea eb hlg
            go_wp2_with fail
            go_round
            case rel => exact ⟨k + 1, by omega, by go_num⟩
            case measure => simp [intOf]; omega
          · have tb1 : (((k : Nat) : Int) == ((ib : Nat) : Int)) = false := by rw [beq_eq_false_iff_ne]; omega
            obtain ⟨m, hm, -⟩ := HSA.out.onlyA (by omega) (by rw [← ea]; exact hkl)
            have hm' : nodeFor K N l[k] = some ⟨m, 1, true⟩ := by rw [← hm]; simp only [ea]
            obtain ⟨a0, a2, a3⟩ := q1 _ hm'
            simp only [exV, ptN, quV, Option.isSome] at a0 a2 a3
            clear q1 hm hm' ea eb hlg
            go_wp2_with fail
            go_round
            case rel => exact ⟨k + 1, by omega, by go_num⟩
            case measure => simp [intOf]; omega
        · have ta1 : (((k : Nat) : Int) == ((ia : Nat) : Int)) = false := by rw [beq_eq_false_iff_ne]; omega
          by_cases eb : k = ib
          · have tb1 : (((k : Nat) : Int) == ((ib : Nat) : Int)) = true := by simp [eb]
            obtain ⟨m, hm, -⟩ := HSA.out.onlyB (by omega) (by rw [← eb]; exact hkl)
            have hm' : nodeFor K N l[k] = some ⟨m, 2, true⟩ := by rw [← hm]; simp only [eb]
            obtain ⟨a0, a2, a3⟩ := q1 _ hm'
            simp only [exV, ptN, quV, Option.isSome] at a0 a2 a3
            clear q1 hm hm' ea eb hlg
            go_wp2_with fail
            go_round
            case rel => exact ⟨k + 1, by omega, by go_num⟩
            case measure => simp [intOf]; omega
          · have tb1 : (((k : Nat) : Int) == ((ib : Nat) : Int)) = false := by rw [beq_eq_false_iff_ne]; omega
            have hm' : nodeFor K N l[k] = none := HSA.out.none k hkl ea eb
            obtain ⟨a0, a2, a3⟩ := q1 _ hm'
            simp only [exV, ptN, quV, Option.isSome] at a0 a2 a3
            clear q1 hm' ea eb hlg
            go_wp2_with fail
            go_round
            case rel => exact ⟨k + 1, by omega, by go_num⟩
            case measure => simp [intOf]; omega
      · have HCOM_a : Hid (CAt W21 g4 (ia * 8) a') := hide (by
          have hil : ia < l.length := by have := HNL.out; omega
          have hlg : l.getD ia ⟨#[]⟩ = l[ia] := by simp [List.getD, hil]
          by_cases e : ia = ib
          · obtain ⟨m, hm, hK⟩ := HSA.out.both e hil
            have := (HR21.out.at hia (o := some ⟨m, 3, true⟩) (by rw [hlg, hm])).2.2.2.2
            simp only [cmC, hK] at this
            exact this
          · obtain ⟨m, hm, hK⟩ := HSA.out.onlyA e hil
            have := (HR21.out.at hia (o := some ⟨m, 1, true⟩) (by rw [hlg, hm])).2.2.2.2
            simp only [cmC, hK] at this
            exact this)
        have HCOM_b : Hid (ib ≠ ia → CAt W21 g4 (ib * 8) b') := hide fun e => by
          have hil : ib < l.length := by have := HNL.out; omega
          have hlg : l.getD ib ⟨#[]⟩ = l[ib] := by simp [List.getD, hil]
          obtain ⟨m, hm, hK⟩ := HSA.out.onlyB (fun h => e h.symm) hil
          have := (HR21.out.at hib (o := some ⟨m, 2, true⟩) (by rw [hlg, hm])).2.2.2.2
          simp only [cmC, hK] at this
          exact this
        have hbd : Below W21.heap.size W21 W21.drew := (Below.refl _ _).drew
        have c4 := (HPB21.out.below hbd HPB21.out.lt).cells5.2.2.2.2
        have HA4 : Hid (CAt W21.drew g4 (ia * 8) a') := hide (HCOM_a.out.below hbd)
        obtain ⟨s0, s1, s2, s3, s4, s5, s6, s7⟩ := HA4.out
        have hblk := (HCA18.out.below HB021.out HCA18.out.lt).below hbd (HCA18.out.below HB021.out HCA18.out.lt).lt
        obtain ⟨⟨t0, t1, t2, t3, t4, t5, t6, t7⟩, -⟩ := cells8 hblk
        have HBLK := hide hblk
        have HSM := hide (same_any a' _ (HPA0.out.below (after HB021.out hbd)))
        clear hblk hbd
        go_upto_region 28 with fail
        go_region_held3 (fun w' => (w'.cell? ⟨b14, 4, none⟩ = some (sl g4 n)) ∧ (w'.cell? ⟨g4, ia * 8, none⟩ = some (.string a'.id) ∧ w'.cell? ⟨g4, ia * 8 + 1, none⟩ = some (.slice a'.pa a'.pn a'.pc) ∧ w'.cell? ⟨g4, ia * 8 + 2, none⟩ = some (.string a'.com) ∧ w'.cell? ⟨g4, ia * 8 + 3, none⟩ = some (.string a'.msg) ∧ w'.cell? ⟨g4, ia * 8 + 4, none⟩ = some (.int .i64 a'.cr) ∧ w'.cell? ⟨g4, ia * 8 + 5, none⟩ = some (.map none) ∧ w'.cell? ⟨g4, ia * 8 + 6, none⟩ = some (.string a'.mr) ∧ w'.cell? ⟨g4, ia * 8 + 7, none⟩ = some (.int .i64 a'.gen)) ∧ (w'.cell? ⟨b9, 0, none⟩ = some (.string a'.id) ∧ w'.cell? ⟨b9, 1, none⟩ = some (.slice a'.pa a'.pn a'.pc) ∧ w'.cell? ⟨b9, 2, none⟩ = some (.string a'.com) ∧ w'.cell? ⟨b9, 3, none⟩ = some (.string a'.msg) ∧ w'.cell? ⟨b9, 4, none⟩ = some (.int .i64 a'.cr) ∧ w'.cell? ⟨b9, 5, none⟩ = some (.map none) ∧ w'.cell? ⟨b9, 6, none⟩ = some (.string a'.mr) ∧ w'.cell? ⟨b9, 7, none⟩ = some (.int .i64 a'.gen))) (with_reducible first | exact ⟨c4, ⟨s0, s1, s2, s3, s4, s5, s6, s7⟩, ⟨t0, t1, t2, t3, t4, t5, t6, t7⟩⟩ | exact ⟨e4, ⟨i0, i1, i2, i3, i4, i5, i6, i7⟩, ⟨j0, j1, j2, j3, j4, j5, j6, j7⟩⟩) ((go_at_call 16; refine HSM.out.mono ?_; rintro e w8 ⟨rfl, hb8⟩; have HB8 := hide hb8; have e4 := cell_below hb8 c4; obtain ⟨i0, i1, i2, i3, i4, i5, i6, i7⟩ := HA4.out.below hb8; obtain ⟨⟨j0, j1, j2, j3, j4, j5, j6, j7⟩, -⟩ := cells8 (HBLK.out.below hb8 HBLK.out.lt); clear hb8))
        have HBX : Hid (Below W21.heap.size W21 w8) := after ((Below.refl _ _).drew) HB8.out
        clear c4 e4 s0 s1 s2 s3 s4 s5 s6 s7 t0 t1 t2 t3 t4 t5 t6 t7 i0 i1 i2 i3 i4 i5 i6 i7 j0 j1 j2 j3 j4 j5 j6 j7 HA4 HBLK HSM HB8 HCOM_a
        obtain ⟨W22, hW22⟩ : ∃ W22, W22 = w8 := ⟨_, rfl⟩
        subst hW22
        clear hlt hk
        go_upto_region 30 with fail
        go_cut [136] from 124 to 135 (fun s wx => s = .bool false ∧ Hid (Below W21.heap.size W21 wx))
        case first =>
          by_cases e : ib = ia
          · as_aux_lemma =>
            have te : (((ib : Nat) : Int) != ((ia : Nat) : Int)) = false := by simp [e]
            clear e
            go_quiet (fail)
            go_wp2_with fail
            go_meet
            exact ⟨rfl, below_drewN HBX.out _⟩
          · as_aux_lemma =>
            have te : (((ib : Nat) : Int) != ((ia : Nat) : Int)) = true := by rw [bne_iff_ne]; omega
            have hbd : Below W21.heap.size W21 W22.drew := HBX.out.drew
            have c4 := (HPB21.out.below hbd HPB21.out.lt).cells5.2.2.2.2
            have HA4 : Hid (CAt W22.drew g4 (ib * 8) b') := hide ((HCOM_b.out e).below hbd)
            obtain ⟨s0, s1, s2, s3, s4, s5, s6, s7⟩ := HA4.out
            have hblk := (HCB18.out.below HB021.out HCB18.out.lt).below hbd (HCB18.out.below HB021.out HCB18.out.lt).lt
            obtain ⟨⟨t0, t1, t2, t3, t4, t5, t6, t7⟩, -⟩ := cells8 hblk
            have HBLK := hide hblk
            have HSM := hide (same_any b' _ (HPB0.out.below (after HB021.out hbd)))
            clear hblk hbd e
            go_region_held3 (fun w' => (w'.cell? ⟨b14, 4, none⟩ = some (sl g4 n)) ∧ (w'.cell? ⟨g4, ib * 8, none⟩ = some (.string b'.id) ∧ w'.cell? ⟨g4, ib * 8 + 1, none⟩ = some (.slice b'.pa b'.pn b'.pc) ∧ w'.cell? ⟨g4, ib * 8 + 2, none⟩ = some (.string b'.com) ∧ w'.cell? ⟨g4, ib * 8 + 3, none⟩ = some (.string b'.msg) ∧ w'.cell? ⟨g4, ib * 8 + 4, none⟩ = some (.int .i64 b'.cr) ∧ w'.cell? ⟨g4, ib * 8 + 5, none⟩ = some (.map none) ∧ w'.cell? ⟨g4, ib * 8 + 6, none⟩ = some (.string b'.mr) ∧ w'.cell? ⟨g4, ib * 8 + 7, none⟩ = some (.int .i64 b'.gen)) ∧ (w'.cell? ⟨b10, 0, none⟩ = some (.string b'.id) ∧ w'.cell? ⟨b10, 1, none⟩ = some (.slice b'.pa b'.pn b'.pc) ∧ w'.cell? ⟨b10, 2, none⟩ = some (.string b'.com) ∧ w'.cell? ⟨b10, 3, none⟩ = some (.string b'.msg) ∧ w'.cell? ⟨b10, 4, none⟩ = some (.int .i64 b'.cr) ∧ w'.cell? ⟨b10, 5, none⟩ = some (.map none) ∧ w'.cell? ⟨b10, 6, none⟩ = some (.string b'.mr) ∧ w'.cell? ⟨b10, 7, none⟩ = some (.int .i64 b'.gen))) (with_reducible first | exact ⟨c4, ⟨s0, s1, s2, s3, s4, s5, s6, s7⟩, ⟨t0, t1, t2, t3, t4, t5, t6, t7⟩⟩ | exact ⟨e4, ⟨i0, i1, i2, i3, i4, i5, i6, i7⟩, ⟨j0, j1, j2, j3, j4, j5, j6, j7⟩⟩) ((go_at_call 16; refine HSM.out.mono ?_; rintro e w8 ⟨rfl, hb8⟩; have HB8 := hide hb8; have e4 := cell_below hb8 c4; obtain ⟨i0, i1, i2, i3, i4, i5, i6, i7⟩ := HA4.out.below hb8; obtain ⟨⟨j0, j1, j2, j3, j4, j5, j6, j7⟩, -⟩ := cells8 (HBLK.out.below hb8 HBLK.out.lt); clear hb8))
            go_wp2_with fail
            go_meet
            exact ⟨rfl, after HBX.out.drew HB8.out⟩
        case rest =>
          obtain ⟨rfl, HBX2⟩ := hcut
          obtain ⟨W23, hW23⟩ : ∃ W23, W23 = wc := ⟨_, rfl⟩
          subst hW23
          clear HBX HCOM_b HPA0 HPB0 HCA18 HCB18
          go_upto_region 32 with fail
          go_cut [152] from 137 to 151 (fun s wx => s = .bool false ∧ Hid (Below W21.heap.size W21 wx))
          case first =>
            as_aux_lemma =>
            have p5 : ∀ m, (W23.drewN m).cell? ⟨wb, 5, none⟩ = some (.bool ung) := fun m => ((HS19.out.below (after HB21.out (below_drewN HBX2.out m))).ms.cells).2.2.2.2.2
            have x6 : W23.cell? ⟨ba, 6, none⟩ = some (.int .i64 a'.gen) := (HXA0.out.below (after HB021.out HBX2.out) HXA0.out.lt).cell 6
            have y6 : W23.cell? ⟨bb, 6, none⟩ = some (.int .i64 b'.gen) := (HXB0.out.below (after HB021.out HBX2.out) HXB0.out.lt).cell 6
            have HQ17 : Hid (∀ m, Calls Try.prog 17 #[ptr wb] (W23.drewN m) fun e w'' => e = .returned (.bool ung) ∧ ∃ k, w'' = W23.drewN k) := hide fun m => (ungraded_any wb _ _ (p5 m)).mono (fun e w' h => ⟨h.1, m, h.2.symm⟩)
            clear p5
            by_cases ga : a'.gen = 0
            · have tg : (a'.gen == 0) = true := by rw [ga]; rfl
              have hu : ung = true := by rw [HSA.out.ung]; simp [ga]
              subst hu
              go_quiet (first | (go_at_call 17; exact HQ17.out _))
              go_wp2_with fail
              go_meet
              exact ⟨rfl, below_drewN HBX2.out _⟩
            · have tg : (a'.gen == 0) = false := by rw [beq_eq_false_iff_ne]; exact ga
              by_cases e : ib = ia
              · have te : (((ib : Nat) : Int) != ((ia : Nat) : Int)) = false := by simp [e]
                have hu : ung = false := by rw [HSA.out.ung]; simp [ga, e]
                subst hu
                go_quiet (first | (go_at_call 17; exact HQ17.out _))
                go_wp2_with fail
                go_meet
                exact ⟨rfl, below_drewN HBX2.out _⟩
              · have te : (((ib : Nat) : Int) != ((ia : Nat) : Int)) = true := by rw [bne_iff_ne]; omega
                by_cases gb : b'.gen = 0
                · have tg2 : (b'.gen == 0) = true := by rw [gb]; rfl
                  have hu : ung = true := by rw [HSA.out.ung]; simp [ga, e, gb]
                  subst hu
                  go_quiet (first | (go_at_call 17; exact HQ17.out _))
                  go_wp2_with fail
                  go_meet
                  exact ⟨rfl, below_drewN HBX2.out _⟩
                · have tg2 : (b'.gen == 0) = false := by rw [beq_eq_false_iff_ne]; exact gb
                  have hu : ung = false := by rw [HSA.out.ung]; simp [ga, gb]
                  subst hu
                  go_quiet (first | (go_at_call 17; exact HQ17.out _))
                  go_wp2_with fail
                  go_meet
                  exact ⟨rfl, below_drewN HBX2.out _⟩
          case rest =>
            obtain ⟨rfl, HBX3⟩ := hcut
            obtain ⟨W24, hW24⟩ : ∃ W24, W24 = wc := ⟨_, rfl⟩
            subst hW24
            clear HBX2 HXA0 HXB0
            have hs24 := HS19.out.below (after HB21.out HBX3.out)
            obtain ⟨-, -, -, -, p4, -⟩ := hs24.ms.cells
            obtain ⟨d0, d1, d2, d3, d4⟩ := (HPB21.out.below HBX3.out HPB21.out.lt).cells5
            have HBK := hide (books_any _ wb mb n g0 g1 g2 g3 g4 A0 A1 A2 A3 A4 _ _ _ K N Q [] ung l W24 hs24 (HR21.out.below HBX3.out) HNL.out (by omega) HLT.out.nd HIDS.out)
            clear hs24
            go_wp2_with fail
            refine (candidates_any wb _ _ p4).mono ?_
            rintro e w8 ⟨rfl, rfl⟩
            go_wp2_with fail
            refine HBK.out.mono ?_
            rintro e w25 ⟨rfl, hb25⟩
            have HL0 : Hid (L3 w0 w25 sb ta' tc' T' l wb mb 0) := hide (by
              obtain ⟨qv, cv, K, N, Q, C, ung, h1, h2, h3, h4⟩ := HL3.out
              have hb := after (after HB21.out HBX3.out) hb25
              exact ⟨qv, cv, K, N, Q, C, ung, h1.below hb, after h2 hb, h3, h4⟩)
            clear hb25 p4 d0 d1 d2 d3 d4 HBK HL3 HBX3 HB21 HB021 HPB21 HR21 HS19 HIDS HSA HB19 hia hib
            go_wp2_with fail
            go_loopw [18] (fun i wr => ∃ st : Nat, st ≤ 3 * n ∧ i = .int .i64 st ∧ Hid (L3 w0 wr sb ta' tc' T' l wb mb st)) (fun i _ => 3 * n - (intOf i).toNat)
            case atStart => exact ⟨0, Nat.zero_le _, rfl, HL0.out⟩
            case round =>
              as_aux_lemma =>
              obtain ⟨st, hst, rfl, HL⟩ := hrel
              obtain ⟨qv, cv, K, N, Q, C, ung, hs, hb, hn, hm⟩ := HL.out
              have hcl : C.length ≤ 900000 := by have := hn.cl; omega
              have HCG := hide (goesOn_any hs hn.cin hcl)
              have HE : Hid (Below w.heap.size w wr) := after HB0.out hb
              by_cases hlt : st < 3 * n
              · cases hg : goesOn N C ung with
                | false =>
                  rw [hg] at HCG
                  clear hs hb hn hm hg hcl HL HL0
                  go_wp2_with fail
                  refine HCG.out.mono ?_
                  rintro e w8 ⟨rfl, rfl⟩
                  go_wp2_with fail
                  refine HCG.out.mono ?_
                  rintro e w8 ⟨rfl, rfl⟩
                  go_wp2_with fail
                  go_ret
                  exact ⟨rfl, HE.out⟩
                | true =>
                  rw [hg] at HCG
                  obtain ⟨hl, x, hx, hxb, hxq⟩ := hs.top3 hg
                  have HCH := hide (holds_any w0 _ wb mb sb tc' kb kc ta' qv cv K N Q C ung T' l st x wr hs (fun k hk => hk) hb HLT.out hn (by omega) HKC0.out hl hx hxb hxq)
                  rw [← HNL.out] at HCH
                  have HNX : Hid (∀ w', StepPost w0 wr (fun k => w0.heap.size ≤ k) wb mb (.func (.func 39) #[.pointer (some ⟨sb, 0, none⟩)] #[]) K N C ung T' x w' → L3 w0 w' sb ta' tc' T' l wb mb (st + 1)) := hide fun w' h => L3.step hs hb hn hm HLT.out hx hxq h
                  clear hs hb hn hm hg hcl HL HL0 hl hx hxb hxq HE
                  go_wp2_with fail
                  refine HCG.out.mono ?_
                  rintro e w8 ⟨rfl, rfl⟩
                  go_wp2_with fail
                  refine HCH.out.mono ?_
                  rintro e w9 ⟨rfl, hsp⟩
                  have HL' := hide (HNX.out _ hsp)
                  clear hsp HNX
                  go_wp2_with fail
                  go_roundw
                  case rel => exact ⟨st + 1, by omega, by go_num, HL'.out⟩
                  case measure => simp [intOf]; omega
              · have hg := goes_end hs hn hm (by have := HNL.out; omega)
                rw [hg] at HCG
                clear hs hb hn hm hg hcl HL HL0
                go_wp2_with fail
                refine HCG.out.mono ?_
                rintro e w8 ⟨rfl, rfl⟩
                go_wp2_with fail
                go_ret
                exact ⟨rfl, HE.out⟩
end Go.Proofs.Qxb6605835a
