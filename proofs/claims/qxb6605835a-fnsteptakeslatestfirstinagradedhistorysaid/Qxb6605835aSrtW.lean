import Derived.Test.Qxb6605835aSrt
import Derived.Deep.RegionHeld3
namespace Go.Proofs.Qxb6605835a
open Go.ChangeShapes Go.WideShapes Go.ChangeAt Go.RowKit
set_option linter.unusedVariables false

theorem wrap_nat (a : Nat) (h : a ≤ 9223372036854775807) : IntKind.i64.wrap ((a : Nat) : Int) = ((a : Nat) : Int) := by
  simp only [IntKind.wrap, IntKind.signed, IntKind.bits]
  simp
  omega

/-- What the sort keeps in memory. -/
def SW (w wr : World) (ob : Nat) (L0 L : List Cm) : Prop := CRow wr ob L ∧ L.length = L0.length ∧ Keeps w wr (· = ob)

set_option maxHeartbeats 8000000 in
set_option maxRecDepth 8000 in
theorem sort_some (ob cap : Nat) (L0 : List Cm) (w : World) (hr : CRow w ob L0) (hl : L0.length ≤ 1000000) :
    Calls Try.prog 34 #[.slice (some ⟨ob, 0, none⟩) L0.length cap] w fun e w' => e = .returned (.tuple #[]) ∧ ∃ L, L.Perm L0 ∧ L.Pairwise nb ∧ CRow w' ob L ∧ Keeps w w' (· = ob) := by
  have HR := hide hr
  obtain ⟨n, hn⟩ : ∃ n, n = L0.length := ⟨_, rfl⟩
  rw [← hn] at hl ⊢
  have HN := hide hn
  clear hr hn
  have HS0 : Hid (∃ L, SO L0 L 1 ∧ SW w w ob L0 L) := hide ⟨L0, ⟨List.Perm.refl _, by cases L0 <;> simp⟩, HR.out, rfl, Keeps.refl _ _⟩
  go_enter Try.func34, Try.ntmps34
  go_wp2_with fail
  go_loopw [2] (fun i wr => ∃ k : Nat, 1 ≤ k ∧ k ≤ n + 1 ∧ i = .int .i64 k ∧ Hid (∃ L, SO L0 L k ∧ SW w wr ob L0 L)) (fun i _ => n + 1 - (intOf i).toNat)
  case atStart => exact ⟨1, Nat.le_refl _, by omega, rfl, HS0.out⟩
  case round =>
    obtain ⟨k, hk1, hk, rfl, HQ⟩ := hrel
    by_cases hlt : k < n
    · have HQ2 : Hid (∃ L, SI L0 L k k ∧ SW w wr ob L0 L) := hide (by
        obtain ⟨L, h1, h2⟩ := HQ.out
        exact ⟨L, h1.begin (by have := h2.2.1; have := HN.out; omega), h2⟩)
      clear HQ
      go_wp2_with fail
      go_loopw [3] (fun i wr => ∃ j : Nat, j ≤ k ∧ i = .int .i64 j ∧ Hid (∃ L, SI L0 L k j ∧ SW w wr ob L0 L)) (fun i _ => (intOf i).toNat)
      case atStart => exact ⟨k, Nat.le_refl _, rfl, HQ2.out⟩
      case round =>
        obtain ⟨j, hj, rfl, HI⟩ := hrel
        obtain ⟨L, hsi, hrow, hLl, hkp⟩ := HI.out
        have hLn : L.length = n := by have := HN.out; omega
        rcases Nat.eq_zero_or_pos j with h0 | h0
        · subst h0
          have HE : Hid (∃ L, SO L0 L (k + 1) ∧ SW w wr ob L0 L) := hide ⟨L, hsi.zero, hrow, hLl, hkp⟩
          clear hsi hrow hLl hkp HI hLn HQ2
          clear L
          go_wp2_with fail
          go_quiet (fail)
          go_wp2_with fail
          go_roundw
          case rel => exact ⟨k + 1, by omega, by omega, by go_num, by
            obtain ⟨L, h1, h2, h3, h4⟩ := HE.out
            exact hide ⟨L, h1, h2.below (below_drewN (Below.refl _ _) _), h3, h4.drewN _⟩⟩
          case measure => simp [intOf]; omega
        · obtain ⟨j', hj'⟩ : ∃ j', j = j' + 1 := ⟨j - 1, by omega⟩
          have hjL : j < L.length := by have := hsi.len; omega
          have hjL' : j' < L.length := by omega
          have hat : (L[j].before L[j'] = false → SO L0 L (k + 1)) ∧ (L[j].before L[j'] = true → SI L0 ((L.set j L[j']).set j' L[j]) k j') := by
            subst hj'
            exact hsi.at hjL hjL'
          have HAT := hide hat
          have HROW := hide hrow
          have HKP := hide hkp
          have hji : ((j : Nat) : Int) - 1 = ((j' : Nat) : Int) := by omega
          have hwr : IntKind.i64.wrap (((j : Nat) : Int) - 1) = ((j' : Nat) : Int) := by
            rw [hji]
            exact wrap_nat j' (by omega)
          have tj : decide ((0 : Int) < ((j : Nat) : Int)) = true := by simp; omega
          have tj2 : decide (((j : Nat) : Int) > (0 : Int)) = true := by simp; omega
          have rd := hrow.below (w' := wr.drew) (Below.refl _ _).drew
          have HX := hide (rd.at hjL)
          have HY := hide (rd.at hjL')
          have HCB := hide (before_any L[j] L[j'] wr.drew)
          have HSET : Hid (∀ W W' c d, CRow W ob L → c = L[j'] → W' = set8 W ob (j * 8) c → CRow W' ob (L.set j c) ∧ (d = L[j] → ∀ W2, W2 = set8 W' ob (j' * 8) d → CRow W2 ob ((L.set j c).set j' d))) := hide fun W W' c d h1 h2 h3 => by
            subst h3
            refine ⟨h1.set hjL c, fun _ W2 hW2 => ?_⟩
            subst hW2
            exact (h1.set hjL c).set (by simpa using hjL') d
          have HLS : Hid (∀ c d, ((L.set j c).set j' d).length = L0.length) := hide fun c d => by simp [hLl]
          have HEX : Hid (L[j] = L[j] ∧ L[j'] = L[j']) := ⟨rfl, rfl⟩
          obtain ⟨cx, hcx⟩ : ∃ cx, cx = L[j] := ⟨_, rfl⟩
          obtain ⟨cy, hcy⟩ : ∃ cy, cy = L[j'] := ⟨_, rfl⟩
          rw [← hcx, ← hcy] at HCB HAT
          rw [← hcx] at HX
          rw [← hcy] at HY
          obtain ⟨x0, x1, x2, x3, x4, x5, x6, x7⟩ := HX.out
          obtain ⟨y0, y1, y2, y3, y4, y5, y6, y7⟩ := HY.out
          have HCX := hide hcx
          have HCY := hide hcy
          have hjn : j < n := by omega
          have hjn' : j' < n := by omega
          have hjj : j' < j := by omega
          have hwr2 : IntKind.i64.wrap ((j' : Nat) : Int) = ((j' : Nat) : Int) := wrap_nat j' (by omega)
          have b1 : (0 : Int) ≤ ((j' : Nat) : Int) := by omega
          have b2 : ((j' : Nat) : Int) < ((n : Nat) : Int) := by omega
          have b3 : (0 : Int) ≤ ((j : Nat) : Int) - 1 := by omega
          have b4 : ((j : Nat) : Int) - 1 < ((n : Nat) : Int) := by omega
          have b5 : (((j : Nat) : Int) - 1).toNat = j' := by omega
          have HJ := hide hj'
          clear hj'
          have HLL := hide hLl
          clear hsi hrow hLl hkp HI hLn hat rd hcx hcy HQ2 HEX
          obtain ⟨bb, hbb⟩ : ∃ bb, bb = cx.before cy := ⟨_, rfl⟩
          rw [← hbb] at HCB HAT
          clear hbb
          go_upto_region 4 with fail
          go_region_held3 (fun w' => (w'.cell? ⟨ob, j * 8, none⟩ = some (.string cx.id) ∧ w'.cell? ⟨ob, j * 8 + 1, none⟩ = some (.slice cx.pa cx.pn cx.pc) ∧ w'.cell? ⟨ob, j * 8 + 2, none⟩ = some (.string cx.com) ∧ w'.cell? ⟨ob, j * 8 + 3, none⟩ = some (.string cx.msg) ∧ w'.cell? ⟨ob, j * 8 + 4, none⟩ = some (.int .i64 cx.cr) ∧ w'.cell? ⟨ob, j * 8 + 5, none⟩ = some (.map none) ∧ w'.cell? ⟨ob, j * 8 + 6, none⟩ = some (.string cx.mr) ∧ w'.cell? ⟨ob, j * 8 + 7, none⟩ = some (.int .i64 cx.gen)) ∧ (w'.cell? ⟨ob, j' * 8, none⟩ = some (.string cy.id) ∧ w'.cell? ⟨ob, j' * 8 + 1, none⟩ = some (.slice cy.pa cy.pn cy.pc) ∧ w'.cell? ⟨ob, j' * 8 + 2, none⟩ = some (.string cy.com) ∧ w'.cell? ⟨ob, j' * 8 + 3, none⟩ = some (.string cy.msg) ∧ w'.cell? ⟨ob, j' * 8 + 4, none⟩ = some (.int .i64 cy.cr) ∧ w'.cell? ⟨ob, j' * 8 + 5, none⟩ = some (.map none) ∧ w'.cell? ⟨ob, j' * 8 + 6, none⟩ = some (.string cy.mr) ∧ w'.cell? ⟨ob, j' * 8 + 7, none⟩ = some (.int .i64 cy.gen))) (with_reducible first | exact ⟨⟨x0, x1, x2, x3, x4, x5, x6, x7⟩, ⟨y0, y1, y2, y3, y4, y5, y6, y7⟩⟩ | exact ⟨⟨e0, e1, e2, e3, e4, e5, e6, e7⟩, ⟨g0, g1, g2, g3, g4, g5, g6, g7⟩⟩) ((go_at_call 51; refine HCB.out.mono ?_; rintro e w6 ⟨rfl, hb6⟩; have HB6 := hide hb6; obtain ⟨e0, e1, e2, e3, e4, e5, e6, e7⟩ := HX.out.below hb6; obtain ⟨g0, g1, g2, g3, g4, g5, g6, g7⟩ := HY.out.below hb6; clear hb6))
          have HB61 : Hid (Below wr.heap.size wr w6) := after ((Below.refl _ _).drew) HB6.out
          have HROW6 := hide (HROW.out.below HB61.out)
          have HKP6 : Hid (Keeps w w6 (· = ob)) := hide (HKP.out.trans (Keeps.of_below HB61.out _))
          clear x0 x1 x2 x3 x4 x5 x6 x7 y0 y1 y2 y3 y4 y5 y6 y7 e0 e1 e2 e3 e4 e5 e6 e7 g0 g1 g2 g3 g4 g5 g6 g7 HCB HB6 HROW HKP HX HY tj tj2
          cases bb with
          | false =>
            have HE : Hid (∃ L, SO L0 L (k + 1) ∧ SW w w6 ob L0 L) := hide ⟨L, HAT.out.1 rfl, HROW6.out, HLL.out, HKP6.out⟩
            clear HAT
            go_wp2_with fail
            go_roundw
            case rel => exact ⟨k + 1, by omega, by omega, by go_num, HE.out⟩
            case measure => simp [intOf]; omega
          | true =>
            have HSI := hide (HAT.out.2 rfl)
            clear HAT
            have hx6 := HROW6.out.at hjL
            rw [← HCX.out] at hx6
            obtain ⟨x0, x1, x2, x3, x4, x5, x6, x7⟩ := hx6
            go_upto_region 7 with fail
            clear x0 x1 x2 x3 x4 x5 x6 x7
            obtain ⟨bt, hbt⟩ : ∃ bt, bt = w6.heap.size := ⟨_, rfl⟩
            obtain ⟨W7, hW7⟩ : ∃ W7, W7 = w6.alloc (boxed cx) := ⟨_, rfl⟩
            have HBT : Hid (Blk W7 bt 39 #[.string cx.id, .slice cx.pa cx.pn cx.pc, .string cx.com, .string cx.msg, .int .i64 cx.cr, .map none, .string cx.mr, .int .i64 cx.gen]) := hide (by rw [hW7, hbt]; exact Blk.new w6 39 _)
            have hb67 : Below w6.heap.size w6 W7 := by rw [hW7]; exact (Below.refl _ _).alloc (Nat.le_refl _) _
            have HROW7 := hide (HROW6.out.below hb67)
            have HKP7 : Hid (Keeps w W7 (· = ob)) := hide (HKP6.out.trans (Keeps.of_below hb67 _))
            have hne : ob ≠ bt := by
              obtain ⟨arr, hb, _⟩ := HROW6.out
              have := hb.lt
              omega
            rw [← hbt]
            rw [← hW7]
            have hy7 := HROW7.out.at hjL'
            rw [← HCY.out] at hy7
            obtain ⟨y0, y1, y2, y3, y4, y5, y6, y7⟩ := hy7
            have hx7 := HROW7.out.at hjL
            obtain ⟨z0, z1, z2, z3, z4, z5, z6, z7⟩ := hx7
            have f0 := HROW7.out.free (j * 8)
            have f1 := HROW7.out.free (j * 8 + 1)
            have f2 := HROW7.out.free (j * 8 + 2)
            have f3 := HROW7.out.free (j * 8 + 3)
            have f4 := HROW7.out.free (j * 8 + 4)
            have f5 := HROW7.out.free (j * 8 + 5)
            have f6 := HROW7.out.free (j * 8 + 6)
            have f7 := HROW7.out.free (j * 8 + 7)
            clear hbt hW7 hb67 HROW6 HKP6
            go_upto_region 8 with fail
            clear y0 y1 y2 y3 y4 y5 y6 y7 z0 z1 z2 z3 z4 z5 z6 z7 f0 f1 f2 f3 f4 f5 f6 f7
            obtain ⟨W8, hW8⟩ : ∃ W8, W8 = ((((((((W7.setCell ⟨ob, j * 8, none⟩ (.string cy.id)).setCell ⟨ob, j * 8 + 1, none⟩ (.slice cy.pa cy.pn cy.pc)).setCell ⟨ob, j * 8 + 2, none⟩ (.string cy.com)).setCell ⟨ob, j * 8 + 3, none⟩ (.string cy.msg)).setCell ⟨ob, j * 8 + 4, none⟩ (.int .i64 cy.cr)).setCell ⟨ob, j * 8 + 5, none⟩ (.map none)).setCell ⟨ob, j * 8 + 6, none⟩ (.string cy.mr)).setCell ⟨ob, j * 8 + 7, none⟩ (.int .i64 cy.gen)) := ⟨_, rfl⟩
            have hset : W8 = set8 W7 ob (j * 8) cy := hW8
            rw [← hW8]
            have HK78 : Hid (Keeps W7 W8 (· = ob)) := hide (by rw [hset]; exact set8_keeps _ _ _ _)
            have HROW8 := hide ((HSET.out W7 W8 cy cx HROW7.out HCY.out hset).1)
            have HSET2 := hide ((HSET.out W7 W8 cy cx HROW7.out HCY.out hset).2 HCX.out)
            have HBT8 := HBT.out.kept HK78.out (fun e => hne e.symm)
            obtain ⟨⟨x0, x1, x2, x3, x4, x5, x6, x7⟩, -⟩ := cells8 HBT8
            have hl8 : j' < (L.set j cy).length := by simpa using hjL'
            have hz8 := HROW8.out.at hl8
            obtain ⟨z0, z1, z2, z3, z4, z5, z6, z7⟩ := hz8
            have f0 := HROW8.out.free (j' * 8)
            have f1 := HROW8.out.free (j' * 8 + 1)
            have f2 := HROW8.out.free (j' * 8 + 2)
            have f3 := HROW8.out.free (j' * 8 + 3)
            have f4 := HROW8.out.free (j' * 8 + 4)
            have f5 := HROW8.out.free (j' * 8 + 5)
            have f6 := HROW8.out.free (j' * 8 + 6)
            have f7 := HROW8.out.free (j' * 8 + 7)
            have HKP8 : Hid (Keeps w W8 (· = ob)) := hide (HKP7.out.trans HK78.out)
            clear hW8 hset HBT8 HROW7 HKP7 HSET HBT HK78 hne
            go_wp2_with fail
            clear x0 x1 x2 x3 x4 x5 x6 x7 z0 z1 z2 z3 z4 z5 z6 z7 f0 f1 f2 f3 f4 f5 f6 f7
            go_roundw
            case rel =>
              refine ⟨j', by omega, by go_num, hide ⟨(L.set j cy).set j' cx, ?_, HSET2.out _ rfl, HLS.out _ _, HKP8.out.trans (set8_keeps _ _ _ _)⟩⟩
              exact HSI.out
            case measure => simp [intOf]; omega
    · have HE : Hid (∃ L, L.Perm L0 ∧ L.Pairwise nb ∧ CRow wr ob L ∧ Keeps w wr (· = ob)) := hide (by
        obtain ⟨L, h1, h2, h3, h4⟩ := HQ.out
        refine ⟨L, h1.1, ?_, h2, h4⟩
        have := h1.2
        rw [List.take_of_length_le (by have := HN.out; omega)] at this
        exact this)
      clear HQ
      go_wp2_with fail
      go_end0
      exact ⟨rfl, HE.out⟩
end Go.Proofs.Qxb6605835a
