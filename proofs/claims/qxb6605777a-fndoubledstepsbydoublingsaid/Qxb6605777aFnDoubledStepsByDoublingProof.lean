/-
  The proof of 'Rows.FnDoubledStepsByDoublingSaid': the shell of the guide, its walk filled.
-/
import Derived.Test.Qxb6605777aRows
import Derived.WalkKit
import Derived.ProofKit
import Derived.OpenShut
import Derived.Test.Qxb6605777aDbl
import Derived.ShutString
namespace Go.Proofs.Qxb6605777a.fnDoubledStepsByDoubling
open Go.ChangeShapes Go.WideShapes Go.ChangeAt Go.RowKit
open Go.ChangeMaps (open_string shut_string)
set_option linter.unusedVariables false      -- a walk need not use every 'w<i>' (that an integer argument fits its kind)

theorem own : ownKnob Try.prog.godebug = none := by kernel_rfl

/-! ### STEP 1: THE WALK: the Go text returns true. 'Grown w w'': the world has at most new blocks (Derived/RowKit3.lean). Part the cases AHEAD of 'go_enter' where a test parts the walk; take each callee by a contract of your own. -/
theorem early (a0 a1 a2 : Int) (w : World) (h : a0 < 0 ∨ a1 < 0 ∨ a2 < 0 ∨ a2 = 9223372036854775807) :
    Calls Try.prog 4 #[.int .i64 a0, .int .i64 a1, .int .i64 a2] w fun e w' => e = .returned (.bool true) ∧ w' = w := by
  by_cases c1 : a0 < 0
  · clear h
    go_enter Try.func4, Try.ntmps4
    go_wp2
    go_ret
    exact ⟨rfl, rfl⟩
  by_cases c2 : a1 < 0
  · clear h
    go_enter Try.func4, Try.ntmps4
    go_wp2
    go_ret
    exact ⟨rfl, rfl⟩
  by_cases c3 : a2 < 0
  · clear h
    go_enter Try.func4, Try.ntmps4
    go_wp2
    go_ret
    exact ⟨rfl, rfl⟩
  have c4 : (a2 == 9223372036854775807) = true := by rw [beq_iff_eq]; omega
  clear h
  go_enter Try.func4, Try.ntmps4
  go_wp2
  go_ret
  exact ⟨rfl, rfl⟩

set_option maxHeartbeats 400000 in
theorem late (b l n : Int) (w : World) (h0 : 0 ≤ b) (h1 : b ≤ 9223372036854775807) (h2 : 0 ≤ l) (h3 : l ≤ 9223372036854775807) (h4 : 0 ≤ n) (h5 : n < 9223372036854775807) :
    Calls Try.prog 4 #[.int .i64 b, .int .i64 l, .int .i64 n] w fun e w' => e = .returned (.bool true) ∧ w' = w := by
  have HC0 : Hid (∀ w : World, Calls Try.prog 5 #[.int .i64 b, .int .i64 l, .int .i64 0] w fun e w' => e = .returned (.int .i64 (if b ≤ l then b else l)) ∧ w' = w) := Dbl.hide fun w => by
    have := Dbl.ZZdoubled_any b l 0 w h0 h1 h2 h3 (by omega)
    rwa [show (0 : Int).toNat = 0 from rfl, Dbl.mn_zero] at this
  have hc1 := fun w => Dbl.ZZdoubled_any b l n w h0 h1 h2 h3 h4
  have hc2 := fun w => Dbl.ZZdoubled_any b l (n + 1) w h0 h1 h2 h3 (by omega)
  have hs := Dbl.mn_succ b l n.toNat h0 h2
  rw [show (n + 1).toNat = n.toNat + 1 by omega] at hc2
  have hx0 := Dbl.mn_nonneg b l n.toNat h0 h2
  have hx1 := Dbl.mn_le b l n.toNat
  have hy0 := Dbl.mn_nonneg b l (n.toNat + 1) h0 h2
  have hy1 := Dbl.mn_le b l (n.toNat + 1)
  generalize Dbl.mn b l n.toNat = x at *
  generalize Dbl.mn b l (n.toNat + 1) = y at *
  have HC1 := Dbl.hide hc1
  have HC2 := Dbl.hide hc2
  have HS := Dbl.hide hs
  clear hc1 hc2 hs
  have hne : (n == 9223372036854775807) = false := by rw [beq_eq_false_iff_ne]; omega
  by_cases c1 : l < b
  · by_cases c2 : x * 2 < l
    · have hy : y = x * 2 := by have := HS.out; rw [if_pos (by omega)] at this; omega
      subst hy
      have HC0' : Hid (∀ w : World, Calls Try.prog 5 #[.int .i64 b, .int .i64 l, .int .i64 0] w fun e w' => e = .returned (.int .i64 l) ∧ w' = w) := Dbl.hide fun w => by
        have := HC0.out w; rwa [if_neg (by omega)] at this
      clear HS HC0
      go_enter Try.func4, Try.ntmps4
      go_wp2_with fail
      refine (HC0'.out _).mono ?_
      rintro e w1 ⟨rfl, rfl⟩
      go_wp2_with fail
      refine (HC1.out _).mono ?_
      rintro e w2 ⟨rfl, rfl⟩
      go_wp2_with fail
      refine (HC2.out _).mono ?_
      rintro e w3 ⟨rfl, rfl⟩
      go_wp2_with fail
      go_ret
      exact ⟨rfl, rfl⟩
    · have hy : y = l := by have := HS.out; rw [if_neg (by omega)] at this; omega
      subst hy
      have HC0' : Hid (∀ w : World, Calls Try.prog 5 #[.int .i64 b, .int .i64 y, .int .i64 0] w fun e w' => e = .returned (.int .i64 y) ∧ w' = w) := Dbl.hide fun w => by
        have := HC0.out w; rwa [if_neg (by omega)] at this
      clear HS HC0
      go_enter Try.func4, Try.ntmps4
      go_wp2_with fail
      refine (HC0'.out _).mono ?_
      rintro e w1 ⟨rfl, rfl⟩
      go_wp2_with fail
      refine (HC1.out _).mono ?_
      rintro e w2 ⟨rfl, rfl⟩
      go_wp2_with fail
      refine (HC2.out _).mono ?_
      rintro e w3 ⟨rfl, rfl⟩
      go_wp2_with fail
      go_ret
      exact ⟨rfl, rfl⟩
  · by_cases c2 : x * 2 < l
    · have hy : y = x * 2 := by have := HS.out; rw [if_pos (by omega)] at this; omega
      subst hy
      have HC0' : Hid (∀ w : World, Calls Try.prog 5 #[.int .i64 b, .int .i64 l, .int .i64 0] w fun e w' => e = .returned (.int .i64 b) ∧ w' = w) := Dbl.hide fun w => by
        have := HC0.out w; rwa [if_pos (by omega)] at this
      clear HS HC0
      go_enter Try.func4, Try.ntmps4
      go_wp2_with fail
      refine (HC0'.out _).mono ?_
      rintro e w1 ⟨rfl, rfl⟩
      go_wp2_with fail
      refine (HC1.out _).mono ?_
      rintro e w2 ⟨rfl, rfl⟩
      go_wp2_with fail
      refine (HC2.out _).mono ?_
      rintro e w3 ⟨rfl, rfl⟩
      go_wp2_with fail
      go_ret
      exact ⟨rfl, rfl⟩
    · have hy : y = l := by have := HS.out; rw [if_neg (by omega)] at this; omega
      subst hy
      have HC0' : Hid (∀ w : World, Calls Try.prog 5 #[.int .i64 b, .int .i64 y, .int .i64 0] w fun e w' => e = .returned (.int .i64 b) ∧ w' = w) := Dbl.hide fun w => by
        have := HC0.out w; rwa [if_pos (by omega)] at this
      clear HS HC0
      go_enter Try.func4, Try.ntmps4
      go_wp2_with fail
      refine (HC0'.out _).mono ?_
      rintro e w1 ⟨rfl, rfl⟩
      go_wp2_with fail
      refine (HC1.out _).mono ?_
      rintro e w2 ⟨rfl, rfl⟩
      go_wp2_with fail
      refine (HC2.out _).mono ?_
      rintro e w3 ⟨rfl, rfl⟩
      go_wp2_with fail
      go_ret
      exact ⟨rfl, rfl⟩

theorem walk (a0 : Int) (a1 : Int) (a2 : Int) (w0 : (Lit.int .i64 a0).wf = true) (w1 : (Lit.int .i64 a1).wf = true) (w2 : (Lit.int .i64 a2).wf = true) (w : World) :
    Calls Try.prog 4 #[.int .i64 a0, .int .i64 a1, .int .i64 a2] w fun e w' => e = .returned (.bool true) ∧ Grown w w' := by
  have b0 := bounds_i64 w0
  have b1 := bounds_i64 w1
  have b2 := bounds_i64 w2
  by_cases h : a0 < 0 ∨ a1 < 0 ∨ a2 < 0 ∨ a2 = 9223372036854775807
  · refine (early a0 a1 a2 w h).mono ?_
    rintro e w' ⟨rfl, rfl⟩
    exact ⟨rfl, Grown.refl _⟩
  · refine (late a0 a1 a2 w (by omega) (by omega) (by omega) (by omega) (by omega) (by omega)).mono ?_
    rintro e w' ⟨rfl, rfl⟩
    exact ⟨rfl, Grown.refl _⟩

/-! ### THE ROW's STEP: WRITTEN OUT: LEAVE IT -/
set_option maxRecDepth 100000 in
theorem lifted (os : Os) (started : os.Started) (H : Type) (enc : TypeId × Value → H) :
    ReturnsInHanded {} Try.checked os 4 .any (Rows.fnDoubledStepsByDoublingSpec.pre6 enc Try.prog Try.f4 Rows.fnDoubledStepsByDoublingRow.domain false) (Rows.fnDoubledStepsByDoublingSpec.post enc Try.prog Try.f4 false true false false) := by
  refine returnsInHanded_of_change (C := Try.checked) own started (by kernel_rfl) Try.func4
    (ChangeSpec.witness6 (enc := enc) (C := Try.checked) false ⟨#[], #[.int .i64 0, .int .i64 0, .int .i64 0], []⟩ 8 (by kernel_rfl) (by kernel_rfl) (by kernel_rfl) (by kernel_rfl)) ?_
  intro W base args ds gs before hval0 hW hcnd _
  have hval : ∀ (j : Nat) t v, Try.f4.params[j]? = some t → args[j]? = some v → Value.okWide Try.prog W .any base t v := hval0
  have hW' := hW
  obtain ⟨p, q, hA0, hV, rfl, hfz, hnd⟩ := hW
  have hA : DataW.TrodAll enc Try.prog W 0 (fun _ => true) true Try.f4.params.toList args.toList ds p := hA0
  rw [Try.params4] at hA hval
  obtain ⟨v0, vs0, d0, ds0, p0, q0, hargs, rfl, rfl, h0, r0⟩ := trodAll_cons hA
  obtain ⟨v1, vs1, d1, ds1, p1, q1, rfl, rfl, rfl, h1, r1⟩ := trodAll_cons r0
  obtain ⟨v2, vs2, d2, ds2, p2, q2, rfl, rfl, rfl, h2, r2⟩ := trodAll_cons r1
  obtain ⟨rfl, rfl, rfl⟩ := trodAll_nil r2
  obtain rfl : args = #[v0, v1, v2] := by cases args; simp_all
  obtain ⟨rfl, rfl⟩ := trodVars_none hV
  obtain ⟨a0, rfl, rfl, rfl, w0⟩ := open_int Try.underlying2 (hval 0 2 v0 rfl rfl) h0
  obtain ⟨a1, rfl, rfl, rfl, w1⟩ := open_int Try.underlying2 (hval 1 2 v1 rfl rfl) h1
  obtain ⟨a2, rfl, rfl, rfl, w2⟩ := open_int Try.underlying2 (hval 2 2 v2 rfl rfl) h2
  clear hA0 hval0
  simp only [List.append_nil] at hW'
  refine (walk a0 a1 a2 w0 w1 w2 W).mono fun e W' ⟨he, hg⟩ => ?_
  subst he
  exact ⟨_, rfl, post_of_same (pa := []) (pv := []) hW' (fun _ _ _ => (trodAll_cons_mk (shut_bool Try.underlying4 _) trodAll_mk0)) (fun sp _ => (trodAll_cons_mk (shut_int Try.underlying2 w0) (trodAll_cons_mk (shut_int Try.underlying2 w1) (trodAll_cons_mk (shut_int Try.underlying2 w2) trodAll_mk0)))) (fun _ _ => rfl) rfl
    (hg.frame _) hg.2.1 (ok_one (by kernel_rfl) rfl (okWide_bool_mk Try.underlying4 _))⟩

theorem over : Rows.fnDoubledStepsByDoublingRow.holds Try.pinned (OpenSpec.ofChange Rows.fnDoubledStepsByDoublingSpec) :=
  OpenClaim.holds_of_wide 4 Try.f4 rfl rfl rfl rfl rfl rfl rfl ⟨rfl, rfl, rfl, rfl, rfl⟩ rfl rfl rfl rfl rfl (by kernel_rfl) Try.func4 (by kernel_rfl)
    (of_decide_eq_true (by kernel_rfl)) (by unfold Func.isWrapper; first | (rw [if_pos (by decide +kernel)]; kernel_rfl) | (rw [if_neg (by decide +kernel)]; exact ⟨rfl, rfl⟩))
    (fun os started H enc _ => lifted os started H enc)

/-- ████ THE STATEMENT ████ -/
theorem proved : Rows.FnDoubledStepsByDoublingSaid :=
  over
end Go.Proofs.Qxb6605777a.fnDoubledStepsByDoubling
