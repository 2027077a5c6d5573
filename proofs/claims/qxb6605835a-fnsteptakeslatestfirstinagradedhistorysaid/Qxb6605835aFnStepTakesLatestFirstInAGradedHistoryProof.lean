/-
  The proof of 'Rows.FnStepTakesLatestFirstInAGradedHistorySaid': the arguments opened, the walk of Qxb6605835aF4, the arguments read again.
-/
import Derived.Test.Qxb6605835aRows
import Derived.Test.Qxb6605835aOpen
import Derived.Test.Qxb6605835aF4
import Derived.WalkKit
import Derived.ProofKit
import Derived.OpenShut
import Derived.ChangeOld
import Derived.Below
namespace Go.Proofs.Qxb6605835a.fnStepTakesLatestFirstInAGradedHistory
open Go.ChangeShapes Go.WideShapes Go.ChangeAt Go.RowKit
set_option linter.unusedVariables false

theorem own : ownKnob Try.prog.godebug = none := by kernel_rfl
theorem laidOut : laidOutB Try.prog = true := by kernel_rfl

set_option maxRecDepth 100000 in
theorem lifted (os : Os) (started : os.Started) (H : Type) (enc : TypeId × Value → H) :
    ReturnsInHanded {} Try.checked os 4 .any (Rows.fnStepTakesLatestFirstInAGradedHistorySpec.pre6 enc Try.prog Try.f4 Rows.fnStepTakesLatestFirstInAGradedHistoryRow.domain false) (Rows.fnStepTakesLatestFirstInAGradedHistorySpec.post enc Try.prog Try.f4 false true false false) := by
  refine returnsInHanded_of_change (C := Try.checked) own started (by kernel_rfl) Try.func4
    (ChangeSpec.witness6 (enc := enc) (C := Try.checked) false ⟨#[], #[.agg zeroZ, .agg zeroZ, .slice none 0 0], []⟩ 8 (by kernel_rfl) (by kernel_rfl) (by kernel_rfl) (by kernel_rfl)) ?_
  intro W base args ds gs before hval0 hW hcnd _
  have hval : ∀ (j : Nat) t v, Try.f4.params[j]? = some t → args[j]? = some v → Value.okWide Try.prog W .any base t v := hval0
  have hW' := hW
  obtain ⟨p, q, hA0, hV, rfl, hfz, hnd⟩ := hW
  have hA : DataW.TrodAll enc Try.prog W 0 (fun _ => true) true Try.f4.params.toList args.toList ds p := hA0
  rw [Try.params4] at hA hval
  obtain ⟨v0, vs0, d0, ds0, p0, q0, hargs, rfl, rfl, h0, r0⟩ := trodAll_cons hA
  obtain ⟨v1, vs1, d1, ds1, p1, q1, rfl, rfl, rfl, h1, r1⟩ := trodAll_cons r0
  obtain ⟨v2, vs2, d2, ds2, p2, q2, rfl, rfl, rfl, h2, r2⟩ := trodAll_cons r1
  obtain ⟨rfl, rfl, rfl⟩ := trodAll_nil r2
  obtain rfl : args = #[v0, v1, v2] := by cases args; simp_all
  obtain ⟨rfl, rfl⟩ := trodVars_none hV
  obtain ⟨c0, rfl, _⟩ := okWide_struct Try.underlying24 (hval 0 24 v0 rfl rfl)
  obtain ⟨c1, rfl, _⟩ := okWide_struct Try.underlying24 (hval 1 24 v1 rfl rfl)
  obtain ⟨a2, len2, cap2, rfl⟩ := okWide_slice Try.underlying25 (hval 2 25 v2 rfl rfl)
  have k0 := h0
  have k1 := h1
  have k2 := h2
  have lt0 : ∀ x ∈ p0, x.block < W.heap.size := by obtain ⟨m, hm⟩ := k0; exact DataW.trod_lt m _ _ _ hm
  have lt1 : ∀ x ∈ p1, x.block < W.heap.size := by obtain ⟨m, hm⟩ := k1; exact DataW.trod_lt m _ _ _ hm
  have lt2 : ∀ x ∈ p2, x.block < W.heap.size := by obtain ⟨m, hm⟩ := k2; exact DataW.trod_lt m _ _ _ hm
  obtain ⟨a, ha, hpa⟩ : ∃ a : Cm, c0 = zarr a ∧ ParA W a := by
    obtain ⟨fuel, hf⟩ := h0
    obtain ⟨a, ha, hpa⟩ := open_z hf
    exact ⟨a, Array.toList_inj.1 (by simpa [Value.cells] using ha), hpa⟩
  obtain ⟨b, hb, hpb⟩ : ∃ b : Cm, c1 = zarr b ∧ ParA W b := by
    obtain ⟨fuel, hf⟩ := h1
    obtain ⟨b, hb, hpb⟩ := open_z hf
    exact ⟨b, Array.toList_inj.1 (by simpa [Value.cells] using hb), hpb⟩
  subst ha hb
  obtain ⟨T, ht, hpt⟩ : ∃ T : List Cm, len2 = T.length ∧ TabA W a2 T := by
    obtain ⟨fuel, hf⟩ := h2
    obtain ⟨ta, tc, T, hv, hT⟩ := open_tab (v := .slice a2 len2 cap2) (by simpa [Value.cells] using hf)
    simp only [Value.slice.injEq] at hv
    obtain ⟨rfl, rfl, rfl⟩ := hv
    exact ⟨T, rfl, hT⟩
  subst ht
  clear hA0 hval0
  refine (f4_any a b a2 cap2 T W hpa hpb hpt).mono fun e W' ⟨he, bel⟩ => ?_
  subst he
  exact ⟨_, rfl, _, _, _, [], _, [], hW', trodAll_mk1 (shut_bool Try.underlying4 _), (trodAll_cons_mk (Below.trod laidOut (by kernel_rfl) (of_decide_eq_true (by kernel_rfl)) k0 bel lt0) (trodAll_cons_mk (Below.trod laidOut (by kernel_rfl) (of_decide_eq_true (by kernel_rfl)) k1 bel lt1) (trodAll_cons_mk (Below.trod laidOut (by kernel_rfl) (of_decide_eq_true (by kernel_rfl)) k2 bel lt2) trodAll_mk0))), rfl, bel.frame _, fun h => by cases h⟩

theorem over : Rows.fnStepTakesLatestFirstInAGradedHistoryRow.holds Try.pinned (OpenSpec.ofChange Rows.fnStepTakesLatestFirstInAGradedHistorySpec) :=
  OpenClaim.holds_of_wide 4 Try.f4 rfl rfl rfl rfl rfl rfl rfl ⟨rfl, rfl, rfl, rfl, rfl⟩ rfl rfl rfl rfl rfl (by kernel_rfl) Try.func4 (by kernel_rfl)
    (of_decide_eq_true (by kernel_rfl)) (by unfold Func.isWrapper; first | (rw [if_pos (by decide +kernel)]; kernel_rfl) | (rw [if_neg (by decide +kernel)]; exact ⟨rfl, rfl⟩))
    (fun os started H enc _ => lifted os started H enc)

/-- ████ THE STATEMENT ████ -/
theorem proved : Rows.FnStepTakesLatestFirstInAGradedHistorySaid := over
end Go.Proofs.Qxb6605835a.fnStepTakesLatestFirstInAGradedHistory
