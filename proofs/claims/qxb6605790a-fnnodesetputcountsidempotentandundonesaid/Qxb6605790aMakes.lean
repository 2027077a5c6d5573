import Derived.Test.Qxb6605790aSet
namespace Go.Proofs.Qxb6605790a.Makes
open Go.ChangeShapes Go.WideShapes Go.ChangeAt Go.RowKit Go.Proofs.Qxb6605790a.Bits Go.Proofs.Qxb6605790a.Set
set_option linter.unusedVariables false

theorem bytes_ok (a : Option Addr) (n cap : Nat) (i : Int) (inn : Bool) (w : World) (hn : n ≤ 1048576) :
    Calls Try.prog 7 #[.slice a n cap, .int .i64 i, .bool inn] w fun e w' => e = .returned (.bool true) ∧ w = w' := by
  go_enter Try.func7, Try.ntmps7
  go_wp2
  go_ret
  exact ⟨rfl, rfl⟩

theorem bytes_long (a : Option Addr) (n cap : Nat) (i : Int) (inn : Bool) (w : World) (hn : 1048576 < n) (hn2 : n ≤ 9223372036854775807) :
    Calls Try.prog 7 #[.slice a n cap, .int .i64 i, .bool inn] w fun e w' => e = .returned (.bool false) ∧ w' = w := by
  go_enter Try.func7, Try.ntmps7
  go_wp2
  go_ret
  exact ⟨rfl, rfl⟩

theorem early (a : Option Addr) (n cap : Nat) (i : Int) (inn : Bool) (w : World) (hn2 : n ≤ 9223372036854775807) (h : 65536 < n ∨ i < 0 ∨ 64 * (n : Int) ≤ i) :
    Calls Try.prog 3 #[.slice a n cap, .int .i64 i, .bool inn] w fun e w' => e = .returned (.bool true) ∧ w' = w := by
  by_cases c1 : 1048576 < n
  · clear h
    go_enter Try.func3, Try.ntmps3
    go_wp2_with (go_at_call 7; refine (bytes_long _ _ _ _ _ _ c1 hn2).mono ?_; rintro e w' ⟨rfl, rfl⟩)
    go_ret
    exact ⟨rfl, rfl⟩
  by_cases c2 : 65536 < n
  · clear h
    go_enter Try.func3, Try.ntmps3
    go_wp2_with (go_at_call 7; refine (bytes_ok _ _ _ _ _ _ (by omega)).mono ?_; rintro e w' ⟨rfl, rfl⟩)
    go_ret
    exact ⟨rfl, rfl⟩
  by_cases c3 : i < 0
  · clear h
    go_enter Try.func3, Try.ntmps3
    go_wp2_with (go_at_call 7; refine (bytes_ok _ _ _ _ _ _ (by omega)).mono ?_; rintro e w' ⟨rfl, rfl⟩)
    go_ret
    exact ⟨rfl, rfl⟩
  have c4 : 64 * (n : Int) ≤ i := by omega
  clear h
  go_enter Try.func3, Try.ntmps3
  go_wp2_with (go_at_call 7; refine (bytes_ok _ _ _ _ _ _ (by omega)).mono ?_; rintro e w' ⟨rfl, rfl⟩)
  go_ret
  exact ⟨rfl, rfl⟩

theorem after {w a b : World} (h : Below w.heap.size w a) (k : Below a.heap.size a b) : Below w.heap.size w b := h.trans (k.mono h.size)

set_option maxHeartbeats 1000000 in
theorem late (b off n cap i : Nat) (inn : Bool) (zs : List Nat) (w : World) (hn : zs.length = n) (hn2 : n ≤ 65536) (hi : i < 64 * n) (hf : Fits zs)
    (hr : ∀ j, j < n → w.cell? ⟨b, off + j, none⟩ = some (.int .u64 ((zs.getD j 0 : Nat) : Int))) :
    Calls Try.prog 3 #[.slice (some ⟨b, off, none⟩) n cap, .int .i64 i, .bool inn] w fun e w' => e = .returned (.bool true) ∧ Below w.heap.size w w' := by
  have HN := hide hn
  have HR := hide hr
  have HF := hide hf
  clear hn hr hf
  go_enter Try.func3, Try.ntmps3
  go_wp2_with (go_at_call 7; refine (bytes_ok _ _ _ _ _ _ (by omega)).mono ?_; rintro e w' ⟨rfl, rfl⟩)
  refine (clone_any b off n cap zs _ HN.out hn2 HR.out).mono ?_
  rintro e w1 ⟨rfl, hb1, hsz1, hrow1⟩
  have HR1 := hide hrow1
  have HS1 := hide hsz1
  have HB1 := hide hb1
  clear hrow1 hsz1 hb1
  go_wp2_with fail
  refine (clone_any w.heap.size 0 n n zs w1 HN.out hn2 (fun j hj => by rw [Nat.zero_add]; exact (HR1.out j (by rw [HN.out]; exact hj)).1)).mono ?_
  rintro e w2 ⟨rfl, hb2, hsz2, hrow2⟩
  have HR2 : Hid (Row w2 w.heap.size zs) := HR1.out.below hb2 (by have := HS1.out; omega)
  have HO2 := hide hrow2
  have HB2 : Hid (Below w.heap.size w w2) := after HB1.out hb2
  clear hrow2 hsz2 hb2 HB1 HR1
  obtain ⟨g, hg⟩ : ∃ g, g = w1.heap.size := ⟨_, rfl⟩
  have HG : Hid (g ≠ w.heap.size) := by rw [hg]; have := HS1.out; exact (by omega : w1.heap.size ≠ w.heap.size)
  rw [← hg] at HO2 ⊢
  clear hg HS1
  go_wp2_with fail
  refine (put_any w.heap.size n i inn zs w2 HN.out hi hn2 HF.out HR2.out).mono ?_
  rintro e w3 ⟨rfl, hw3⟩
  have hil : i / 64 < zs.length := by rw [HN.out]; omega
  have HR3 : Hid (Row w3 w.heap.size (Bits.put zs i inn)) := by rw [hw3]; exact HR2.out.put inn hil
  have HO3 : Hid (Row w3 g zs) := by rw [hw3]; exact HO2.out.set_other _ HG.out
  have HB3 : Hid (Below w.heap.size w w3) := by rw [hw3]; exact (HB2.out.setCell (Nat.le_refl _) _).drew
  have HF3 : Hid (Fits (Bits.put zs i inn)) := put_fits zs i inn hil HF.out
  have HL3 : Hid ((Bits.put zs i inn).length = n) := by rw [put_len]; exact HN
  have HM : Hid (∀ k, mem (Bits.put zs i inn) k = if k = i then inn else mem zs k) := mem_put zs i inn hil HF.out
  clear hw3 HB2 HR2 HO2 hil
  obtain ⟨ys, hys⟩ : ∃ ys, ys = Bits.put zs i inn := ⟨_, rfl⟩
  rw [← hys] at HR3 HF3 HL3 HM
  clear hys
  go_wp2_with fail
  refine (member_any w.heap.size n i ys w3 HL3.out hi hn2 HF3.out HR3.out).mono ?_
  rintro e w4 ⟨rfl, rfl⟩
  rw [HM.out i, if_pos rfl]
  have hbb : (inn == inn) = true := by simp
  go_wp2_with fail
  go_loop [8] (fun k => ∃ t : Nat, t ≤ 64 * n ∧ k = .int .i64 t) (fun k => 64 * n - (intOf k).toNat)
  case atStart => exact ⟨0, Nat.zero_le _, rfl⟩
  case round =>
    obtain ⟨t, ht, rfl⟩ := hrel
    by_cases hlt : t < 64 * n
    · by_cases hti : t = i
      · subst hti
        go_wp2_with fail
        go_round
        case rel => exact ⟨t + 1, by omega, by go_num⟩
        case measure => simp [intOf]; omega
      · have hne : ((t : Int) == (i : Int)) = false := by rw [beq_eq_false_iff_ne]; omega
        go_wp2_with fail
        refine (member_any w.heap.size n t ys _ HL3.out hlt hn2 HF3.out HR3.out).mono ?_
        rintro e w5 ⟨rfl, rfl⟩
        rw [HM.out t, if_neg hti]
        go_wp2_with fail
        refine (member_any g n t zs _ HN.out hlt hn2 HF.out HO3.out).mono ?_
        rintro e w6 ⟨rfl, rfl⟩
        go_wp2_with fail
        go_round
        case rel => exact ⟨t + 1, by omega, by go_num⟩
        case measure => simp [intOf]; omega
    · go_wp2_with fail
      go_ret
      exact ⟨rfl, HB3.out⟩
end Go.Proofs.Qxb6605790a.Makes
