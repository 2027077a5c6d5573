import Derived.Test.Qxb6605790aMakes
namespace Go.Proofs.Qxb6605790a.Count
open Go.ChangeShapes Go.WideShapes Go.ChangeAt Go.RowKit Go.Proofs.Qxb6605790a.Bits Go.Proofs.Qxb6605790a.Set
set_option linter.unusedVariables false

theorem ret_int {k : IntKind} {a b : Int} (h : a = b) : Ending.returned (.int k a) = .returned (.int k b) := by rw [h]

theorem clear_low (z : Nat) (hz : z < 18446744073709551616) (h0 : 0 < z) : bits BinOp.and IntKind.u64 (z : Int) ((z : Int) - 1) = ((z &&& (z - 1) : Nat) : Int) := by
  have e : (z : Int) - 1 = ((z - 1 : Nat) : Int) := by omega
  rw [e]
  exact u64_and_nat z (z - 1) hz (by omega)

theorem clear_lt (z : Nat) (h0 : 0 < z) : z &&& (z - 1) < z := by
  have := Nat.and_le_right (n := z) (m := z - 1)
  omega

/-- The inner loop's relation: what is counted, and what is left to count. -/
def Left (t y m z : Nat) : Prop := t + pc y = m + pc z

set_option maxHeartbeats 400000 in
theorem count_any (g n : Nat) (zs : List Nat) (w : World) (hn : zs.length = n) (hn2 : n ≤ 65536) (hf : Fits zs) (hr : Row w g zs) :
    Calls Try.prog 12 #[.slice (some ⟨g, 0, none⟩) n n] w fun e w' => e = .returned (.int .i64 ((cnt zs : Nat) : Int)) ∧ w' = w := by
  have HN := hide hn
  have HR := hide hr
  have HF := hide hf
  clear hn hr hf
  go_enter Try.func12, Try.ntmps12
  go_wp2
  go_loop [3, 4, 5] (fun c i u => ∃ k m : Nat, k ≤ n ∧ i = .int .i64 k ∧ m = cnt (zs.take k) ∧ m ≤ 64 * k ∧ c = .int .i64 m) (fun _ i _ => n - (intOf i).toNat)
  case atStart => exact ⟨0, 0, Nat.zero_le _, rfl, rfl, Nat.zero_le _, rfl⟩
  case round =>
    obtain ⟨k, m, hk, rfl, hm, hm2, rfl⟩ := hrel
    have HM := hide hm
    clear hm
    by_cases hlt : k < n
    · have hkl : k < zs.length := by rw [HN.out]; exact hlt
      have hc := (HR.out k hkl).1
      have hz := HF.out k
      have HT := hide (cnt_take zs k hkl)
      clear hkl
      generalize zs.getD k 0 = z at *
      go_wp2
      go_loop [3, 5] (fun c u => ∃ t y : Nat, c = .int .i64 t ∧ u = .int .u64 y ∧ y < 18446744073709551616 ∧ t ≤ 64 * (k + 1) ∧ Left t y m z) (fun _ u => (intOf u).toNat)
      case atStart => exact ⟨m, z, rfl, rfl, hz, by omega, rfl⟩
      case round =>
        obtain ⟨t, y, rfl, rfl, hy, ht, hs⟩ := hrel
        have HS : Hid (t + pc y = m + pc z) := hs
        clear hs
        by_cases h0 : y = 0
        · subst h0
          have HP : Hid (pc 0 = 0) := pcf_zero 64
          go_wp2
          go_round
          case rel => exact ⟨k + 1, t, by omega, by go_num, by rw [HT.out, ← HM.out]; have := HS.out; have := HP.out; omega, by omega, rfl⟩
          case measure => simp [intOf]; omega
        · have hy0 : 0 < y := by omega
          have hC := clear_low y hy hy0
          have hL := clear_lt y hy0
          have hQ : pc (y &&& (y - 1)) + 1 = pc y := pcf_clear 64 y hy0 (lt64 hy)
          generalize y &&& (y - 1) = x at hC hL hQ
          have HC := hide hC
          have HQ := hide hQ
          have HL := hide hL
          have HPZ : Hid (pc z ≤ 64) := pcf_le 64 z
          have hne : ((y : Int) != 0) = true := by rw [bne_iff_ne]; omega
          clear hC hQ hL h0
          go_wp2
          go_round
          case rel =>
            have h1 := HS.out
            have h2 := HQ.out
            have h3 := HL.out
            have h4 := HPZ.out
            refine ⟨t + 1, x, by go_num, by rw [HC.out], ?_, ?_, ?_⟩
            · omega
            · omega
            · show t + 1 + pc x = m + pc z
              omega
          case measure =>
            have h3 := HL.out
            rw [HC.out]
            simp only [intOf]
            omega
    · have HE : Hid (cnt zs = m) := hide <| by rw [HM.out, List.take_of_length_le (by rw [HN.out]; omega)]
      go_wp2
      go_ret
      exact ⟨ret_int (by rw [HE.out]), rfl⟩

set_option maxHeartbeats 400000 in
theorem equal_any (g h n : Nat) (zs ys : List Nat) (w : World) (hn : zs.length = n) (hn1 : ys.length = n) (hn2 : n ≤ 65536) (hr : Row w g zs) (hr1 : Row w h ys) (he : zs = ys) :
    Calls Try.prog 13 #[.slice (some ⟨g, 0, none⟩) n n, .slice (some ⟨h, 0, none⟩) n n] w fun e w' => e = .returned (.bool true) ∧ ∃ q, w' = w.drewN q := by
  have HN := hide hn
  have HR := hide hr
  have HR1 := hide hr1
  subst he
  clear hn hr hn1 hr1
  have hnn : ((n : Int) == (n : Int)) = true := by simp
  go_enter Try.func13, Try.ntmps13
  go_wp2
  go_loopw [5] (fun i wr => ∃ k : Nat, k ≤ n ∧ i = .int .i64 k ∧ ∃ q, wr = w.drewN q) (fun i _ => n - (intOf i).toNat)
  case atStart => exact ⟨0, Nat.zero_le _, rfl, 0, rfl⟩
  case round =>
    obtain ⟨k, hk, rfl, q, rfl⟩ := hrel
    by_cases hlt : k < n
    · have hkl : k < zs.length := by rw [HN.out]; exact hlt
      have hc := (HR.out k hkl).1
      have hc1 := (HR1.out k hkl).1
      clear hkl
      generalize zs.getD k 0 = z at *
      go_wp2
      go_quiet (fail)
      go_wp2
      go_roundw
      case rel => exact ⟨k + 1, by omega, by go_num, q + nq, rfl⟩
      case measure => simp [intOf]; omega
    · go_wp2
      go_ret
      exact ⟨rfl, q, rfl⟩
end Go.Proofs.Qxb6605790a.Count
