import Derived.Test.Qxb6605777aRows
import Derived.WalkKit
import Derived.ProofKit
import Derived.Outline
namespace Go.Proofs.Qxb6605777a.Dbl
open Go.ChangeShapes Go.WideShapes Go.ChangeAt Go.RowKit
set_option linter.unusedVariables false

/-- min(limit, base * 2^n), a plain function. -/
def mn (b l : Int) (n : Nat) : Int := if b * 2 ^ n ≤ l then b * 2 ^ n else l

theorem pow_pos2 (n : Nat) : (0 : Int) < 2 ^ n := Int.pow_pos (by decide)

theorem mn_le (b l : Int) (n : Nat) : mn b l n ≤ l := by unfold mn; split <;> omega

theorem mn_nonneg (b l : Int) (n : Nat) (h0 : 0 ≤ b) (h1 : 0 ≤ l) : 0 ≤ mn b l n := by
  unfold mn; split
  · exact Int.mul_nonneg h0 (Int.le_of_lt (pow_pos2 n))
  · exact h1

theorem mn_zero (b l : Int) : mn b l 0 = if b ≤ l then b else l := by simp [mn]

theorem mn_succ (b l : Int) (n : Nat) (h0 : 0 ≤ b) (h1 : 0 ≤ l) : mn b l (n + 1) = if 2 * mn b l n < l then 2 * mn b l n else l := by
  unfold mn
  have e : b * 2 ^ (n + 1) = 2 * (b * 2 ^ n) := by rw [Int.pow_succ, ← Int.mul_assoc, Int.mul_comm]
  rw [e]
  have : 0 ≤ b * 2 ^ n := Int.mul_nonneg h0 (Int.le_of_lt (pow_pos2 n))
  generalize b * 2 ^ n = x at *
  split <;> split <;> split <;> omega

theorem pow_le2 {m n : Nat} (h : m ≤ n) : (2 : Int) ^ m ≤ 2 ^ n := by
  have : (2 : Nat) ^ m ≤ 2 ^ n := Nat.pow_le_pow_right (by decide) h
  exact_mod_cast this

/-- At a shift of 64 or more, the product is within the limit only where the base is 0. -/
theorem cap_test (b l : Int) (n : Nat) (h0 : 0 ≤ b) (h3 : l ≤ 9223372036854775807) : b ≤ l / 2 ^ min n 64 ↔ b * 2 ^ n ≤ l := by
  rw [Int.le_ediv_iff_mul_le (pow_pos2 _)]
  by_cases h : n ≤ 64
  · rw [Nat.min_eq_left h]
  · rw [Nat.min_eq_right (by omega)]
    have e : (2 : Int) ^ 64 = 18446744073709551616 := by decide
    have h64 := pow_le2 (m := 64) (n := n) (by omega)
    rw [e] at *
    by_cases hb : b = 0
    · subst hb; simp
    · have h1 : 1 ≤ b := by omega
      have h2 : (18446744073709551616 : Int) ≤ b * 18446744073709551616 := by omega
      have h3' : b * 18446744073709551616 ≤ b * 2 ^ n := Int.mul_le_mul_of_nonneg_left h64 h0
      omega

theorem mn_ge (b l : Int) (n : Nat) (h0 : 0 ≤ b) (h3 : l ≤ 9223372036854775807) (h : l / 2 ^ min n 64 < b) : mn b l n = l := by
  have := cap_test b l n h0 h3
  unfold mn
  rw [if_neg (by omega)]

theorem mn_lt (b l : Int) (n : Nat) (h0 : 0 ≤ b) (h2 : 0 ≤ l) (h3 : l ≤ 9223372036854775807) (h : b ≤ l / 2 ^ min n 64) : mn b l n = wrap64 (b * 2 ^ min n 64) := by
  have h1 := (cap_test b l n h0 h3).1 h
  have hm : b * 2 ^ min n 64 ≤ l := by rwa [Int.le_ediv_iff_mul_le (pow_pos2 _)] at h
  unfold mn
  rw [if_pos h1]
  have e : b * 2 ^ n = b * 2 ^ min n 64 := by
    by_cases hn : n ≤ 64
    · rw [Nat.min_eq_left hn]
    · rw [Nat.min_eq_right (by omega)] at hm ⊢
      have e : (2 : Int) ^ 64 = 18446744073709551616 := by decide
      rw [e] at hm
      have : b = 0 := by omega
      subst this; simp
  rw [e]
  have : 0 ≤ b * 2 ^ min n 64 := Int.mul_nonneg h0 (Int.le_of_lt (pow_pos2 _))
  unfold wrap64
  omega

theorem hide {p : Prop} (h : p) : Hid p := h

theorem ret_int {k : IntKind} {a b : Int} (h : a = b) : Ending.returned (.int k a) = .returned (.int k b) := by rw [h]

set_option maxHeartbeats 400000 in
theorem doubled_any (b l n : Int) (w : World) (h0 : 0 ≤ b) (h1 : b ≤ 9223372036854775807) (h2 : 0 ≤ l) (h3 : l ≤ 9223372036854775807) (h4 : 0 ≤ n) :
    Calls Try.prog 7 #[.int .i64 b, .int .i64 l, .int .i64 n] w fun e w' => e = .returned (.int .i64 (mn b l n.toNat)) ∧ w' = w := by
  go_enter Try.func7, Try.ntmps7
  by_cases h : l / 2 ^ min n.toNat 64 < b
  · have H : Hid _ := mn_ge b l n.toNat h0 h3 h
    go_wp2
    go_ret
    exact ⟨ret_int H.out.symm, rfl⟩
  · have H : Hid _ := mn_lt b l n.toNat h0 h2 h3 (by omega)
    go_wp2
    go_ret
    exact ⟨ret_int H.out.symm, rfl⟩

theorem ZZdoubled_any (b l n : Int) (w : World) (h0 : 0 ≤ b) (h1 : b ≤ 9223372036854775807) (h2 : 0 ≤ l) (h3 : l ≤ 9223372036854775807) (h4 : 0 ≤ n) :
    Calls Try.prog 5 #[.int .i64 b, .int .i64 l, .int .i64 n] w fun e w' => e = .returned (.int .i64 (mn b l n.toNat)) ∧ w' = w := by
  go_enter Try.func5, Try.ntmps5
  go_wp2_with (go_at_call 7; refine (doubled_any _ _ _ _ h0 h1 h2 h3 h4).mono ?_; rintro e w' ⟨rfl, rfl⟩)
  go_ret
  exact ⟨rfl, rfl⟩

set_option maxHeartbeats 400000 in
theorem power_any (b l n : Int) (w : World) (h0 : 0 ≤ b) (h1 : b ≤ 9223372036854775807) (h2 : 0 ≤ l) (h3 : l ≤ 9223372036854775807) (h4 : 0 ≤ n) (h5 : n ≤ 9223372036854775807) :
    Calls Try.prog 6 #[.int .i64 b, .int .i64 l, .int .i64 n] w fun e w' => e = .returned (.int .i64 (mn b l n.toNat)) ∧ w' = w := by
  go_enter Try.func6, Try.ntmps6
  go_wp2
  go_loop [7, 9] (fun v i => ∃ (k : Nat) (m : Int), (k : Int) ≤ n ∧ i = .int .i64 k ∧ m = b * 2 ^ k ∧ 0 ≤ m ∧ m ≤ 18446744073709551614 ∧ v = .int .u64 m) (fun _ i => (n - intOf i).toNat)
  case atStart => exact ⟨0, b, h4, rfl, by simp, h0, by omega, rfl⟩
  case round =>
    obtain ⟨k, m, hk, rfl, hm, hm0, hm1, rfl⟩ := hrel
    have HM : Hid (m = _) := hm
    clear hm
    by_cases c1 : (k : Int) < n
    · by_cases c2 : m = 0
      · subst c2
        have HZ : Hid (mn b l n.toNat = 0) := hide <| by
          have hb : b = 0 := by
            have := HM.out
            have hp := pow_pos2 k
            rcases Int.mul_eq_zero.1 this.symm with h | h
            · exact h
            · omega
          unfold mn; rw [hb]; simp [h2]
        go_wp2
        go_ret
        exact ⟨ret_int HZ.out.symm, rfl⟩
      · by_cases c3 : m ≤ l
        · go_wp2
          go_round
          case rel => exact ⟨k + 1, m * 2, by omega, by go_num, by rw [HM.out, Int.pow_succ, Int.mul_assoc], by omega, by omega, rfl⟩
          case measure => simp [intOf]; omega
        · have HZ : Hid (mn b l n.toNat = l) := hide <| by
            have h := HM.out
            have h64 := pow_le2 (m := k) (n := n.toNat) (by omega)
            have := Int.mul_le_mul_of_nonneg_left h64 h0
            unfold mn; rw [if_neg (by omega)]
          go_wp2
          go_ret
          exact ⟨ret_int HZ.out.symm, rfl⟩
    · have HN : Hid (m = b * 2 ^ n.toNat) := hide <| by
        have := HM.out
        rw [show n.toNat = k by omega]; exact this
      by_cases c3 : m ≤ l
      · have HZ : Hid (mn b l n.toNat = m) := hide <| by unfold mn; rw [← HN.out, if_pos c3]
        go_wp2
        go_ret
        exact ⟨ret_int HZ.out.symm, rfl⟩
      · have HZ : Hid (mn b l n.toNat = l) := hide <| by unfold mn; rw [← HN.out, if_neg c3]
        go_wp2
        go_ret
        exact ⟨ret_int HZ.out.symm, rfl⟩
end Go.Proofs.Qxb6605777a.Dbl
