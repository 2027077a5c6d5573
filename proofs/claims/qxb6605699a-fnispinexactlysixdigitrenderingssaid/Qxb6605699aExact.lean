import Derived.Test.Qxb6605699aLate
import Derived.WalkKit
import Derived.Outline
namespace Go.Proofs.Qxb6605699a.Exact
open Go.ChangeShapes Go.WideShapes Go.ChangeAt Go.RowKit Go.Proofs.Qxb6605699a.Pin Go.Proofs.Qxb6605699a.Late
set_option linter.unusedVariables false

/-- A byte's distance from '0', modulo 10. -/
def dd (c : UInt8) : Int := (((c.toNat : Int) - 48) % 256) % 10

def num (l : List UInt8) : Int := l.foldl (fun n c => n * 10 + dd c) 0

theorem num_snoc (l : List UInt8) (c : UInt8) : num (l ++ [c]) = num l * 10 + dd c := by simp [num]

theorem dd_bd (c : UInt8) : 0 ≤ dd c ∧ dd c ≤ 9 := by unfold dd; omega

theorem num_bd (l : List UInt8) : ∀ k : Nat, k ≤ l.length → 0 ≤ num (l.take k) ∧ num (l.take k) < 10 ^ k := by
  intro k
  induction k with
  | zero => intro _; simp [num]
  | succ k ih =>
    intro h
    have := ih (by omega)
    rw [List.take_succ_eq_append_getElem (by omega), num_snoc, Int.pow_succ]
    have := dd_bd l[k]
    omega

theorem num_bd6 (l : List UInt8) (k : Nat) (hk : k ≤ l.length) (h6 : k ≤ 6) : 0 ≤ num (l.take k) ∧ num (l.take k) ≤ 999999 := by
  have h := num_bd l k hk
  have : (10 : Int) ^ k ≤ 10 ^ 6 := by
    have : (10 : Nat) ^ k ≤ 10 ^ 6 := Nat.pow_le_pow_right (by decide) h6
    exact_mod_cast this
  have e : (10 : Int) ^ 6 = 1000000 := by decide
  omega

theorem six_list (l : List UInt8) (h : l.length = 6) : ∃ a b c d e f, l = [a, b, c, d, e, f] := by
  match l, h with
  | [a, b, c, d, e, f], _ => exact ⟨a, b, c, d, e, f, rfl⟩

theorem byte_eq {x y : UInt8} (h : (x.toNat : Int) = y.toNat) : x = y := UInt8.toNat_inj.1 (by omega)

theorem pin_of_digits (l : List UInt8) (h : l.length = 6) (hd : dig l 6 = true) : pinList (num (l.take 6)) = l := by
  obtain ⟨a, b, c, d, e, f, rfl⟩ := six_list l h
  simp [dig] at hd
  obtain ⟨⟨a1, a2⟩, ⟨b1, b2⟩, ⟨c1, c2⟩, ⟨d1, d2⟩, ⟨e1, e2⟩, f1, f2⟩ := hd
  have hn : num ([a, b, c, d, e, f].take 6) = (((((a.toNat - 48 : Int) * 10 + (b.toNat - 48)) * 10 + (c.toNat - 48)) * 10 + (d.toNat - 48)) * 10 + (e.toNat - 48)) * 10 + (f.toNat - 48) := by
    simp [num, dd]
    omega
  have e0 := dg_toNat (num ([a, b, c, d, e, f].take 6)) 0
  have e1' := dg_toNat (num ([a, b, c, d, e, f].take 6)) 1
  have e2' := dg_toNat (num ([a, b, c, d, e, f].take 6)) 2
  have e3 := dg_toNat (num ([a, b, c, d, e, f].take 6)) 3
  have e4 := dg_toNat (num ([a, b, c, d, e, f].take 6)) 4
  have e5 := dg_toNat (num ([a, b, c, d, e, f].take 6)) 5
  generalize num ([a, b, c, d, e, f].take 6) = n at *
  simp only [Nat.sub_zero, Nat.reduceSub, Nat.sub_self, Int.pow_zero, Int.reducePow] at e0 e1' e2' e3 e4 e5
  unfold pinList
  rw [byte_eq (x := dg n 0) (y := a) (by omega), byte_eq (x := dg n 1) (y := b) (by omega), byte_eq (x := dg n 2) (y := c) (by omega), byte_eq (x := dg n 3) (y := d) (by omega), byte_eq (x := dg n 4) (y := e) (by omega), byte_eq (x := dg n 5) (y := f) (by omega)]

/-- THE PLAIN LAW. -/
theorem law (s : ByteArray) : isPinB s = decide (pinStr (num (s.data.toList.take 6)) = s) := by
  by_cases h : isPinB s = true
  · rw [h]
    symm
    rw [decide_eq_true_eq]
    unfold isPinB at h
    simp only [Bool.and_eq_true, decide_eq_true_eq] at h
    have hl : s.data.toList.length = 6 := h.1
    unfold pinStr
    rw [pin_of_digits _ hl h.2]
  · rw [Bool.not_eq_true] at h
    rw [h]
    symm
    rw [decide_eq_false_iff_not]
    intro e
    have := pin_isPin (num (s.data.toList.take 6))
    rw [e, h] at this
    cases this

theorem law' (s : ByteArray) : (isPinB s == ((pinStr (num (s.data.toList.take 6))).toList == s.toList)) = true := by
  rw [law s]
  by_cases e : pinStr (num (s.data.toList.take 6)) = s
  · rw [decide_eq_true e, e]; simp
  · rw [decide_eq_false e]
    have : ((pinStr (num (s.data.toList.take 6))).toList == s.toList) = false := by
      rw [beq_eq_false_iff_ne]
      intro h
      rw [ByteArray.toList_eq, ByteArray.toList_eq] at h
      exact e (bytes_inj h)
    rw [this]
    rfl

theorem bytes_any (s : ByteArray) (w : World) (hs : s.size ≤ 1048576) :
    Calls Try.prog 5 #[.string s] w fun e w' => e = .returned (.bool true) ∧ w' = w := by
  go_enter Try.func5, Try.ntmps5
  go_wp2
  go_ret
  exact ⟨rfl, rfl⟩

theorem bytes_long (s : ByteArray) (w : World) (hs : 1048576 < s.size) :
    Calls Try.prog 5 #[.string s] w fun e w' => e = .returned (.bool false) ∧ w' = w := by
  go_enter Try.func5, Try.ntmps5
  go_wp2
  go_ret
  exact ⟨rfl, rfl⟩

theorem long (s : ByteArray) (w : World) (hs : 1048576 < s.size) :
    Calls Try.prog 3 #[.string s] w fun e w' => e = .returned (.bool true) ∧ w' = w := by
  go_enter Try.func3, Try.ntmps3
  go_wp2_with (go_at_call 5; refine (bytes_long _ _ hs).mono ?_; rintro e w' ⟨rfl, rfl⟩)
  go_ret
  exact ⟨rfl, rfl⟩

set_option maxHeartbeats 400000 in
theorem short (s : ByteArray) (w : World) (hs : s.size ≤ 1048576) :
    Calls Try.prog 3 #[.string s] w fun e w' => e = .returned (.bool true) ∧ Below w.heap.size w w' := by
  go_enter Try.func3, Try.ntmps3
  go_wp2_with (go_at_call 5; refine (bytes_any _ _ hs).mono ?_; rintro e w' ⟨rfl, rfl⟩)
  go_loop [3, 4] (fun n i => ∃ (k : Nat) (m : Int), k ≤ 6 ∧ k ≤ s.size ∧ i = .int .i64 k ∧ m = num (s.data.toList.take k) ∧ n = .int .i64 m) (fun _ i => 6 - (intOf i).toNat)
  case atStart => exact ⟨0, 0, Nat.zero_le _, Nat.zero_le _, rfl, rfl, rfl⟩
  case round =>
    obtain ⟨k, m, hk6, hks, rfl, hm, rfl⟩ := hrel
    have hmb : 0 ≤ m ∧ m ≤ 999999 := by rw [hm]; exact num_bd6 _ k hks hk6
    obtain ⟨hm0, hm1⟩ := hmb
    have HM : Hid (m = _) := hm
    clear hm
    by_cases hc : k < s.size ∧ k < 6
    · obtain ⟨hlt, hl6⟩ := hc
      go_wp2
      go_round
      case rel =>
        refine ⟨k + 1, _, by omega, by omega, by go_num, ?_, rfl⟩
        have hkl : k < s.data.toList.length := hlt
        rw [List.take_succ_eq_append_getElem hkl, num_snoc, ← HM.out]
        rfl
      case measure => simp [intOf]; omega
    · have hm : m = num (s.data.toList.take 6) := by
        rw [HM.out]
        by_cases h6 : k = 6
        · rw [h6]
        · have hkl : s.data.toList.length = k := by show s.size = k; omega
          rw [List.take_of_length_le (by omega), List.take_of_length_le (by omega)]
      have HL : Hid ((isPinB s == ((pinStr m).toList == s.toList)) = true) := by rw [hm]; exact law' s
      clear hm
      by_cases hlt : k < s.size
      · have hl6 : ¬ k < 6 := by omega
        clear hc
        go_wp2_with fail
        refine (ZZisPIN_any s _).mono ?_
        rintro e w1 ⟨rfl, hb1⟩
        go_wp2_with fail
        refine (pin6_any _ _ hm0 hm1).mono ?_
        rintro e w2 ⟨rfl, hb2⟩
        go_wp2_with fail
        go_ret
        exact ⟨ret_bool HL.out, after hb1 hb2⟩
      · clear hc
        go_wp2_with fail
        refine (ZZisPIN_any s _).mono ?_
        rintro e w1 ⟨rfl, hb1⟩
        go_wp2_with fail
        refine (pin6_any _ _ hm0 hm1).mono ?_
        rintro e w2 ⟨rfl, hb2⟩
        go_wp2_with fail
        go_ret
        exact ⟨ret_bool HL.out, after hb1 hb2⟩

theorem walk (s : ByteArray) (w : World) :
    Calls Try.prog 3 #[.string s] w fun e w' => e = .returned (.bool true) ∧ Below w.heap.size w w' := by
  by_cases hs : s.size ≤ 1048576
  · exact short s w hs
  · refine (long s w (by omega)).mono ?_
    rintro e w' ⟨rfl, rfl⟩
    exact ⟨rfl, Below.refl _ _⟩
end Go.Proofs.Qxb6605699a.Exact
