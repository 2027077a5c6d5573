import Derived.Test.Qxb6605699aRows
import Derived.WalkKit
import Derived.ProofKit
import Derived.Laws.IdiomStrings
import Derived.Outline
namespace Go.Proofs.Qxb6605699a.Pin
open Go.ChangeShapes Go.WideShapes Go.ChangeAt Go.RowKit
set_option linter.unusedVariables false

/-- 'every one of the first k bytes is a digit' -/
def dig (l : List UInt8) (k : Nat) : Bool := (l.take k).all (fun c => decide (48 ≤ c.toNat ∧ c.toNat ≤ 57))

/-- The plain function: six bytes, each a digit. -/
def isPinB (s : ByteArray) : Bool := decide (s.size = 6) && dig s.data.toList 6

theorem dig_succ (l : List UInt8) (k : Nat) (h : k < l.length) : dig l (k + 1) = (dig l k && decide (48 ≤ l[k].toNat ∧ l[k].toNat ≤ 57)) := by
  unfold dig
  rw [List.take_succ_eq_append_getElem h, List.all_append]
  simp

theorem dig_false (l : List UInt8) (k : Nat) (h : k < l.length) (hb : ¬ (48 ≤ l[k].toNat ∧ l[k].toNat ≤ 57)) (m : Nat) (hm : k < m) : dig l m = false := by
  unfold dig
  rw [List.all_eq_false]
  refine ⟨l[k], ?_, by simpa using hb⟩
  rw [List.mem_take_iff_getElem]
  exact ⟨k, by omega, rfl⟩

theorem short_any (s : ByteArray) (w : World) (hs : s.size ≠ 6) :
    Calls Try.prog 8 #[.string s] w fun e w' => e = .returned (.bool false) ∧ w' = w := by
  have h6 : ((s.size : Int) == 6) = false := by simp; omega
  go_enter Try.func8, Try.ntmps8
  go_wp2
  go_ret
  exact ⟨rfl, rfl⟩

theorem ret_bool {a b : Bool} (h : a = b) : Ending.returned (.bool a) = .returned (.bool b) := by rw [h]

set_option maxHeartbeats 400000 in
theorem six_any (s : ByteArray) (w : World) (hs : s.size = 6) :
    Calls Try.prog 8 #[.string s] w fun e w' => e = .returned (.bool (dig s.data.toList 6)) ∧ Below w.heap.size w w' := by
  have h6 : ((s.size : Int) == 6) = true := by simp; omega
  have HS : Hid (s.size = 6) := hs
  obtain ⟨C, cap, HC, hconv⟩ : ∃ C cap, Hid (C = bytesRow s (grownCap w s.size 0 5)) ∧ (convert 9 24 (.string s)).run Try.prog w = .ok (.slice (some ⟨w.heap.size, 0, none⟩) 6 cap) (w.drew.alloc (.cells C 5 (C.size, C.size + 1))) := by
    refine ⟨bytesRow s (grownCap w s.size 0 5), grownCap w s.size 0 5, rfl, ?_⟩
    have := run_bytes_of_string (P := Try.prog) w 9 24 5 s Try.underlying9 Try.underlying24 Try.underlying5
    rw [hs] at this ⊢; exact this
  have hl : s.data.toList.length = 6 := by rw [← hs]; rfl
  have HL : Hid (s.data.toList.length = 6) := hl
  have hcell : ∀ k (h : k < s.data.toList.length), (w.alloc (.cells C 5 (C.size, C.size + 1))).cell? ⟨w.heap.size, k, none⟩ = some (.int .u8 ((s.data.toList[k]).toNat : Int)) := by
    intro k h
    rw [World.cell?_alloc_mark, HC.out, bytesRow_at s _ k (by simpa using h)]
    simp
  have Hcell : Hid (∀ k (h : k < s.data.toList.length), (w.alloc (.cells C 5 (C.size, C.size + 1))).cell? ⟨w.heap.size, k, none⟩ = some (.int .u8 ((s.data.toList[k]).toNat : Int))) := hcell
  clear hs hl HC hcell
  go_enter Try.func8, Try.ntmps8
  go_wp2
  go_loop [11] (fun i => ∃ k : Nat, k ≤ 6 ∧ i = .int .i64 k ∧ dig s.data.toList k = true) (fun i => 6 - (intOf i).toNat)
  case atStart => exact ⟨0, Nat.zero_le _, rfl, by simp [dig]⟩
  case round =>
    obtain ⟨k, hk, rfl, hd⟩ := hrel
    have HD : Hid (dig s.data.toList k = true) := hd
    clear hd
    by_cases hlt : k < 6
    · have hkl : k < s.data.toList.length := by rw [HL.out]; exact hlt
      have hc := Hcell.out k hkl
      have Hs : Hid (_ = _) := dig_succ s.data.toList k hkl
      have Hf : Hid (_ → _) := dig_false s.data.toList k hkl
      obtain ⟨x, hx⟩ : ∃ x, x = (s.data.toList[k]).toNat := ⟨_, rfl⟩
      rw [← hx] at hc
      have HX : Hid (x = _) := hx
      clear hx
      by_cases c1 : (x : Int) < 48
      · go_wp2
        go_ret
        exact ⟨ret_bool (Hf.out (by have := HX.out; omega) 6 (by omega)).symm, ((Below.refl _ _).alloc (Nat.le_refl _) _).drew⟩
      · by_cases c2 : (57 : Int) < (x : Int)
        · go_wp2
          go_ret
          exact ⟨ret_bool (Hf.out (by have := HX.out; omega) 6 (by omega)).symm, ((Below.refl _ _).alloc (Nat.le_refl _) _).drew⟩
        · go_wp2
          go_round
          case rel => exact ⟨k + 1, by omega, by go_num, by rw [Hs.out, HD.out, ← HX.out]; simp only [Bool.true_and, decide_eq_true_eq]; omega⟩
          case measure => simp [intOf]; omega
    · obtain rfl : k = 6 := by omega
      go_wp2
      go_ret
      exact ⟨ret_bool HD.out.symm, ((Below.refl _ _).alloc (Nat.le_refl _) _).drew⟩

theorem isPIN_any (s : ByteArray) (w : World) :
    Calls Try.prog 8 #[.string s] w fun e w' => e = .returned (.bool (isPinB s)) ∧ Below w.heap.size w w' := by
  by_cases hs : s.size = 6
  · refine (six_any s w hs).mono ?_
    rintro e w' ⟨rfl, hb⟩
    exact ⟨ret_bool (by simp [isPinB, hs]), hb⟩
  · refine (short_any s w hs).mono ?_
    rintro e w' ⟨rfl, rfl⟩
    exact ⟨ret_bool (by simp [isPinB, hs]), Below.refl _ _⟩

theorem ZZisPIN_any (s : ByteArray) (w : World) :
    Calls Try.prog 6 #[.string s] w fun e w' => e = .returned (.bool (isPinB s)) ∧ Below w.heap.size w w' := by
  go_enter Try.func6, Try.ntmps6
  go_wp2_with (go_at_call 8; refine (isPIN_any _ _).mono ?_; rintro e w' ⟨rfl, hb⟩)
  go_ret
  exact ⟨rfl, by assumption⟩

/-- The j-th of the six digits of n, as a byte. -/
def dg (n : Int) (j : Nat) : UInt8 := UInt8.ofNat (48 + (n / 10 ^ (5 - j)) % 10).toNat

def pinList (n : Int) : List UInt8 := [dg n 0, dg n 1, dg n 2, dg n 3, dg n 4, dg n 5]

def pinStr (n : Int) : ByteArray := ⟨(pinList n).toArray⟩

theorem dg_toNat (n : Int) (j : Nat) : ((dg n j).toNat : Int) = 48 + (n / 10 ^ (5 - j)) % 10 := by
  unfold dg
  rw [UInt8.toNat_ofNat']
  have : 0 ≤ (n / 10 ^ (5 - j)) % 10 := Int.emod_nonneg _ (by decide)
  have : (n / 10 ^ (5 - j)) % 10 < 10 := Int.emod_lt_of_pos _ (by decide)
  omega

theorem quo_step (n : Int) (j : Nat) (hj : j < 6) : n / 10 ^ (5 - j) / 10 = n / 10 ^ (6 - j) := by
  rw [Int.ediv_ediv_of_nonneg (Int.pow_nonneg (by decide))]
  congr 1
  rw [show 6 - j = (5 - j) + 1 by omega, Int.pow_succ]

theorem quo_bd (n : Int) (k : Nat) (h0 : 0 ≤ n) (h1 : n ≤ 999999) : 0 ≤ n / 10 ^ k ∧ n / 10 ^ k ≤ 999999 := by
  have hp : (0 : Int) < 10 ^ k := Int.pow_pos (by decide)
  refine ⟨Int.ediv_nonneg h0 (by omega), ?_⟩
  exact Int.le_trans (Int.ediv_le_self _ h0) h1

theorem pin_cell (n : Int) (j : Nat) (hj : j < (pinList n).length) : (pinList n)[j] = dg n j := by
  have : j < 6 := by simpa [pinList] using hj
  match j, this with
  | 0, _ => rfl
  | 1, _ => rfl
  | 2, _ => rfl
  | 3, _ => rfl
  | 4, _ => rfl
  | 5, _ => rfl

set_option maxHeartbeats 400000 in
theorem pin6_any (n : Int) (w : World) (h0 : 0 ≤ n) (h1 : n ≤ 999999) :
    Calls Try.prog 7 #[.int .i64 n] w fun e w' => e = .returned (.string (pinStr n)) ∧ Below w.heap.size w w' := by
  go_enter Try.func7, Try.ntmps7
  go_wp2
  go_loopw [0, 4] (fun a i wr => ∃ (k : Nat) (m z : Int), k ≤ 6 ∧ z = (k : Int) - 1 ∧ i = .int .i64 z ∧ m = n / 10 ^ (6 - k) ∧ a = .int .i64 m ∧ Below w.heap.size w wr ∧ (∀ t, t < 6 → wr.frozen? ⟨w.heap.size, t, none⟩ = false) ∧ (∀ t, t < 6 → ∃ v, wr.cell? ⟨w.heap.size, t, none⟩ = some v) ∧ (∀ t, k ≤ t → t < 6 → wr.cell? ⟨w.heap.size, t, none⟩ = some (.int .u8 ((dg n t).toNat : Int)))) (fun _ i _ => (intOf i + 1).toNat)
  case atStart =>
    refine ⟨6, n, 5, by omega, by omega, rfl, by simp, rfl, (Below.refl _ _).alloc (Nat.le_refl _) _, ?_, ?_, fun t h h' => by omega⟩
    · intro t ht
      rw [World.frozen?_alloc_mark]; simp
    · intro t ht
      rw [World.cell?_alloc_mark]
      match t, ht with
      | 0, _ => exact ⟨_, rfl⟩
      | 1, _ => exact ⟨_, rfl⟩
      | 2, _ => exact ⟨_, rfl⟩
      | 3, _ => exact ⟨_, rfl⟩
      | 4, _ => exact ⟨_, rfl⟩
      | 5, _ => exact ⟨_, rfl⟩
  case round =>
    obtain ⟨k, m, z, hk, hz, rfl, hm, rfl, hb, hf, hv, hd⟩ := hrel
    have HM : Hid (m = _) := hm
    have hmb : 0 ≤ m ∧ m ≤ 999999 := by rw [hm]; exact quo_bd n _ h0 h1
    obtain ⟨hm0, hm1⟩ := hmb
    clear hm
    have HD : Hid (∀ t, k ≤ t → t < 6 → wr.cell? ⟨w.heap.size, t, none⟩ = some (.int .u8 ((dg n t).toNat : Int))) := hd
    have HF : Hid (∀ t, t < 6 → wr.frozen? ⟨w.heap.size, t, none⟩ = false) := hf
    have HV : Hid (∀ t, t < 6 → ∃ v, wr.cell? ⟨w.heap.size, t, none⟩ = some v) := hv
    clear hd hf hv
    cases k with
    | zero =>
      obtain rfl : z = -1 := by omega
      clear hz
      have hback := run_convert_bytes_back (P := Try.prog) wr 24 9 5 ⟨w.heap.size, 0, none⟩ 6 (pinList n) Try.underlying24 Try.underlying5 Try.underlying9 (fun j hj => by
        rw [pin_cell]; have := HD.out j (by omega) (by simpa [pinList] using hj); by_cases hj0 : j = 0 <;> simp_all [Addr.add])
      have hback' : (convert 24 9 (.slice (some ⟨w.heap.size, 0, none⟩) 6 6)).run Try.prog wr = .ok (.string (pinStr n)) wr := hback
      clear hback
      go_wp2
      go_ret
      exact ⟨rfl, hb⟩
    | succ j =>
      obtain rfl : z = (j : Int) := by omega
      clear hz
      obtain ⟨v, hc⟩ := HV.out j (by omega)
      have hfz := HF.out j (by omega)
      have hj6 : j < 6 := by omega
      go_wp2
      go_roundw
      case rel =>
        have hm : m = n / 10 ^ (5 - j) := by rw [HM.out]; congr 2; omega
        refine ⟨j, m / 10, (j : Int) - 1, by omega, rfl, rfl, by rw [hm]; exact quo_step n j hj6, rfl, hb.setCell (Nat.le_refl _) _, ?_, ?_, ?_⟩
        · intro t ht
          rw [World.frozen?_setCell]; exact HF.out t ht
        · intro t ht
          obtain ⟨u, hu⟩ := HV.out t ht
          exact cell?_setCell_some hu
        · intro t h1 h2
          by_cases e : t = j
          · subst e
            rw [World.cell?_setCell_same (h := hc), dg_toNat, ← hm]
          · have hne : (⟨w.heap.size, j, none⟩ : Addr) ≠ ⟨w.heap.size, t, none⟩ := by intro h; injection h; omega
            rw [World.cell?_setCell_other (h := hne)]
            exact HD.out t (by omega) h2
      case measure => simp [intOf]
end Go.Proofs.Qxb6605699a.Pin
