import Derived.Test.Qxb6605699aPin
import Derived.WalkKit
import Derived.Outline
namespace Go.Proofs.Qxb6605699a.Late
open Go.ChangeShapes Go.WideShapes Go.ChangeAt Go.RowKit Go.Proofs.Qxb6605699a.Pin
set_option linter.unusedVariables false

theorem pin_size (n : Int) : (pinStr n).size = 6 := rfl

theorem pin_isPin (n : Int) : isPinB (pinStr n) = true := by
  have h : ∀ j, 48 ≤ (dg n j).toNat ∧ (dg n j).toNat ≤ 57 := by
    intro j
    have := dg_toNat n j
    have : 0 ≤ (n / 10 ^ (5 - j)) % 10 := Int.emod_nonneg _ (by decide)
    have : (n / 10 ^ (5 - j)) % 10 < 10 := Int.emod_lt_of_pos _ (by decide)
    omega
  have h0 := h 0; have h1 := h 1; have h2 := h 2; have h3 := h 3; have h4 := h 4; have h5 := h 5
  have hs : decide ((pinStr n).size = 6) = true := rfl
  unfold isPinB
  rw [hs]
  simp [dig, pinStr, pinList, h0, h1, h2, h3, h4, h5]

theorem notPin_size (s : ByteArray) (h : s.size ≠ 6) : isPinB s = false := by simp [isPinB, h]

theorem notPin_set (n : Int) (pos : Nat) (hp : pos ≤ 5) (b : UInt8) (hb : ¬ (48 ≤ b.toNat ∧ b.toNat ≤ 57)) : isPinB ⟨((pinList n).set pos b).toArray⟩ = false := by
  unfold isPinB
  rw [dig_false _ pos (by simp [pinList]; omega) (by simpa using hb) 6 (by omega)]
  simp

theorem conv_facts (n : Int) (w1 : World) : ∃ C cap, (convert 9 24 (.string (pinStr n))).run Try.prog w1 = .ok (.slice (some ⟨w1.heap.size, 0, none⟩) 6 cap) (w1.drew.alloc (.cells C 5 (C.size, C.size + 1))) ∧
    (∀ j (h : j < (pinList n).length), (w1.alloc (.cells C 5 (C.size, C.size + 1))).cell? ⟨w1.heap.size, j, none⟩ = some (.int .u8 ((pinList n)[j].toNat : Int))) ∧
    (∀ j, j < 6 → (w1.alloc (.cells C 5 (C.size, C.size + 1))).frozen? ⟨w1.heap.size, j, none⟩ = false) := by
  refine ⟨bytesRow (pinStr n) (grownCap w1 (pinStr n).size 0 5), grownCap w1 (pinStr n).size 0 5, run_bytes_of_string (P := Try.prog) w1 9 24 5 (pinStr n) Try.underlying9 Try.underlying24 Try.underlying5, ?_, ?_⟩
  · intro j h
    rw [World.cell?_alloc_mark, bytesRow_at (pinStr n) _ j (by exact h)]
    rfl
  · intro j h
    rw [World.frozen?_alloc_mark]
    have : (bytesRow (pinStr n) (grownCap w1 (pinStr n).size 0 5)).size = 6 + (grownCap w1 (pinStr n).size 0 5 - 6) := by
      unfold bytesRow
      rw [Array.size_append, Array.size_map, Array.size_replicate]
      rfl
    rw [this]
    simp
    omega

theorem back_facts (n : Int) (w1 w3 : World) (C : Array Value) (cap pos : Nat) (b : UInt8) (hp : pos ≤ 5)
    (hc : ∀ j (h : j < (pinList n).length), (w1.alloc (.cells C 5 (C.size, C.size + 1))).cell? ⟨w1.heap.size, j, none⟩ = some (.int .u8 ((pinList n)[j].toNat : Int)))
    (hb : Below (w1.heap.size + 1) ((w1.alloc (.cells C 5 (C.size, C.size + 1))).setCell ⟨w1.heap.size, pos, none⟩ (.int .u8 (b.toNat : Int))).drew w3) :
    (convert 24 9 (.slice (some ⟨w1.heap.size, 0, none⟩) 6 cap)).run Try.prog w3 = .ok (.string ⟨((pinList n).set pos b).toArray⟩) w3 := by
  have hlen : ((pinList n).set pos b).length = 6 := by simp [pinList]
  have h := run_convert_bytes_back (P := Try.prog) w3 24 9 5 ⟨w1.heap.size, 0, none⟩ cap ((pinList n).set pos b) Try.underlying24 Try.underlying5 Try.underlying9 ?_
  · rw [hlen] at h; exact h
  intro j hj
  have e : (⟨w1.heap.size, 0, none⟩ : Addr).add j = ⟨w1.heap.size, j, none⟩ := by
    by_cases h0 : j = 0
    · subst h0; simp [Addr.add]
    · simp [Addr.add, h0]
  rw [e, hb.cell (p := ⟨w1.heap.size, j, none⟩) (by simp), World.cell?_drew]
  have hj' : j < (pinList n).length := by simpa using hj
  by_cases hjp : j = pos
  · subst hjp
    rw [World.cell?_setCell_same (h := hc j hj')]
    simp
  · have hne : (⟨w1.heap.size, pos, none⟩ : Addr) ≠ ⟨w1.heap.size, j, none⟩ := by intro h; injection h; omega
    rw [World.cell?_setCell_other (h := hne), hc j hj', List.getElem_set_ne (by omega)]

theorem one_back (w : World) (d : UInt8) : (convert 24 9 (.slice (some ⟨w.heap.size, 0, none⟩) 1 1)).run Try.prog (w.alloc (.cells #[.int .u8 (d.toNat : Int)] 5)) = .ok (.string ⟨#[d]⟩) (w.alloc (.cells #[.int .u8 (d.toNat : Int)] 5)) := by
  have h := run_convert_bytes_back (P := Try.prog) (w.alloc (.cells #[.int .u8 (d.toNat : Int)] 5)) 24 9 5 ⟨w.heap.size, 0, none⟩ 1 [d] Try.underlying24 Try.underlying5 Try.underlying9 ?_
  · exact h
  intro j hj
  match j, hj with
  | 0, _ => simp [Addr.add]

theorem after {w a b : World} (h : Below w.heap.size w a) (k : Below a.heap.size a b) : Below w.heap.size w b := h.trans (k.mono h.size)

set_option maxHeartbeats 1000000 in
theorem late (a0 : Int) (pos : Nat) (b d : UInt8) (w : World)
    (h0 : 0 ≤ a0) (h1 : a0 ≤ 999999) (h3 : pos ≤ 5) (h4 : (b.toNat : Int) < 48 ∨ (57 : Int) < b.toNat) (h5 : (48 : Int) ≤ d.toNat) (h6 : (d.toNat : Int) ≤ 57) :
    Calls Try.prog 4 #[.int .i64 a0, .int .i64 pos, .int .u8 (b.toNat : Int), .int .u8 (d.toNat : Int)] w fun e w' => e = .returned (.bool true) ∧ Below w.heap.size w w' := by
  have h4' : ¬ (48 ≤ b.toNat ∧ b.toNat ≤ 57) := by omega
  have HP1 : Hid (isPinB (pinStr a0) = true) := pin_isPin a0
  have HP2 : Hid (isPinB ⟨((pinList a0).set pos b).toArray⟩ = false) := notPin_set a0 pos h3 b h4'
  have HPS : Hid ((pinStr a0).size = 6) := rfl
  have Hcall : Hid (∀ w, Calls Try.prog 7 #[.int .i64 a0] w fun e w' => e = .returned (.string (pinStr a0)) ∧ Below w.heap.size w w') := fun w => pin6_any a0 w h0 h1
  have Hconv : Hid (∀ w1 : World, ∃ C cap, (convert 9 24 (.string (pinStr a0))).run Try.prog w1 = .ok (.slice (some ⟨w1.heap.size, 0, none⟩) 6 cap) (w1.drew.alloc (.cells C 5 (C.size, C.size + 1))) ∧
    (∀ j (h : j < (pinList a0).length), (w1.alloc (.cells C 5 (C.size, C.size + 1))).cell? ⟨w1.heap.size, j, none⟩ = some (.int .u8 ((pinList a0)[j].toNat : Int))) ∧
    (∀ j, j < 6 → (w1.alloc (.cells C 5 (C.size, C.size + 1))).frozen? ⟨w1.heap.size, j, none⟩ = false)) := conv_facts a0
  have Hback : Hid (∀ (w1 w3 : World) (C : Array Value) (cap : Nat), (∀ j (h : j < (pinList a0).length), (w1.alloc (.cells C 5 (C.size, C.size + 1))).cell? ⟨w1.heap.size, j, none⟩ = some (.int .u8 ((pinList a0)[j].toNat : Int))) →
    Below (w1.heap.size + 1) ((w1.alloc (.cells C 5 (C.size, C.size + 1))).setCell ⟨w1.heap.size, pos, none⟩ (.int .u8 (b.toNat : Int))).drew w3 →
    (convert 24 9 (.slice (some ⟨w1.heap.size, 0, none⟩) 6 cap)).run Try.prog w3 = .ok (.string ⟨((pinList a0).set pos b).toArray⟩) w3) := fun w1 w3 C cap hc hb => back_facts a0 w1 w3 C cap pos b h3 hc hb
  have hplen : pos < (pinList a0).length := by simp [pinList]; omega
  obtain ⟨p, hp⟩ : ∃ p, p = pinStr a0 := ⟨_, rfl⟩
  obtain ⟨q, hq⟩ : ∃ q : ByteArray, q = ⟨((pinList a0).set pos b).toArray⟩ := ⟨_, rfl⟩
  rw [← hp] at HP1 HPS Hcall Hconv
  rw [← hq] at HP2 Hback
  clear hp hq h4'
  obtain ⟨D, hD⟩ : ∃ D : ByteArray, D = ⟨#[d]⟩ := ⟨_, rfl⟩
  have Hone : Hid (∀ w : World, (convert 24 9 (.slice (some ⟨w.heap.size, 0, none⟩) 1 1)).run Try.prog (w.alloc (.cells #[.int .u8 (d.toNat : Int)] 5)) = .ok (.string D) (w.alloc (.cells #[.int .u8 (d.toNat : Int)] 5))) := by rw [hD]; exact fun w => one_back w d
  have HDS : Hid (D.size = 1) := by rw [hD]; exact rfl
  clear hD
  have hA1 : ¬ (9223372036854775807 < p.size + D.size) := by have := HDS.out; have := HPS.out; omega
  have hA2 : ¬ (9223372036854775807 < 1 + p.size) := by have := HPS.out; omega
  have hA3 : (5 : Int) ≤ (p.size : Int) := by have := HPS.out; omega
  rcases h4 with h4 | h4
  all_goals
    go_enter Try.func4, Try.ntmps4
    go_wp2_with fail
    refine (Hcall.out _).mono ?_
    rintro e w1 ⟨rfl, hb1⟩
    obtain ⟨C, cap, hconv, hcs, hfs⟩ := Hconv.out w1
    have Hcs : Hid (∀ j (h : j < (pinList a0).length), (w1.alloc (.cells C 5 (C.size, C.size + 1))).cell? ⟨w1.heap.size, j, none⟩ = some (.int .u8 ((pinList a0)[j].toNat : Int))) := hcs
    obtain ⟨v, hcell⟩ : ∃ v, (w1.alloc (.cells C 5 (C.size, C.size + 1))).cell? ⟨w1.heap.size, pos, none⟩ = some v := ⟨_, hcs pos hplen⟩
    have hfz := hfs pos (by omega)
    clear hcs hfs
    go_wp2_with fail
    refine (ZZisPIN_any p _).mono ?_
    rintro e w3 ⟨rfl, hb3⟩
    rw [HP1.out]
    have hb3' : Below (w1.heap.size + 1) ((w1.alloc (.cells C 5 (C.size, C.size + 1))).setCell ⟨w1.heap.size, pos, none⟩ (.int .u8 (b.toNat : Int))).drew w3 := by simpa using hb3
    have hk := Hback.out w1 w3 C cap Hcs.out hb3'
    have B3 : Below w.heap.size w w3 := after ((hb1.alloc hb1.size _).setCell hb1.size _).drew hb3
    clear hb1 hb3 hb3'
    go_wp2_with fail
    refine (ZZisPIN_any q _).mono ?_
    rintro e w4 ⟨rfl, hb4⟩
    rw [HP2.out]
    have B4 : Below w.heap.size w w4 := after B3 hb4
    clear B3 hb4
    have h1b := Hone.out w4
    go_wp2_with fail
    refine (ZZisPIN_any (p ++ D) _).mono ?_
    rintro e w5 ⟨rfl, hb5⟩
    have B5 : Below w.heap.size w w5 := after (B4.alloc B4.size _) hb5
    clear B4 hb5
    rw [notPin_size (p ++ D) (by have := HDS.out; have := HPS.out; simp; omega)]
    go_wp2_with fail
    refine (ZZisPIN_any (p.extract 0 5) _).mono ?_
    rintro e w6 ⟨rfl, hb6⟩
    have B6 : Below w.heap.size w w6 := after B5 hb6
    clear B5 hb6
    rw [notPin_size (p.extract 0 5) (by have := HPS.out; simp; omega)]
    go_wp2_with fail
    refine (ZZisPIN_any _ _).mono ?_
    rintro e w7 ⟨rfl, hb7⟩
    have B7 : Below w.heap.size w w7 := after B6 hb7
    clear B6 hb7
    rw [notPin_size _ (by have := HPS.out; rw [ByteArray.size_append]; change ¬ (1 + p.size = 6); omega)]
    go_wp2_with fail
    go_ret
    exact ⟨rfl, B7⟩

end Go.Proofs.Qxb6605699a.Late
