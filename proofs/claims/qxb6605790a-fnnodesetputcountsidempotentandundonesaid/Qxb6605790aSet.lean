import Derived.Test.Qxb6605790aRows
import Derived.Test.Qxb6605790aBits
import Derived.WalkKit
import Derived.ProofKit
import Derived.Outline
import Derived.RegionTactic
import Derived.ChangeAlike
import Derived.Deep.OwnRows
import Derived.Deep.QuietTactic
import Derived.BigQuiet
import Derived.Lib.SliceRun
namespace Go.Proofs.Qxb6605790a.Set
open Go.ChangeShapes Go.WideShapes Go.ChangeAt Go.RowKit Go.Proofs.Qxb6605790a.Bits
set_option linter.unusedVariables false

theorem hide {p : Prop} (h : p) : Hid p := h
theorem ret_bool {a b : Bool} (h : a = b) : Ending.returned (.bool a) = .returned (.bool b) := by rw [h]

/-- Block g of w holds the words zs, each writable. -/
def Row (w : World) (g : Nat) (zs : List Nat) : Prop :=
  ∀ j, j < zs.length → w.cell? ⟨g, j, none⟩ = some (.int .u64 ((zs.getD j 0 : Nat) : Int)) ∧ w.frozen? ⟨g, j, none⟩ = false

theorem Row.below {w w' : World} {g : Nat} {zs : List Nat} (h : Row w g zs) {B : Nat} (hb : Below B w w') (hg : g < B) : Row w' g zs := by
  intro j hj
  obtain ⟨h1, h2⟩ := h j hj
  exact ⟨(hb.cell (p := ⟨g, j, none⟩) hg).trans h1, (hb.frozen (p := ⟨g, j, none⟩) hg).trans h2⟩

theorem Row.set_other {w : World} {g b o : Nat} {zs : List Nat} (h : Row w g zs) (v : Value) (hg : g ≠ b) : Row (w.setCell ⟨b, o, none⟩ v) g zs := by
  intro j hj
  obtain ⟨h1, h2⟩ := h j hj
  have hne : (⟨b, o, none⟩ : Addr) ≠ ⟨g, j, none⟩ := by intro e; injection e; omega
  rw [World.cell?_setCell_other (h := hne), World.frozen?_setCell]
  exact ⟨h1, h2⟩

theorem Row.put {w : World} {g i : Nat} {zs : List Nat} (h : Row w g zs) (inn : Bool) (hi : i / 64 < zs.length) :
    Row (w.setCell ⟨g, i / 64, none⟩ (.int .u64 ((putv (zs.getD (i / 64) 0) (i % 64) inn : Nat) : Int))) g (Bits.put zs i inn) := by
  intro j hj
  rw [put_len] at hj
  obtain ⟨h1, h2⟩ := h j hj
  rw [put_getD zs i inn hi, World.frozen?_setCell]
  refine ⟨?_, h2⟩
  by_cases e : j = i / 64
  · subst e
    rw [World.cell?_setCell_same (h := h1), if_pos rfl]
  · have hne : (⟨g, i / 64, none⟩ : Addr) ≠ ⟨g, j, none⟩ := by intro e; injection e; omega
    rw [World.cell?_setCell_other (h := hne), h1, if_neg e]

theorem and_one (z b : Nat) (hz : z < 18446744073709551616) : (bits BinOp.and IntKind.u64 ((z : Int) / 2 ^ b) 1 == 1) = z.testBit b := by
  have e : ((z : Int) / 2 ^ b) = ((z / 2 ^ b : Nat) : Int) := by
    rw [Int.natCast_ediv, Int.natCast_pow]; rfl
  have hlt : z / 2 ^ b < 18446744073709551616 := Nat.lt_of_le_of_lt (Nat.div_le_self _ _) hz
  have h := u64_and_nat (z / 2 ^ b) 1 hlt (by decide)
  rw [e]
  have e1 : ((1 : Nat) : Int) = 1 := rfl
  rw [e1] at h
  rw [h, Nat.and_one_is_mod, Nat.testBit_eq_decide_div_mod_eq]
  by_cases h1 : z / 2 ^ b % 2 = 1
  · simp [h1]
  · have : z / 2 ^ b % 2 = 0 := by omega
    simp [this]

theorem pow_wrap (b : Nat) (hb : b < 64) : IntKind.u64.wrap (2 ^ b) = ((2 ^ b : Nat) : Int) := by
  have h := pow_lt64 hb
  have e : (2 : Int) ^ b = ((2 ^ b : Nat) : Int) := by rw [Int.natCast_pow]; rfl
  rw [e, IntKind.wrap_u64]
  generalize 2 ^ b = x at *
  omega

set_option maxHeartbeats 400000 in
theorem member_any (g n : Nat) (i : Nat) (zs : List Nat) (w : World) (hn : zs.length = n) (hi : i < 64 * n) (hn2 : n ≤ 65536) (hf : Fits zs) (hr : Row w g zs) :
    Calls Try.prog 10 #[.slice (some ⟨g, 0, none⟩) n n, .int .i64 i] w fun e w' => e = .returned (.bool (mem zs i)) ∧ w' = w := by
  obtain ⟨z, hz⟩ : ∃ z, z = zs.getD (i / 64) 0 := ⟨_, rfl⟩
  have hc := (hr (i / 64) (by omega)).1
  have hz2 : z < 18446744073709551616 := by rw [hz]; exact hf _
  rw [← hz] at hc
  have HM : Hid (mem zs i = z.testBit (i % 64)) := by rw [hz]; exact rfl
  have HA := hide (and_one z (i % 64) hz2)
  clear hr hf hz hn
  go_enter Try.func10, Try.ntmps10
  go_wp2
  go_ret
  exact ⟨ret_bool (by rw [HM.out]; exact HA.out), rfl⟩

set_option maxHeartbeats 400000 in
theorem put_in (g n : Nat) (i : Nat) (z : Nat) (w : World) (hi : i < 64 * n) (hn : n ≤ 65536) (hz : z < 18446744073709551616) (hc : w.cell? ⟨g, i / 64, none⟩ = some (.int .u64 z)) (hf : w.frozen? ⟨g, i / 64, none⟩ = false) :
    Calls Try.prog 19 #[.slice (some ⟨g, 0, none⟩) n n, .int .i64 i, .bool true] w fun e w' => e = .returned (.tuple #[]) ∧ w' = (w.setCell ⟨g, i / 64, none⟩ (.int .u64 ((putv z (i % 64) true : Nat) : Int))).drew := by
  have hb : i % 64 < 64 := Nat.mod_lt _ (by decide)
  have HV : Hid (bits BinOp.or IntKind.u64 (z : Int) (IntKind.u64.wrap (2 ^ (i % 64))) = ((putv z (i % 64) true : Nat) : Int)) := hide <| by
    rw [pow_wrap _ hb, u64_or_nat z _ hz (pow_lt64 hb)]; rfl
  clear hb
  go_enter Try.func19, Try.ntmps19
  go_wp2
  go_region
  all_goals (go_end0; exact ⟨rfl, by rw [HV.out]⟩)

set_option maxHeartbeats 400000 in
theorem put_out (g n : Nat) (i : Nat) (z : Nat) (w : World) (hi : i < 64 * n) (hn : n ≤ 65536) (hz : z < 18446744073709551616) (hc : w.cell? ⟨g, i / 64, none⟩ = some (.int .u64 z)) (hf : w.frozen? ⟨g, i / 64, none⟩ = false) :
    Calls Try.prog 19 #[.slice (some ⟨g, 0, none⟩) n n, .int .i64 i, .bool false] w fun e w' => e = .returned (.tuple #[]) ∧ w' = (w.setCell ⟨g, i / 64, none⟩ (.int .u64 ((putv z (i % 64) false : Nat) : Int))).drew := by
  have hb : i % 64 < 64 := Nat.mod_lt _ (by decide)
  have HV : Hid (bits BinOp.andNot IntKind.u64 (z : Int) (IntKind.u64.wrap (2 ^ (i % 64))) = ((putv z (i % 64) false : Nat) : Int)) := hide <| by
    rw [pow_wrap _ hb, u64_andNot_nat z _ hz (pow_lt64 hb)]; rfl
  clear hb
  go_enter Try.func19, Try.ntmps19
  go_wp2
  go_region
  all_goals (go_end0; exact ⟨rfl, by rw [HV.out]⟩)

theorem put_any (g n : Nat) (i : Nat) (inn : Bool) (zs : List Nat) (w : World) (hn : zs.length = n) (hi : i < 64 * n) (hn2 : n ≤ 65536) (hf : Fits zs) (hr : Row w g zs) :
    Calls Try.prog 9 #[.slice (some ⟨g, 0, none⟩) n n, .int .i64 i, .bool inn] w fun e w' => e = .returned (.tuple #[]) ∧ w' = (w.setCell ⟨g, i / 64, none⟩ (.int .u64 ((putv (zs.getD (i / 64) 0) (i % 64) inn : Nat) : Int))).drew := by
  obtain ⟨hc, hz⟩ := hr (i / 64) (by omega)
  have hfz := hf (i / 64)
  generalize zs.getD (i / 64) 0 = z at *
  clear hr hf hn
  cases inn with
  | true =>
    go_enter Try.func9, Try.ntmps9
    go_wp2_with (go_at_call 19; refine (put_in g n i z _ hi hn2 hfz hc hz).mono ?_; rintro e w' ⟨rfl, rfl⟩)
    go_end0
    exact ⟨rfl, rfl⟩
  | false =>
    go_enter Try.func9, Try.ntmps9
    go_wp2_with (go_at_call 19; refine (put_out g n i z _ hi hn2 hfz hc hz).mono ?_; rintro e w' ⟨rfl, rfl⟩)
    go_end0
    exact ⟨rfl, rfl⟩

theorem info36 : (Try.prog.info? 36).map (fun i => (i.zero, i.size, i.bytes)) = some (some (.int .u64 0), 1, 8) := by kernel_rfl

/-- The clone's loop: the first k words are copied. -/
def Part (w : World) (g n k : Nat) (zs : List Nat) : Prop :=
  ∀ j, j < n → (∃ v, w.cell? ⟨g, j, none⟩ = some v) ∧ w.frozen? ⟨g, j, none⟩ = false ∧ (j < k → w.cell? ⟨g, j, none⟩ = some (.int .u64 ((zs.getD j 0 : Nat) : Int)))

theorem Part.step {w : World} {g n k : Nat} {zs : List Nat} (h : Part w g n k zs) (hk : k < n) : Part (w.setCell ⟨g, k, none⟩ (.int .u64 ((zs.getD k 0 : Nat) : Int))) g n (k + 1) zs := by
  intro j hj
  obtain ⟨⟨v, h1⟩, h2, h3⟩ := h j hj
  refine ⟨cell?_setCell_some h1, by rw [World.frozen?_setCell]; exact h2, fun hlt => ?_⟩
  by_cases e : j = k
  · subst e
    rw [World.cell?_setCell_same (h := h1)]
  · have hne : (⟨g, k, none⟩ : Addr) ≠ ⟨g, j, none⟩ := by intro e; injection e; omega
    rw [World.cell?_setCell_other (h := hne), h3 (by omega)]

set_option maxHeartbeats 400000 in
theorem clone_any (b off n cap : Nat) (zs : List Nat) (w : World) (hn : zs.length = n) (hn2 : n ≤ 65536)
    (hr : ∀ j, j < n → w.cell? ⟨b, off + j, none⟩ = some (.int .u64 ((zs.getD j 0 : Nat) : Int))) :
    Calls Try.prog 8 #[.slice (some ⟨b, off, none⟩) n cap] w fun e w' => e = .returned (.slice (some ⟨w.heap.size, 0, none⟩) n n) ∧ Below w.heap.size w w' ∧ w'.heap.size = w.heap.size + 1 ∧ Row w' w.heap.size zs := by
  have hmake := run_make_row' (P := Try.prog) 22 36 (.int .u64 0) 8 Try.underlying22 info36 rfl .i64 .i64 n (by omega) (by omega) w
  have Hrow := hide (World.rowIs_made w (.int .u64 0) n 36)
  obtain ⟨C, hC⟩ : ∃ C, C = madeCells #[Value.int .u64 0] n := ⟨_, rfl⟩
  rw [← hC] at hmake Hrow
  have HR := hide hr
  have HN := hide hn
  clear hC hr hn
  have q22 : ∀ (w : World) (a : Option Addr) (n c n' c' : Nat), (binOp .eql 22 (.slice a n c) (.slice none n' c')).run Try.prog w = .ok (.bool a.isNone) w := fun w a n c n' c' => Lib.run_eql_slice_nil w _ _ a n c n' c' Try.underlying22
  go_enter Try.func8, Try.ntmps8
  go_wp2
  go_loopw [4] (fun i wr => ∃ k : Nat, k ≤ n ∧ i = .int .i64 k ∧ Below w.heap.size w wr ∧ wr.heap.size = w.heap.size + 1 ∧ Part wr w.heap.size n k zs) (fun i _ => n - (intOf i).toNat)
  case atStart =>
    refine ⟨0, Nat.zero_le _, rfl, (Below.refl _ _).alloc (Nat.le_refl _) _, World.size_alloc _ _, fun j hj => ?_⟩
    exact ⟨⟨_, Hrow.out.cell hj⟩, Hrow.out.frozen j, fun h => by omega⟩
  case round =>
    obtain ⟨k, hk, rfl, hb, hsz, hp⟩ := hrel
    have HP := hide hp
    have HSZ := hide hsz
    clear hp hsz
    by_cases hlt : k < n
    · obtain ⟨⟨v, hc⟩, hf, _⟩ := HP.out k hlt
      have hsrc : wr.cell? ⟨b, off + k, none⟩ = some (.int .u64 ((zs.getD k 0 : Nat) : Int)) := by
        have h := HR.out k hlt
        exact (hb.cell (World.block_lt_of_cell? w _ h)).trans h
      have HS : Hid _ := HP.out.step hlt
      generalize zs.getD k 0 = z at *
      go_wp2
      go_roundw
      case rel =>
        exact ⟨k + 1, by omega, by go_num, hb.setCell (Nat.le_refl _) _, by rw [World.size_setCell]; exact HSZ.out, HS.out⟩
      case measure => simp [intOf]; omega
    · go_wp2
      go_ret
      exact ⟨rfl, hb, HSZ.out, fun j hj => by
        have hj' := hj
        rw [HN.out] at hj'
        obtain ⟨_, h2, h3⟩ := HP.out j hj'
        exact ⟨h3 (by omega), h2⟩⟩
end Go.Proofs.Qxb6605790a.Set
