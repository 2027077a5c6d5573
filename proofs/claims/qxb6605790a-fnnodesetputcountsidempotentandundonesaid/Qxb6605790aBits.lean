import Derived.Laws.BitsAllLaws
namespace Go.Proofs.Qxb6605790a.Bits

/-- A word with bit b put in or taken out. -/
def putv (z b : Nat) (inn : Bool) : Nat := if inn = true then z ||| 2 ^ b else z &&& (18446744073709551615 - 2 ^ b)

theorem pow_lt64 {b : Nat} (hb : b < 64) : 2 ^ b < 18446744073709551616 := by
  have h : 2 ^ b < 2 ^ 64 := Nat.pow_lt_pow_right (by decide) hb
  have e : (2 : Nat) ^ 64 = 18446744073709551616 := by decide
  omega

theorem lt64 {z : Nat} (h : z < 18446744073709551616) : z < 2 ^ 64 := by
  have e : (2 : Nat) ^ 64 = 18446744073709551616 := by decide
  omega

theorem putv_lt (z b : Nat) (inn : Bool) (hz : z < 18446744073709551616) (hb : b < 64) : putv z b inn < 18446744073709551616 := by
  have e : (2 : Nat) ^ 64 = 18446744073709551616 := by decide
  unfold putv
  split
  · have := Nat.or_lt_two_pow (lt64 hz) (lt64 (pow_lt64 hb))
    omega
  · have := Nat.and_le_left (n := z) (m := 18446744073709551615 - 2 ^ b)
    omega

theorem putv_bit (z b : Nat) (inn : Bool) (hz : z < 18446744073709551616) (hb : b < 64) (j : Nat) : (putv z b inn).testBit j = if j = b then inn else z.testBit j := by
  have e : (2 : Nat) ^ 64 = 18446744073709551616 := by decide
  unfold putv
  cases inn with
  | true =>
    rw [if_pos rfl, Nat.testBit_or, Nat.testBit_two_pow]
    by_cases h : j = b
    · simp [h]
    · have : ¬ b = j := fun h' => h h'.symm
      simp [h, this]
  | false =>
    rw [if_neg (by decide), Nat.testBit_and]
    have h1 : 18446744073709551615 - 2 ^ b = 2 ^ 64 - (2 ^ b + 1) := by omega
    rw [h1, Nat.testBit_two_pow_sub_succ (lt64 (pow_lt64 hb)), Nat.testBit_two_pow]
    by_cases h : j = b
    · simp [h]
    · have h' : ¬ b = j := fun h' => h h'.symm
      by_cases hj : j < 64
      · simp [h, h', hj]
      · have : z.testBit j = false := Nat.testBit_lt_two_pow (Nat.lt_of_lt_of_le (lt64 hz) (Nat.pow_le_pow_right (by decide) (by omega)))
        simp [h, this]

theorem bits_ext {a b : Nat} (h : ∀ j, a.testBit j = b.testBit j) : a = b := Nat.eq_of_testBit_eq h

theorem putv_twice (z b : Nat) (inn : Bool) (hz : z < 18446744073709551616) (hb : b < 64) : putv (putv z b inn) b inn = putv z b inn := by
  apply bits_ext
  intro j
  rw [putv_bit _ _ _ (putv_lt z b inn hz hb) hb]
  by_cases h : j = b
  · rw [if_pos h, putv_bit _ _ _ hz hb, if_pos h]
  · rw [if_neg h]

theorem putv_back (z b : Nat) (inn : Bool) (hz : z < 18446744073709551616) (hb : b < 64) : putv (putv z b inn) b (z.testBit b) = z := by
  apply bits_ext
  intro j
  rw [putv_bit _ _ _ (putv_lt z b inn hz hb) hb]
  by_cases h : j = b
  · rw [if_pos h, h]
  · rw [if_neg h, putv_bit _ _ _ hz hb, if_neg h]

/-- How many of the first f bits are set. -/
def pcf : Nat → Nat → Nat
  | 0, _ => 0
  | f + 1, z => z % 2 + pcf f (z / 2)

theorem pcf_zero : ∀ f, pcf f 0 = 0
  | 0 => rfl
  | f + 1 => by simp [pcf, pcf_zero f]

theorem pcf_le : ∀ f z, pcf f z ≤ f
  | 0, _ => Nat.le_refl _
  | f + 1, z => by
    have := pcf_le f (z / 2)
    simp only [pcf]
    omega

theorem pcf_clear : ∀ f z, 0 < z → z < 2 ^ f → pcf f (z &&& (z - 1)) + 1 = pcf f z
  | 0, z, h0, h1 => by simp at h1; omega
  | f + 1, z, h0, h1 => by
    rw [Nat.pow_succ] at h1
    simp only [pcf]
    have hd : (z &&& (z - 1)) / 2 = z / 2 &&& (z - 1) / 2 := by
      have := Nat.and_div_two_pow (a := z) (b := z - 1) (n := 1)
      simpa using this
    have hm : (z &&& (z - 1)) % 2 = 0 := by
      have := Nat.and_mod_two_pow (a := z) (b := z - 1) (n := 1)
      rw [Nat.pow_one] at this
      rw [this]
      rcases Nat.mod_two_eq_zero_or_one z with h | h
      · rw [h, Nat.zero_and]
      · rw [show (z - 1) % 2 = 0 by omega, Nat.and_zero]
    rw [hd, hm]
    rcases Nat.mod_two_eq_zero_or_one z with h | h
    · rw [show (z - 1) / 2 = z / 2 - 1 by omega, h]
      have := pcf_clear f (z / 2) (by omega) (by omega)
      omega
    · rw [show (z - 1) / 2 = z / 2 by omega, Nat.and_self, h]
      omega

theorem pcf_diff : ∀ f z y b, b < f → (∀ j, j ≠ b → z.testBit j = y.testBit j) → pcf f y + (z.testBit b).toNat = pcf f z + (y.testBit b).toNat
  | 0, _, _, _, h, _ => by omega
  | f + 1, z, y, b, h, hj => by
    simp only [pcf]
    match b with
    | 0 =>
      have e : z / 2 = y / 2 := by
        apply bits_ext
        intro j
        have := hj (j + 1) (by omega)
        rwa [Nat.testBit_succ, Nat.testBit_succ] at this
      rw [e, Nat.testBit_zero, Nat.testBit_zero]
      rcases Nat.mod_two_eq_zero_or_one z with h1 | h1 <;> rcases Nat.mod_two_eq_zero_or_one y with h2 | h2 <;> simp [h1, h2] <;> omega
    | b + 1 =>
      have e : z % 2 = y % 2 := by
        have := hj 0 (by omega)
        rw [Nat.testBit_zero, Nat.testBit_zero] at this
        simp at this
        omega
      have ih := pcf_diff f (z / 2) (y / 2) b (by omega) (fun j hne => by
        have := hj (j + 1) (by omega)
        rwa [Nat.testBit_succ, Nat.testBit_succ] at this)
      rw [Nat.testBit_succ, Nat.testBit_succ]
      omega

def pc (z : Nat) : Nat := pcf 64 z

theorem pc_put (z b : Nat) (inn : Bool) (hz : z < 18446744073709551616) (hb : b < 64) : pc (putv z b inn) + (z.testBit b).toNat = pc z + inn.toNat := by
  have h := pcf_diff 64 z (putv z b inn) b hb (fun j hj => by rw [putv_bit z b inn hz hb, if_neg hj])
  rw [putv_bit z b inn hz hb b, if_pos rfl] at h
  exact h

/-- The set with node i put in or taken out. -/
def put (zs : List Nat) (i : Nat) (inn : Bool) : List Nat := zs.set (i / 64) (putv (zs.getD (i / 64) 0) (i % 64) inn)

def mem (zs : List Nat) (i : Nat) : Bool := (zs.getD (i / 64) 0).testBit (i % 64)

def cnt (zs : List Nat) : Nat := (zs.map pc).sum

def Fits (zs : List Nat) : Prop := ∀ j, zs.getD j 0 < 18446744073709551616

theorem put_len (zs : List Nat) (i : Nat) (inn : Bool) : (put zs i inn).length = zs.length := by simp [put]

theorem put_getD (zs : List Nat) (i : Nat) (inn : Bool) (hi : i / 64 < zs.length) (j : Nat) : (put zs i inn).getD j 0 = if j = i / 64 then putv (zs.getD (i / 64) 0) (i % 64) inn else zs.getD j 0 := by
  unfold put
  by_cases h : j = i / 64
  · subst h; simp [List.getD, hi]
  · have h' : ¬ i / 64 = j := fun h' => h h'.symm
    simp [List.getD, h, h']

theorem put_fits (zs : List Nat) (i : Nat) (inn : Bool) (hi : i / 64 < zs.length) (hf : Fits zs) : Fits (put zs i inn) := by
  intro j
  rw [put_getD zs i inn hi]
  split
  · exact putv_lt _ _ _ (hf _) (Nat.mod_lt _ (by decide))
  · exact hf j

theorem mem_put (zs : List Nat) (i : Nat) (inn : Bool) (hi : i / 64 < zs.length) (hf : Fits zs) (k : Nat) : mem (put zs i inn) k = if k = i then inn else mem zs k := by
  unfold mem
  rw [put_getD zs i inn hi]
  by_cases h : k / 64 = i / 64
  · rw [if_pos h, putv_bit _ _ _ (hf _) (Nat.mod_lt _ (by decide))]
    by_cases hk : k = i
    · rw [if_pos hk, if_pos (by rw [hk])]
    · rw [if_neg hk, if_neg (by omega), h]
  · rw [if_neg h, if_neg (by intro e; exact h (by rw [e]))]

theorem ext_getD {a b : List Nat} (hl : a.length = b.length) (h : ∀ j, a.getD j 0 = b.getD j 0) : a = b := by
  apply List.ext_getElem hl
  intro j h1 h2
  have := h j
  simpa [List.getD, h1, h2] using this

theorem put_twice (zs : List Nat) (i : Nat) (inn : Bool) (hi : i / 64 < zs.length) (hf : Fits zs) : put (put zs i inn) i inn = put zs i inn := by
  apply ext_getD (by simp [put_len])
  intro j
  rw [put_getD _ i inn (by rw [put_len]; exact hi)]
  by_cases h : j = i / 64
  · rw [if_pos h, put_getD zs i inn hi, if_pos rfl, putv_twice _ _ _ (hf _) (Nat.mod_lt _ (by decide)), put_getD zs i inn hi, if_pos h]
  · rw [if_neg h]

theorem put_back (zs : List Nat) (i : Nat) (inn : Bool) (hi : i / 64 < zs.length) (hf : Fits zs) : put (put zs i inn) i (mem zs i) = zs := by
  apply ext_getD (by simp [put_len])
  intro j
  rw [put_getD _ i _ (by rw [put_len]; exact hi)]
  by_cases h : j = i / 64
  · rw [if_pos h, put_getD zs i inn hi, if_pos rfl]
    unfold mem
    rw [putv_back _ _ _ (hf _) (Nat.mod_lt _ (by decide)), h]
  · rw [if_neg h, put_getD zs i inn hi, if_neg h]

theorem sum_set : ∀ (zs : List Nat) (k v : Nat), k < zs.length → cnt (zs.set k v) + pc (zs.getD k 0) = cnt zs + pc v
  | [], _, _, h => by simp at h
  | z :: zs, 0, v, _ => by simp [cnt]; omega
  | z :: zs, k + 1, v, h => by
    have := sum_set zs k v (by simpa using h)
    simp [cnt] at this ⊢
    omega

theorem cnt_put (zs : List Nat) (i : Nat) (inn : Bool) (hi : i / 64 < zs.length) (hf : Fits zs) : cnt (put zs i inn) + (mem zs i).toNat = cnt zs + inn.toNat := by
  have h1 := sum_set zs (i / 64) (putv (zs.getD (i / 64) 0) (i % 64) inn) hi
  have h2 := pc_put (zs.getD (i / 64) 0) (i % 64) inn (hf _) (Nat.mod_lt _ (by decide))
  unfold put mem
  omega

theorem cnt_le : ∀ zs : List Nat, cnt zs ≤ 64 * zs.length
  | [] => by simp [cnt]
  | z :: zs => by
    have := cnt_le zs
    have := pcf_le 64 z
    simp [cnt, pc] at *
    omega

theorem cnt_take (zs : List Nat) (k : Nat) (h : k < zs.length) : cnt (zs.take (k + 1)) = cnt (zs.take k) + pc (zs.getD k 0) := by
  have e : zs.getD k 0 = zs[k] := by simp [List.getD, h]
  rw [List.take_succ_eq_append_getElem h, e]
  unfold cnt
  rw [List.map_append, List.sum_append]
  simp only [List.map_cons, List.map_nil, List.sum_cons, List.sum_nil, Nat.add_zero]
end Go.Proofs.Qxb6605790a.Bits
