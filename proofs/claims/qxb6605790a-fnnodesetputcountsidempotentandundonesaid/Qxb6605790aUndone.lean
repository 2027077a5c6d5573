import Derived.Test.Qxb6605790aCount
namespace Go.Proofs.Qxb6605790a.Undone
open Go.ChangeShapes Go.WideShapes Go.ChangeAt Go.RowKit Go.Proofs.Qxb6605790a.Bits Go.Proofs.Qxb6605790a.Set Go.Proofs.Qxb6605790a.Count
set_option linter.unusedVariables false

theorem bytes_ok (a : Option Addr) (n cap : Nat) (i : Int) (inn : Bool) (w : World) (hn : n ≤ 1048576) :
    Calls Try.prog 11 #[.slice a n cap, .int .i64 i, .bool inn] w fun e w' => e = .returned (.bool true) ∧ w = w' := by
  go_enter Try.func11, Try.ntmps11
  go_wp2
  go_ret
  exact ⟨rfl, rfl⟩

theorem bytes_long (a : Option Addr) (n cap : Nat) (i : Int) (inn : Bool) (w : World) (hn : 1048576 < n) (hn2 : n ≤ 9223372036854775807) :
    Calls Try.prog 11 #[.slice a n cap, .int .i64 i, .bool inn] w fun e w' => e = .returned (.bool false) ∧ w' = w := by
  go_enter Try.func11, Try.ntmps11
  go_wp2
  go_ret
  exact ⟨rfl, rfl⟩

theorem early (a : Option Addr) (n cap : Nat) (i : Int) (inn : Bool) (w : World) (hn2 : n ≤ 9223372036854775807) (h : 65536 < n ∨ i < 0 ∨ 64 * (n : Int) ≤ i) :
    Calls Try.prog 4 #[.slice a n cap, .int .i64 i, .bool inn] w fun e w' => e = .returned (.bool true) ∧ w' = w := by
  by_cases c1 : 1048576 < n
  · clear h
    go_enter Try.func4, Try.ntmps4
    go_wp2_with (go_at_call 11; refine (bytes_long _ _ _ _ _ _ c1 hn2).mono ?_; rintro e w' ⟨rfl, rfl⟩)
    go_ret
    exact ⟨rfl, rfl⟩
  by_cases c2 : 65536 < n
  · clear h
    go_enter Try.func4, Try.ntmps4
    go_wp2_with (go_at_call 11; refine (bytes_ok _ _ _ _ _ _ (by omega)).mono ?_; rintro e w' ⟨rfl, rfl⟩)
    go_ret
    exact ⟨rfl, rfl⟩
  by_cases c3 : i < 0
  · clear h
    go_enter Try.func4, Try.ntmps4
    go_wp2_with (go_at_call 11; refine (bytes_ok _ _ _ _ _ _ (by omega)).mono ?_; rintro e w' ⟨rfl, rfl⟩)
    go_ret
    exact ⟨rfl, rfl⟩
  have c4 : 64 * (n : Int) ≤ i := by omega
  clear h
  go_enter Try.func4, Try.ntmps4
  go_wp2_with (go_at_call 11; refine (bytes_ok _ _ _ _ _ _ (by omega)).mono ?_; rintro e w' ⟨rfl, rfl⟩)
  go_ret
  exact ⟨rfl, rfl⟩

theorem after {w a b : World} (h : Below w.heap.size w a) (k : Below a.heap.size a b) : Below w.heap.size w b := h.trans (k.mono h.size)

theorem below_drewN {B : Nat} {a w : World} (h : Below B a w) (q : Nat) : Below B a (w.drewN q) := ⟨h.os, h.tape, h.output, h.size, h.block⟩

set_option maxHeartbeats 1000000 in
theorem late_ff (b off n cap i c d : Nat) (zs ys : List Nat) (w : World) (hn2 : n ≤ 65536) (hi : i < 64 * n) (hcl : c ≤ 64 * n) (hcl2 : d ≤ 64 * n)
    (hcp : d = c) (HN : Hid (zs.length = n)) (HF : Hid (Fits zs)) (HW : Hid (mem zs i = false)) (HC : Hid (c = cnt zs)) (HD : Hid (d = cnt ys))
    (HR : Hid (∀ j, j < n → w.cell? ⟨b, off + j, none⟩ = some (.int .u64 ((zs.getD j 0 : Nat) : Int))))
    (HY : Hid (ys = Bits.put zs i false)) (HF3 : Hid (Fits ys)) (HL3 : Hid (ys.length = n)) (HT : Hid (Bits.put ys i false = ys)) (HU : Hid (Bits.put ys i false = zs)) :
    Calls Try.prog 4 #[.slice (some ⟨b, off, none⟩) n cap, .int .i64 i, .bool false] w fun e w' => e = .returned (.bool true) ∧ Below w.heap.size w w' := by
  obtain rfl : d = c := by omega
  have HI : Hid (i / 64 < zs.length) := hide (by rw [HN.out]; omega)
  have HI3 : Hid (i / 64 < ys.length) := hide (by rw [HL3.out]; omega)
  try clear hcp
  go_enter Try.func4, Try.ntmps4
  go_wp2_with (go_at_call 11; refine (bytes_ok _ _ _ _ _ _ (by omega)).mono ?_; rintro e w' ⟨rfl, rfl⟩)
  refine (clone_any b off n cap zs _ HN.out hn2 HR.out).mono ?_
  rintro e w1 ⟨rfl, hb1, hsz1, hrow1⟩
  have HR1 := hide hrow1
  have HS1 := hide hsz1
  have HB1 := hide hb1
  clear hrow1 hsz1 hb1
  go_wp2_with fail
  refine (clone_any w.heap.size 0 n n zs w1 HN.out hn2 (fun j hj => by rw [Nat.zero_add]; exact (HR1.out j (by rw [HN.out]; exact hj)).1)).mono ?_
  rintro e w2 ⟨rfl, hb2, hsz2, hrow2⟩
  have HR2 : Hid (Row w2 w.heap.size zs) := HR1.out.below hb2 (by have := HS1.out; omega)
  have HO2 := hide hrow2
  have HS2 := hide hsz2
  have HB2 : Hid (Below w.heap.size w w2) := after HB1.out hb2
  clear hrow2 hsz2 hb2 HB1 HR1
  obtain ⟨g, hg⟩ : ∃ g, g = w1.heap.size := ⟨_, rfl⟩
  have HG : Hid (g = w.heap.size + 1) := by rw [hg]; exact HS1
  rw [← hg] at HO2 HS2 ⊢
  clear hg HS1
  go_wp2_with fail
  refine (member_any g n i zs w2 HN.out hi hn2 HF.out HO2.out).mono ?_
  rintro e w3 ⟨rfl, hw3⟩
  rw [hw3, HW.out]
  clear hw3 w3
  go_wp2_with fail
  refine (count_any g n zs w2 HN.out hn2 HF.out HO2.out).mono ?_
  rintro e w3 ⟨rfl, hw3⟩
  rw [hw3, ← HC.out]
  clear hw3 w3
  go_wp2_with fail
  refine (put_any w.heap.size n i false zs w2 HN.out hi hn2 HF.out HR2.out).mono ?_
  rintro e w3 ⟨rfl, hw3⟩
  have HR3 : Hid (Row w3 w.heap.size ys) := by rw [hw3, HY.out]; exact HR2.out.put false HI.out
  have HO3 : Hid (Row w3 g zs) := by rw [hw3]; exact HO2.out.set_other _ (by have := HG.out; omega)
  have HB3 : Hid (Below w.heap.size w w3) := by rw [hw3]; exact (HB2.out.setCell (Nat.le_refl _) _).drew
  have HS3 : Hid (w3.heap.size = w.heap.size + 2) := hide (by rw [hw3]; have h1 := HS2.out; have h2 := HG.out; simp; omega)
  clear hw3 HB2 HR2 HO2 HS2
  go_wp2_with fail
  refine (count_any w.heap.size n ys w3 HL3.out hn2 HF3.out HR3.out).mono ?_
  rintro e w4 ⟨rfl, hw4⟩
  rw [hw4, ← HD.out]
  clear hw4 w4
  go_wp2_with fail
  refine (clone_any w.heap.size 0 n n ys w3 HL3.out hn2 (fun j hj => by rw [Nat.zero_add]; exact (HR3.out j (by rw [HL3.out]; exact hj)).1)).mono ?_
  rintro e w4 ⟨rfl, hb4, hsz4, hrow4⟩
  have HR4 : Hid (Row w4 w.heap.size ys) := HR3.out.below hb4 (by have := HS3.out; omega)
  have HO4 : Hid (Row w4 g zs) := HO3.out.below hb4 (by have := HS3.out; have := HG.out; omega)
  have HX4 := hide hrow4
  have HB4 : Hid (Below w.heap.size w w4) := after HB3.out hb4
  obtain ⟨g2, hg2⟩ : ∃ g2, g2 = w3.heap.size := ⟨_, rfl⟩
  have HG2 : Hid (g2 = w.heap.size + 2) := by rw [hg2]; exact HS3
  rw [← hg2] at HX4 ⊢
  clear hg2 HS3 hrow4 hsz4 hb4 HB3 HR3 HO3
  go_wp2_with fail
  refine (put_any w.heap.size n i false ys w4 HL3.out hi hn2 HF3.out HR4.out).mono ?_
  rintro e w5 ⟨rfl, hw5⟩
  have HR5 : Hid (Row w5 w.heap.size ys) := by have h := HR4.out.put false HI3.out; rw [HT.out] at h; rw [hw5]; exact h
  have HO5 : Hid (Row w5 g zs) := by rw [hw5]; exact HO4.out.set_other _ (by have := HG.out; omega)
  have HX5 : Hid (Row w5 g2 ys) := by rw [hw5]; exact HX4.out.set_other _ (by have := HG2.out; omega)
  have HB5 : Hid (Below w.heap.size w w5) := by rw [hw5]; exact (HB4.out.setCell (Nat.le_refl _) _).drew
  clear hw5 HB4 HR4 HO4 HX4
  go_wp2_with fail
  refine (equal_any w.heap.size g2 n ys ys w5 HL3.out HL3.out hn2 HR5.out HX5.out rfl).mono ?_
  rintro e w6 ⟨rfl, q6, hw6⟩
  have HR6 : Hid (Row w6 w.heap.size ys) := by rw [hw6]; exact HR5.out
  have HO6 : Hid (Row w6 g zs) := by rw [hw6]; exact HO5.out
  have HB6 : Hid (Below w.heap.size w w6) := by rw [hw6]; exact below_drewN HB5.out q6
  clear hw6 HB5 HR5 HO5 HX5
  go_wp2_with fail
  refine (put_any w.heap.size n i false ys w6 HL3.out hi hn2 HF3.out HR6.out).mono ?_
  rintro e w7 ⟨rfl, hw7⟩
  have HR7 : Hid (Row w7 w.heap.size zs) := by have h := HR6.out.put false HI3.out; rw [HU.out] at h; rw [hw7]; exact h
  have HO7 : Hid (Row w7 g zs) := by rw [hw7]; exact HO6.out.set_other _ (by have := HG.out; omega)
  have HB7 : Hid (Below w.heap.size w w7) := by rw [hw7]; exact (HB6.out.setCell (Nat.le_refl _) _).drew
  clear hw7 HB6 HR6 HO6
  go_wp2_with fail
  refine (equal_any w.heap.size g n zs zs w7 HN.out HN.out hn2 HR7.out HO7.out rfl).mono ?_
  rintro e w8 ⟨rfl, q8, hw8⟩
  have HB8 : Hid (Below w.heap.size w w8) := by rw [hw8]; exact below_drewN HB7.out q8
  clear hw8 HB7 HR7 HO7
  go_wp2_with fail
  go_ret
  exact ⟨rfl, HB8.out⟩

set_option maxHeartbeats 1000000 in
theorem late_ft (b off n cap i c d : Nat) (zs ys : List Nat) (w : World) (hn2 : n ≤ 65536) (hi : i < 64 * n) (hcl : c ≤ 64 * n) (hcl2 : d ≤ 64 * n)
    (hcp : d + 1 = c) (HN : Hid (zs.length = n)) (HF : Hid (Fits zs)) (HW : Hid (mem zs i = true)) (HC : Hid (c = cnt zs)) (HD : Hid (d = cnt ys))
    (HR : Hid (∀ j, j < n → w.cell? ⟨b, off + j, none⟩ = some (.int .u64 ((zs.getD j 0 : Nat) : Int))))
    (HY : Hid (ys = Bits.put zs i false)) (HF3 : Hid (Fits ys)) (HL3 : Hid (ys.length = n)) (HT : Hid (Bits.put ys i false = ys)) (HU : Hid (Bits.put ys i true = zs)) :
    Calls Try.prog 4 #[.slice (some ⟨b, off, none⟩) n cap, .int .i64 i, .bool false] w fun e w' => e = .returned (.bool true) ∧ Below w.heap.size w w' := by
  obtain rfl : c = d + 1 := by omega
  have HI : Hid (i / 64 < zs.length) := hide (by rw [HN.out]; omega)
  have HI3 : Hid (i / 64 < ys.length) := hide (by rw [HL3.out]; omega)
  try clear hcp
  go_enter Try.func4, Try.ntmps4
  go_wp2_with (go_at_call 11; refine (bytes_ok _ _ _ _ _ _ (by omega)).mono ?_; rintro e w' ⟨rfl, rfl⟩)
  refine (clone_any b off n cap zs _ HN.out hn2 HR.out).mono ?_
  rintro e w1 ⟨rfl, hb1, hsz1, hrow1⟩
  have HR1 := hide hrow1
  have HS1 := hide hsz1
  have HB1 := hide hb1
  clear hrow1 hsz1 hb1
  go_wp2_with fail
  refine (clone_any w.heap.size 0 n n zs w1 HN.out hn2 (fun j hj => by rw [Nat.zero_add]; exact (HR1.out j (by rw [HN.out]; exact hj)).1)).mono ?_
  rintro e w2 ⟨rfl, hb2, hsz2, hrow2⟩
  have HR2 : Hid (Row w2 w.heap.size zs) := HR1.out.below hb2 (by have := HS1.out; omega)
  have HO2 := hide hrow2
  have HS2 := hide hsz2
  have HB2 : Hid (Below w.heap.size w w2) := after HB1.out hb2
  clear hrow2 hsz2 hb2 HB1 HR1
  obtain ⟨g, hg⟩ : ∃ g, g = w1.heap.size := ⟨_, rfl⟩
  have HG : Hid (g = w.heap.size + 1) := by rw [hg]; exact HS1
  rw [← hg] at HO2 HS2 ⊢
  clear hg HS1
  go_wp2_with fail
  refine (member_any g n i zs w2 HN.out hi hn2 HF.out HO2.out).mono ?_
  rintro e w3 ⟨rfl, hw3⟩
  rw [hw3, HW.out]
  clear hw3 w3
  go_wp2_with fail
  refine (count_any g n zs w2 HN.out hn2 HF.out HO2.out).mono ?_
  rintro e w3 ⟨rfl, hw3⟩
  rw [hw3, ← HC.out]
  clear hw3 w3
  go_wp2_with fail
  refine (put_any w.heap.size n i false zs w2 HN.out hi hn2 HF.out HR2.out).mono ?_
  rintro e w3 ⟨rfl, hw3⟩
  have HR3 : Hid (Row w3 w.heap.size ys) := by rw [hw3, HY.out]; exact HR2.out.put false HI.out
  have HO3 : Hid (Row w3 g zs) := by rw [hw3]; exact HO2.out.set_other _ (by have := HG.out; omega)
  have HB3 : Hid (Below w.heap.size w w3) := by rw [hw3]; exact (HB2.out.setCell (Nat.le_refl _) _).drew
  have HS3 : Hid (w3.heap.size = w.heap.size + 2) := hide (by rw [hw3]; have h1 := HS2.out; have h2 := HG.out; simp; omega)
  clear hw3 HB2 HR2 HO2 HS2
  go_wp2_with fail
  refine (count_any w.heap.size n ys w3 HL3.out hn2 HF3.out HR3.out).mono ?_
  rintro e w4 ⟨rfl, hw4⟩
  rw [hw4, ← HD.out]
  clear hw4 w4
  go_wp2_with fail
  refine (clone_any w.heap.size 0 n n ys w3 HL3.out hn2 (fun j hj => by rw [Nat.zero_add]; exact (HR3.out j (by rw [HL3.out]; exact hj)).1)).mono ?_
  rintro e w4 ⟨rfl, hb4, hsz4, hrow4⟩
  have HR4 : Hid (Row w4 w.heap.size ys) := HR3.out.below hb4 (by have := HS3.out; omega)
  have HO4 : Hid (Row w4 g zs) := HO3.out.below hb4 (by have := HS3.out; have := HG.out; omega)
  have HX4 := hide hrow4
  have HB4 : Hid (Below w.heap.size w w4) := after HB3.out hb4
  obtain ⟨g2, hg2⟩ : ∃ g2, g2 = w3.heap.size := ⟨_, rfl⟩
  have HG2 : Hid (g2 = w.heap.size + 2) := by rw [hg2]; exact HS3
  rw [← hg2] at HX4 ⊢
  clear hg2 HS3 hrow4 hsz4 hb4 HB3 HR3 HO3
  go_wp2_with fail
  refine (put_any w.heap.size n i false ys w4 HL3.out hi hn2 HF3.out HR4.out).mono ?_
  rintro e w5 ⟨rfl, hw5⟩
  have HR5 : Hid (Row w5 w.heap.size ys) := by have h := HR4.out.put false HI3.out; rw [HT.out] at h; rw [hw5]; exact h
  have HO5 : Hid (Row w5 g zs) := by rw [hw5]; exact HO4.out.set_other _ (by have := HG.out; omega)
  have HX5 : Hid (Row w5 g2 ys) := by rw [hw5]; exact HX4.out.set_other _ (by have := HG2.out; omega)
  have HB5 : Hid (Below w.heap.size w w5) := by rw [hw5]; exact (HB4.out.setCell (Nat.le_refl _) _).drew
  clear hw5 HB4 HR4 HO4 HX4
  go_wp2_with fail
  refine (equal_any w.heap.size g2 n ys ys w5 HL3.out HL3.out hn2 HR5.out HX5.out rfl).mono ?_
  rintro e w6 ⟨rfl, q6, hw6⟩
  have HR6 : Hid (Row w6 w.heap.size ys) := by rw [hw6]; exact HR5.out
  have HO6 : Hid (Row w6 g zs) := by rw [hw6]; exact HO5.out
  have HB6 : Hid (Below w.heap.size w w6) := by rw [hw6]; exact below_drewN HB5.out q6
  clear hw6 HB5 HR5 HO5 HX5
  go_wp2_with fail
  refine (put_any w.heap.size n i true ys w6 HL3.out hi hn2 HF3.out HR6.out).mono ?_
  rintro e w7 ⟨rfl, hw7⟩
  have HR7 : Hid (Row w7 w.heap.size zs) := by have h := HR6.out.put true HI3.out; rw [HU.out] at h; rw [hw7]; exact h
  have HO7 : Hid (Row w7 g zs) := by rw [hw7]; exact HO6.out.set_other _ (by have := HG.out; omega)
  have HB7 : Hid (Below w.heap.size w w7) := by rw [hw7]; exact (HB6.out.setCell (Nat.le_refl _) _).drew
  clear hw7 HB6 HR6 HO6
  go_wp2_with fail
  refine (equal_any w.heap.size g n zs zs w7 HN.out HN.out hn2 HR7.out HO7.out rfl).mono ?_
  rintro e w8 ⟨rfl, q8, hw8⟩
  have HB8 : Hid (Below w.heap.size w w8) := by rw [hw8]; exact below_drewN HB7.out q8
  clear hw8 HB7 HR7 HO7
  go_wp2_with fail
  go_ret
  exact ⟨rfl, HB8.out⟩

set_option maxHeartbeats 1000000 in
theorem late_tf (b off n cap i c d : Nat) (zs ys : List Nat) (w : World) (hn2 : n ≤ 65536) (hi : i < 64 * n) (hcl : c ≤ 64 * n) (hcl2 : d ≤ 64 * n)
    (hcp : d = c + 1) (HN : Hid (zs.length = n)) (HF : Hid (Fits zs)) (HW : Hid (mem zs i = false)) (HC : Hid (c = cnt zs)) (HD : Hid (d = cnt ys))
    (HR : Hid (∀ j, j < n → w.cell? ⟨b, off + j, none⟩ = some (.int .u64 ((zs.getD j 0 : Nat) : Int))))
    (HY : Hid (ys = Bits.put zs i true)) (HF3 : Hid (Fits ys)) (HL3 : Hid (ys.length = n)) (HT : Hid (Bits.put ys i true = ys)) (HU : Hid (Bits.put ys i false = zs)) :
    Calls Try.prog 4 #[.slice (some ⟨b, off, none⟩) n cap, .int .i64 i, .bool true] w fun e w' => e = .returned (.bool true) ∧ Below w.heap.size w w' := by
  obtain rfl : d = c + 1 := by omega
  have HI : Hid (i / 64 < zs.length) := hide (by rw [HN.out]; omega)
  have HI3 : Hid (i / 64 < ys.length) := hide (by rw [HL3.out]; omega)
  try clear hcp
  go_enter Try.func4, Try.ntmps4
  go_wp2_with (go_at_call 11; refine (bytes_ok _ _ _ _ _ _ (by omega)).mono ?_; rintro e w' ⟨rfl, rfl⟩)
  refine (clone_any b off n cap zs _ HN.out hn2 HR.out).mono ?_
  rintro e w1 ⟨rfl, hb1, hsz1, hrow1⟩
  have HR1 := hide hrow1
  have HS1 := hide hsz1
  have HB1 := hide hb1
  clear hrow1 hsz1 hb1
  go_wp2_with fail
  refine (clone_any w.heap.size 0 n n zs w1 HN.out hn2 (fun j hj => by rw [Nat.zero_add]; exact (HR1.out j (by rw [HN.out]; exact hj)).1)).mono ?_
  rintro e w2 ⟨rfl, hb2, hsz2, hrow2⟩
  have HR2 : Hid (Row w2 w.heap.size zs) := HR1.out.below hb2 (by have := HS1.out; omega)
  have HO2 := hide hrow2
  have HS2 := hide hsz2
  have HB2 : Hid (Below w.heap.size w w2) := after HB1.out hb2
  clear hrow2 hsz2 hb2 HB1 HR1
  obtain ⟨g, hg⟩ : ∃ g, g = w1.heap.size := ⟨_, rfl⟩
  have HG : Hid (g = w.heap.size + 1) := by rw [hg]; exact HS1
  rw [← hg] at HO2 HS2 ⊢
  clear hg HS1
  go_wp2_with fail
  refine (member_any g n i zs w2 HN.out hi hn2 HF.out HO2.out).mono ?_
  rintro e w3 ⟨rfl, hw3⟩
  rw [hw3, HW.out]
  clear hw3 w3
  go_wp2_with fail
  refine (count_any g n zs w2 HN.out hn2 HF.out HO2.out).mono ?_
  rintro e w3 ⟨rfl, hw3⟩
  rw [hw3, ← HC.out]
  clear hw3 w3
  go_wp2_with fail
  refine (put_any w.heap.size n i true zs w2 HN.out hi hn2 HF.out HR2.out).mono ?_
  rintro e w3 ⟨rfl, hw3⟩
  have HR3 : Hid (Row w3 w.heap.size ys) := by rw [hw3, HY.out]; exact HR2.out.put true HI.out
  have HO3 : Hid (Row w3 g zs) := by rw [hw3]; exact HO2.out.set_other _ (by have := HG.out; omega)
  have HB3 : Hid (Below w.heap.size w w3) := by rw [hw3]; exact (HB2.out.setCell (Nat.le_refl _) _).drew
  have HS3 : Hid (w3.heap.size = w.heap.size + 2) := hide (by rw [hw3]; have h1 := HS2.out; have h2 := HG.out; simp; omega)
  clear hw3 HB2 HR2 HO2 HS2
  go_wp2_with fail
  refine (count_any w.heap.size n ys w3 HL3.out hn2 HF3.out HR3.out).mono ?_
  rintro e w4 ⟨rfl, hw4⟩
  rw [hw4, ← HD.out]
  clear hw4 w4
  go_wp2_with fail
  refine (clone_any w.heap.size 0 n n ys w3 HL3.out hn2 (fun j hj => by rw [Nat.zero_add]; exact (HR3.out j (by rw [HL3.out]; exact hj)).1)).mono ?_
  rintro e w4 ⟨rfl, hb4, hsz4, hrow4⟩
  have HR4 : Hid (Row w4 w.heap.size ys) := HR3.out.below hb4 (by have := HS3.out; omega)
  have HO4 : Hid (Row w4 g zs) := HO3.out.below hb4 (by have := HS3.out; have := HG.out; omega)
  have HX4 := hide hrow4
  have HB4 : Hid (Below w.heap.size w w4) := after HB3.out hb4
  obtain ⟨g2, hg2⟩ : ∃ g2, g2 = w3.heap.size := ⟨_, rfl⟩
  have HG2 : Hid (g2 = w.heap.size + 2) := by rw [hg2]; exact HS3
  rw [← hg2] at HX4 ⊢
  clear hg2 HS3 hrow4 hsz4 hb4 HB3 HR3 HO3
  go_wp2_with fail
  refine (put_any w.heap.size n i true ys w4 HL3.out hi hn2 HF3.out HR4.out).mono ?_
  rintro e w5 ⟨rfl, hw5⟩
  have HR5 : Hid (Row w5 w.heap.size ys) := by have h := HR4.out.put true HI3.out; rw [HT.out] at h; rw [hw5]; exact h
  have HO5 : Hid (Row w5 g zs) := by rw [hw5]; exact HO4.out.set_other _ (by have := HG.out; omega)
  have HX5 : Hid (Row w5 g2 ys) := by rw [hw5]; exact HX4.out.set_other _ (by have := HG2.out; omega)
  have HB5 : Hid (Below w.heap.size w w5) := by rw [hw5]; exact (HB4.out.setCell (Nat.le_refl _) _).drew
  clear hw5 HB4 HR4 HO4 HX4
  go_wp2_with fail
  refine (equal_any w.heap.size g2 n ys ys w5 HL3.out HL3.out hn2 HR5.out HX5.out rfl).mono ?_
  rintro e w6 ⟨rfl, q6, hw6⟩
  have HR6 : Hid (Row w6 w.heap.size ys) := by rw [hw6]; exact HR5.out
  have HO6 : Hid (Row w6 g zs) := by rw [hw6]; exact HO5.out
  have HB6 : Hid (Below w.heap.size w w6) := by rw [hw6]; exact below_drewN HB5.out q6
  clear hw6 HB5 HR5 HO5 HX5
  go_wp2_with fail
  refine (put_any w.heap.size n i false ys w6 HL3.out hi hn2 HF3.out HR6.out).mono ?_
  rintro e w7 ⟨rfl, hw7⟩
  have HR7 : Hid (Row w7 w.heap.size zs) := by have h := HR6.out.put false HI3.out; rw [HU.out] at h; rw [hw7]; exact h
  have HO7 : Hid (Row w7 g zs) := by rw [hw7]; exact HO6.out.set_other _ (by have := HG.out; omega)
  have HB7 : Hid (Below w.heap.size w w7) := by rw [hw7]; exact (HB6.out.setCell (Nat.le_refl _) _).drew
  clear hw7 HB6 HR6 HO6
  go_wp2_with fail
  refine (equal_any w.heap.size g n zs zs w7 HN.out HN.out hn2 HR7.out HO7.out rfl).mono ?_
  rintro e w8 ⟨rfl, q8, hw8⟩
  have HB8 : Hid (Below w.heap.size w w8) := by rw [hw8]; exact below_drewN HB7.out q8
  clear hw8 HB7 HR7 HO7
  go_wp2_with fail
  go_ret
  exact ⟨rfl, HB8.out⟩

set_option maxHeartbeats 1000000 in
theorem late_tt (b off n cap i c d : Nat) (zs ys : List Nat) (w : World) (hn2 : n ≤ 65536) (hi : i < 64 * n) (hcl : c ≤ 64 * n) (hcl2 : d ≤ 64 * n)
    (hcp : d = c) (HN : Hid (zs.length = n)) (HF : Hid (Fits zs)) (HW : Hid (mem zs i = true)) (HC : Hid (c = cnt zs)) (HD : Hid (d = cnt ys))
    (HR : Hid (∀ j, j < n → w.cell? ⟨b, off + j, none⟩ = some (.int .u64 ((zs.getD j 0 : Nat) : Int))))
    (HY : Hid (ys = Bits.put zs i true)) (HF3 : Hid (Fits ys)) (HL3 : Hid (ys.length = n)) (HT : Hid (Bits.put ys i true = ys)) (HU : Hid (Bits.put ys i true = zs)) :
    Calls Try.prog 4 #[.slice (some ⟨b, off, none⟩) n cap, .int .i64 i, .bool true] w fun e w' => e = .returned (.bool true) ∧ Below w.heap.size w w' := by
  obtain rfl : d = c := by omega
  have HI : Hid (i / 64 < zs.length) := hide (by rw [HN.out]; omega)
  have HI3 : Hid (i / 64 < ys.length) := hide (by rw [HL3.out]; omega)
  try clear hcp
  go_enter Try.func4, Try.ntmps4
  go_wp2_with (go_at_call 11; refine (bytes_ok _ _ _ _ _ _ (by omega)).mono ?_; rintro e w' ⟨rfl, rfl⟩)
  refine (clone_any b off n cap zs _ HN.out hn2 HR.out).mono ?_
  rintro e w1 ⟨rfl, hb1, hsz1, hrow1⟩
  have HR1 := hide hrow1
  have HS1 := hide hsz1
  have HB1 := hide hb1
  clear hrow1 hsz1 hb1
  go_wp2_with fail
  refine (clone_any w.heap.size 0 n n zs w1 HN.out hn2 (fun j hj => by rw [Nat.zero_add]; exact (HR1.out j (by rw [HN.out]; exact hj)).1)).mono ?_
  rintro e w2 ⟨rfl, hb2, hsz2, hrow2⟩
  have HR2 : Hid (Row w2 w.heap.size zs) := HR1.out.below hb2 (by have := HS1.out; omega)
  have HO2 := hide hrow2
  have HS2 := hide hsz2
  have HB2 : Hid (Below w.heap.size w w2) := after HB1.out hb2
  clear hrow2 hsz2 hb2 HB1 HR1
  obtain ⟨g, hg⟩ : ∃ g, g = w1.heap.size := ⟨_, rfl⟩
  have HG : Hid (g = w.heap.size + 1) := by rw [hg]; exact HS1
  rw [← hg] at HO2 HS2 ⊢
  clear hg HS1
  go_wp2_with fail
  refine (member_any g n i zs w2 HN.out hi hn2 HF.out HO2.out).mono ?_
  rintro e w3 ⟨rfl, hw3⟩
  rw [hw3, HW.out]
  clear hw3 w3
  go_wp2_with fail
  refine (count_any g n zs w2 HN.out hn2 HF.out HO2.out).mono ?_
  rintro e w3 ⟨rfl, hw3⟩
  rw [hw3, ← HC.out]
  clear hw3 w3
  go_wp2_with fail
  refine (put_any w.heap.size n i true zs w2 HN.out hi hn2 HF.out HR2.out).mono ?_
  rintro e w3 ⟨rfl, hw3⟩
  have HR3 : Hid (Row w3 w.heap.size ys) := by rw [hw3, HY.out]; exact HR2.out.put true HI.out
  have HO3 : Hid (Row w3 g zs) := by rw [hw3]; exact HO2.out.set_other _ (by have := HG.out; omega)
  have HB3 : Hid (Below w.heap.size w w3) := by rw [hw3]; exact (HB2.out.setCell (Nat.le_refl _) _).drew
  have HS3 : Hid (w3.heap.size = w.heap.size + 2) := hide (by rw [hw3]; have h1 := HS2.out; have h2 := HG.out; simp; omega)
  clear hw3 HB2 HR2 HO2 HS2
  go_wp2_with fail
  refine (count_any w.heap.size n ys w3 HL3.out hn2 HF3.out HR3.out).mono ?_
  rintro e w4 ⟨rfl, hw4⟩
  rw [hw4, ← HD.out]
  clear hw4 w4
  go_wp2_with fail
  refine (clone_any w.heap.size 0 n n ys w3 HL3.out hn2 (fun j hj => by rw [Nat.zero_add]; exact (HR3.out j (by rw [HL3.out]; exact hj)).1)).mono ?_
  rintro e w4 ⟨rfl, hb4, hsz4, hrow4⟩
  have HR4 : Hid (Row w4 w.heap.size ys) := HR3.out.below hb4 (by have := HS3.out; omega)
  have HO4 : Hid (Row w4 g zs) := HO3.out.below hb4 (by have := HS3.out; have := HG.out; omega)
  have HX4 := hide hrow4
  have HB4 : Hid (Below w.heap.size w w4) := after HB3.out hb4
  obtain ⟨g2, hg2⟩ : ∃ g2, g2 = w3.heap.size := ⟨_, rfl⟩
  have HG2 : Hid (g2 = w.heap.size + 2) := by rw [hg2]; exact HS3
  rw [← hg2] at HX4 ⊢
  clear hg2 HS3 hrow4 hsz4 hb4 HB3 HR3 HO3
  go_wp2_with fail
  refine (put_any w.heap.size n i true ys w4 HL3.out hi hn2 HF3.out HR4.out).mono ?_
  rintro e w5 ⟨rfl, hw5⟩
  have HR5 : Hid (Row w5 w.heap.size ys) := by have h := HR4.out.put true HI3.out; rw [HT.out] at h; rw [hw5]; exact h
  have HO5 : Hid (Row w5 g zs) := by rw [hw5]; exact HO4.out.set_other _ (by have := HG.out; omega)
  have HX5 : Hid (Row w5 g2 ys) := by rw [hw5]; exact HX4.out.set_other _ (by have := HG2.out; omega)
  have HB5 : Hid (Below w.heap.size w w5) := by rw [hw5]; exact (HB4.out.setCell (Nat.le_refl _) _).drew
  clear hw5 HB4 HR4 HO4 HX4
  go_wp2_with fail
  refine (equal_any w.heap.size g2 n ys ys w5 HL3.out HL3.out hn2 HR5.out HX5.out rfl).mono ?_
  rintro e w6 ⟨rfl, q6, hw6⟩
  have HR6 : Hid (Row w6 w.heap.size ys) := by rw [hw6]; exact HR5.out
  have HO6 : Hid (Row w6 g zs) := by rw [hw6]; exact HO5.out
  have HB6 : Hid (Below w.heap.size w w6) := by rw [hw6]; exact below_drewN HB5.out q6
  clear hw6 HB5 HR5 HO5 HX5
  go_wp2_with fail
  refine (put_any w.heap.size n i true ys w6 HL3.out hi hn2 HF3.out HR6.out).mono ?_
  rintro e w7 ⟨rfl, hw7⟩
  have HR7 : Hid (Row w7 w.heap.size zs) := by have h := HR6.out.put true HI3.out; rw [HU.out] at h; rw [hw7]; exact h
  have HO7 : Hid (Row w7 g zs) := by rw [hw7]; exact HO6.out.set_other _ (by have := HG.out; omega)
  have HB7 : Hid (Below w.heap.size w w7) := by rw [hw7]; exact (HB6.out.setCell (Nat.le_refl _) _).drew
  clear hw7 HB6 HR6 HO6
  go_wp2_with fail
  refine (equal_any w.heap.size g n zs zs w7 HN.out HN.out hn2 HR7.out HO7.out rfl).mono ?_
  rintro e w8 ⟨rfl, q8, hw8⟩
  have HB8 : Hid (Below w.heap.size w w8) := by rw [hw8]; exact below_drewN HB7.out q8
  clear hw8 HB7 HR7 HO7
  go_wp2_with fail
  go_ret
  exact ⟨rfl, HB8.out⟩

theorem late (b off n cap i : Nat) (inn : Bool) (zs : List Nat) (w : World) (hn : zs.length = n) (hn2 : n ≤ 65536) (hi : i < 64 * n) (hf : Fits zs)
    (hr : ∀ j, j < n → w.cell? ⟨b, off + j, none⟩ = some (.int .u64 ((zs.getD j 0 : Nat) : Int))) :
    Calls Try.prog 4 #[.slice (some ⟨b, off, none⟩) n cap, .int .i64 i, .bool inn] w fun e w' => e = .returned (.bool true) ∧ Below w.heap.size w w' := by
  have hil : i / 64 < zs.length := by omega
  have hcp := cnt_put zs i inn hil hf
  have hcl := cnt_le zs
  have hcl2 := cnt_le (Bits.put zs i inn)
  rw [put_len] at hcl2
  rw [hn] at hcl hcl2
  have hF3 : Fits (Bits.put zs i inn) := put_fits zs i inn hil hf
  have hL3 : (Bits.put zs i inn).length = n := by rw [put_len]; exact hn
  have hT : Bits.put (Bits.put zs i inn) i inn = Bits.put zs i inn := put_twice zs i inn hil hf
  have hU : Bits.put (Bits.put zs i inn) i (mem zs i) = zs := put_back zs i inn hil hf
  obtain ⟨was, hwas⟩ : ∃ was, mem zs i = was := ⟨_, rfl⟩
  rw [hwas] at hcp hU
  cases inn <;> cases was
  · exact late_ff b off n cap i _ _ zs _ w hn2 hi hcl hcl2 (by simpa using hcp) hn hf hwas rfl rfl hr rfl hF3 hL3 hT hU
  · exact late_ft b off n cap i _ _ zs _ w hn2 hi hcl hcl2 (by simpa using hcp) hn hf hwas rfl rfl hr rfl hF3 hL3 hT hU
  · exact late_tf b off n cap i _ _ zs _ w hn2 hi hcl hcl2 (by simpa using hcp) hn hf hwas rfl rfl hr rfl hF3 hL3 hT hU
  · exact late_tt b off n cap i _ _ zs _ w hn2 hi hcl hcl2 (by simpa using hcp) hn hf hwas rfl rfl hr rfl hF3 hL3 hT hU
end Go.Proofs.Qxb6605790a.Undone
