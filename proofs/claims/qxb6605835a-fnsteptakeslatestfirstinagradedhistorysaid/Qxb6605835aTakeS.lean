import Derived.Test.Qxb6605835aTakeG
namespace Go.Proofs.Qxb6605835a
open Go.ChangeShapes Go.WideShapes Go.ChangeAt Go.RowKit
set_option linter.unusedVariables false

/-- The node of an ID. -/
def nodeFor (K : Nat → Cm) (N : List Nd) (id : ByteArray) : Option Nd := N.find? (fun x => (K x.b).id.toList == id.toList)

def exV (o : Option Nd) : Value := .bool o.isSome
def ndV (o : Option Nd) : Value := match o with | some x => ptr x.b | none => .pointer none
def ptN (o : Option Nd) : Nat := match o with | some x => x.p | none => 0
def quV (o : Option Nd) : Bool := match o with | some x => x.q | none => false
def cmC (K : Nat → Cm) (o : Option Nd) : Cm := match o with | some x => K x.b | none => rootCm ⟨#[]⟩

/-- A commit at offset o of an array of cells. -/
def CArr (arr : Array Value) (o : Nat) (c : Cm) : Prop :=
  arr[o]? = some (.string c.id) ∧ arr[o + 1]? = some (.slice c.pa c.pn c.pc) ∧ arr[o + 2]? = some (.string c.com) ∧ arr[o + 3]? = some (.string c.msg) ∧ arr[o + 4]? = some (.int .i64 c.cr) ∧ arr[o + 5]? = some (.map none) ∧ arr[o + 6]? = some (.string c.mr) ∧ arr[o + 7]? = some (.int .i64 c.gen)

theorem made1 (z : Value) (n i : Nat) (h : i < n) : (madeCells #[z] n)[i]? = some z := by
  unfold madeCells
  rw [Array.getElem?_map, Array.getElem?_range, if_pos h]
  simp [Nat.mod_one]

theorem made8 (n i j : Nat) (h : i < n) (hj : j < 8) : (madeCells zeroC (n * 8))[i * 8 + j]? = some (zeroC[j]!) := by
  unfold madeCells
  rw [Array.getElem?_map, Array.getElem?_range, if_pos (by omega)]
  have : (i * 8 + j) % zeroC.size = j := by
    show (i * 8 + j) % 8 = j
    omega
  simp only [Option.map_some, this]

theorem made8C (n i : Nat) (h : i < n) : CArr (madeCells zeroC (n * 8)) (i * 8) (rootCm ⟨#[]⟩) :=
  ⟨made8 n i 0 h (by decide), made8 n i 1 h (by decide), made8 n i 2 h (by decide), made8 n i 3 h (by decide), made8 n i 4 h (by decide), made8 n i 5 h (by decide), made8 n i 6 h (by decide), made8 n i 7 h (by decide)⟩

theorem madeSize (z : Array Value) (n : Nat) : (madeCells z n).size = n := by simp [madeCells]

/-- The first k entries are the nodes', the rest is zero. -/
def Ent (K : Nat → Cm) (N : List Nd) (l : List ByteArray) (k i : Nat) : Option Nd := if i < k then nodeFor K N (l.getD i ⟨#[]⟩) else none

/-- The five rows of a snapshot. -/
structure Rows5 (w : World) (n : Nat) (E : Nat → Option Nd) (K : Nat → Cm) (g0 g1 g2 g3 g4 : Nat) (A0 A1 A2 A3 A4 : Array Value) : Prop where
  b0 : Blk w g0 4 A0
  b1 : Blk w g1 62 A1
  b2 : Blk w g2 3 A2
  b3 : Blk w g3 4 A3
  b4 : Blk w g4 39 A4
  ne : g0 ≠ g3
  s0 : A0.size = n
  s1 : A1.size = n
  s2 : A2.size = n
  s3 : A3.size = n
  s4 : A4.size = n * 8
  v0 : ∀ i, i < n → A0[i]? = some (exV (E i))
  v1 : ∀ i, i < n → A1[i]? = some (ndV (E i))
  v2 : ∀ i, i < n → A2[i]? = some (.int .i64 (ptN (E i)))
  v3 : ∀ i, i < n → A3[i]? = some (.bool (quV (E i)))
  v4 : ∀ i, i < n → CArr A4 (i * 8) (cmC K (E i))

theorem Rows5.below {w w' : World} {n : Nat} {E : Nat → Option Nd} {K : Nat → Cm} {g0 g1 g2 g3 g4 : Nat} {A0 A1 A2 A3 A4 : Array Value} (h : Rows5 w n E K g0 g1 g2 g3 g4 A0 A1 A2 A3 A4) (hb : Below w.heap.size w w') : Rows5 w' n E K g0 g1 g2 g3 g4 A0 A1 A2 A3 A4 :=
  ⟨h.b0.below hb h.b0.lt, h.b1.below hb h.b1.lt, h.b2.below hb h.b2.lt, h.b3.below hb h.b3.lt, h.b4.below hb h.b4.lt, h.ne, h.s0, h.s1, h.s2, h.s3, h.s4, h.v0, h.v1, h.v2, h.v3, h.v4⟩

theorem Rows5.ext {w : World} {n : Nat} {E E' : Nat → Option Nd} {K : Nat → Cm} {g0 g1 g2 g3 g4 : Nat} {A0 A1 A2 A3 A4 : Array Value} (h : Rows5 w n E K g0 g1 g2 g3 g4 A0 A1 A2 A3 A4) (he : ∀ i, i < n → E i = E' i) : Rows5 w n E' K g0 g1 g2 g3 g4 A0 A1 A2 A3 A4 :=
  ⟨h.b0, h.b1, h.b2, h.b3, h.b4, h.ne, h.s0, h.s1, h.s2, h.s3, h.s4, fun i hi => he i hi ▸ h.v0 i hi, fun i hi => he i hi ▸ h.v1 i hi, fun i hi => he i hi ▸ h.v2 i hi, fun i hi => he i hi ▸ h.v3 i hi, fun i hi => he i hi ▸ h.v4 i hi⟩

abbrev sl (g n : Nat) : Value := .slice (some ⟨g, 0, none⟩) n n

/-- What the loop of zzTake keeps in memory. -/
def TS (w wr : World) (n : Nat) (K : Nat → Cm) (E : Nat → Option Nd) (b6 g0 g1 g2 g3 g4 : Nat) : Prop :=
  ∃ A0 A1 A2 A3 A4, Blk wr b6 49 #[sl g0 n, sl g1 n, sl g2 n, sl g3 n, sl g4 n] ∧ Blk wr w.heap.size 49 zero5 ∧ Rows5 wr n E K g0 g1 g2 g3 g4 A0 A1 A2 A3 A4 ∧ Below w.heap.size w wr ∧ w.heap.size < b6 ∧ w.heap.size ≤ g0 ∧ w.heap.size ≤ g1 ∧ w.heap.size ≤ g2 ∧ w.heap.size ≤ g3 ∧ w.heap.size ≤ g4

/-- Behind the region that makes the rows. -/
theorem TX.ts {w w' : World} {n : Nat} {p : Nat → Bool} {x6 x12 x13 x14 x15 x16 x17 x18 x19 x20 x21 x22 : Value} (h : TX (w.alloc (.cells zero5 49)) n p w' x6 x12 x13 x14 x15 x16 x17 x18 x19 x20 x21 x22) (hall : ∀ j, j < 13 → p j = true) (K : Nat → Cm) :
    ∃ b6 g0 g1 g2 g3 g4, x6 = ptr b6 ∧ Hid (TS w w' n K (fun _ => none) b6 g0 g1 g2 g3 g4) := by
  obtain ⟨g0, e0, l0, k0⟩ := h.m1 (hall 1 (by decide))
  obtain ⟨g1, e1, l1, k1⟩ := h.m3 (hall 3 (by decide))
  obtain ⟨g2, e2, l2, k2⟩ := h.m5 (hall 5 (by decide))
  obtain ⟨g3, e3, l3, k3⟩ := h.m7 (hall 7 (by decide))
  obtain ⟨g4, e4, l4, k4⟩ := h.m9 (hall 9 (by decide))
  obtain ⟨b6, e6, l6, k6⟩ := h.a11 (hall 11 (by decide))
  rw [if_pos (hall 12 (by decide)), e0, e1, e2, e3, e4] at k6
  rw [World.size_alloc] at l0 l1 l2 l3 l4 l6
  have hd := h.d (hall 1 (by decide)) (hall 7 (by decide))
  have hbel := h.bel
  have hb : Below w.heap.size w w' := ((Below.refl _ _).alloc (Nat.le_refl _) _).trans (hbel.mono (by simp only [World.size_alloc]; omega))
  refine ⟨b6, g0, g1, g2, g3, g4, e6, _, _, _, _, _, k6, (Blk.new w 49 zero5).below hbel (by simp only [World.size_alloc]; omega), ⟨k0, k1, k2, k3, k4, fun e => hd (by rw [e0, e3, e]), madeSize _ _, madeSize _ _, madeSize _ _, madeSize _ _, madeSize _ _, fun i hi => made1 _ n i hi, fun i hi => made1 _ n i hi, fun i hi => made1 _ n i hi, fun i hi => made1 _ n i hi, fun i hi => made8C n i hi⟩, hb, by omega, by omega, by omega, by omega, by omega, by omega⟩

theorem TS.below {w wr wr' : World} {n : Nat} {K : Nat → Cm} {E : Nat → Option Nd} {b6 g0 g1 g2 g3 g4 : Nat} (h : TS w wr n K E b6 g0 g1 g2 g3 g4) (hb : Below wr.heap.size wr wr') : TS w wr' n K E b6 g0 g1 g2 g3 g4 := by
  obtain ⟨A0, A1, A2, A3, A4, h1, h2, h3, h4, h5⟩ := h
  exact ⟨A0, A1, A2, A3, A4, h1.below hb h1.lt, h2.below hb h2.lt, h3.below hb, after h4 hb, h5⟩

theorem TS.ext {w wr : World} {n : Nat} {K : Nat → Cm} {E E' : Nat → Option Nd} {b6 g0 g1 g2 g3 g4 : Nat} (h : TS w wr n K E b6 g0 g1 g2 g3 g4) (he : ∀ i, i < n → E i = E' i) : TS w wr n K E' b6 g0 g1 g2 g3 g4 := by
  obtain ⟨A0, A1, A2, A3, A4, h1, h2, h3, h4, h5⟩ := h
  exact ⟨A0, A1, A2, A3, A4, h1, h2, h3.ext he, h4, h5⟩

/-- The blocks of zzTake, whatever the rows hold. -/
structure Raw (w W : World) (n b6 g0 g1 g2 g3 g4 : Nat) (A0 A1 A2 A3 A4 : Array Value) : Prop where
  h6 : Blk W b6 49 #[sl g0 n, sl g1 n, sl g2 n, sl g3 n, sl g4 n]
  h4 : Blk W w.heap.size 49 zero5
  b0 : Blk W g0 4 A0
  b1 : Blk W g1 62 A1
  b2 : Blk W g2 3 A2
  b3 : Blk W g3 4 A3
  b4 : Blk W g4 39 A4
  ne : g0 ≠ g3
  bel : Below w.heap.size w W
  l6 : w.heap.size < b6
  l0 : w.heap.size ≤ g0
  l1 : w.heap.size ≤ g1
  l2 : w.heap.size ≤ g2
  l3 : w.heap.size ≤ g3
  l4 : w.heap.size ≤ g4

section
variable {w W W' : World} {n b6 g0 g1 g2 g3 g4 : Nat} {A0 A1 A2 A3 A4 : Array Value}

theorem Raw.below (h : Raw w W n b6 g0 g1 g2 g3 g4 A0 A1 A2 A3 A4) (hb : Below W.heap.size W W') : Raw w W' n b6 g0 g1 g2 g3 g4 A0 A1 A2 A3 A4 :=
  ⟨h.h6.below hb h.h6.lt, h.h4.below hb h.h4.lt, h.b0.below hb h.b0.lt, h.b1.below hb h.b1.lt, h.b2.below hb h.b2.lt, h.b3.below hb h.b3.lt, h.b4.below hb h.b4.lt, h.ne, after h.bel hb, h.l6, h.l0, h.l1, h.l2, h.l3, h.l4⟩

theorem Raw.set0 (h : Raw w W n b6 g0 g1 g2 g3 g4 A0 A1 A2 A3 A4) (k : Nat) (v : Value) : Raw w (W.setCell ⟨g0, k, none⟩ v) n b6 g0 g1 g2 g3 g4 (A0.setIfInBounds k v) A1 A2 A3 A4 :=
  ⟨h.h6.set_other k v (h.h6.ne h.b0 (by decide)), h.h4.set_other k v (h.h4.ne h.b0 (by decide)), h.b0.set k v, h.b1.set_other k v (h.b1.ne h.b0 (by decide)), h.b2.set_other k v (h.b2.ne h.b0 (by decide)), h.b3.set_other k v (fun e => h.ne e.symm), h.b4.set_other k v (h.b4.ne h.b0 (by decide)), h.ne, h.bel.setCell h.l0 _, h.l6, h.l0, h.l1, h.l2, h.l3, h.l4⟩
theorem Raw.set1 (h : Raw w W n b6 g0 g1 g2 g3 g4 A0 A1 A2 A3 A4) (k : Nat) (v : Value) : Raw w (W.setCell ⟨g1, k, none⟩ v) n b6 g0 g1 g2 g3 g4 A0 (A1.setIfInBounds k v) A2 A3 A4 :=
  ⟨h.h6.set_other k v (h.h6.ne h.b1 (by decide)), h.h4.set_other k v (h.h4.ne h.b1 (by decide)), h.b0.set_other k v (h.b0.ne h.b1 (by decide)), h.b1.set k v, h.b2.set_other k v (h.b2.ne h.b1 (by decide)), h.b3.set_other k v (h.b3.ne h.b1 (by decide)), h.b4.set_other k v (h.b4.ne h.b1 (by decide)), h.ne, h.bel.setCell h.l1 _, h.l6, h.l0, h.l1, h.l2, h.l3, h.l4⟩
theorem Raw.set2 (h : Raw w W n b6 g0 g1 g2 g3 g4 A0 A1 A2 A3 A4) (k : Nat) (v : Value) : Raw w (W.setCell ⟨g2, k, none⟩ v) n b6 g0 g1 g2 g3 g4 A0 A1 (A2.setIfInBounds k v) A3 A4 :=
  ⟨h.h6.set_other k v (h.h6.ne h.b2 (by decide)), h.h4.set_other k v (h.h4.ne h.b2 (by decide)), h.b0.set_other k v (h.b0.ne h.b2 (by decide)), h.b1.set_other k v (h.b1.ne h.b2 (by decide)), h.b2.set k v, h.b3.set_other k v (h.b3.ne h.b2 (by decide)), h.b4.set_other k v (h.b4.ne h.b2 (by decide)), h.ne, h.bel.setCell h.l2 _, h.l6, h.l0, h.l1, h.l2, h.l3, h.l4⟩
theorem Raw.set3 (h : Raw w W n b6 g0 g1 g2 g3 g4 A0 A1 A2 A3 A4) (k : Nat) (v : Value) : Raw w (W.setCell ⟨g3, k, none⟩ v) n b6 g0 g1 g2 g3 g4 A0 A1 A2 (A3.setIfInBounds k v) A4 :=
  ⟨h.h6.set_other k v (h.h6.ne h.b3 (by decide)), h.h4.set_other k v (h.h4.ne h.b3 (by decide)), h.b0.set_other k v h.ne, h.b1.set_other k v (h.b1.ne h.b3 (by decide)), h.b2.set_other k v (h.b2.ne h.b3 (by decide)), h.b3.set k v, h.b4.set_other k v (h.b4.ne h.b3 (by decide)), h.ne, h.bel.setCell h.l3 _, h.l6, h.l0, h.l1, h.l2, h.l3, h.l4⟩
theorem Raw.set4 (h : Raw w W n b6 g0 g1 g2 g3 g4 A0 A1 A2 A3 A4) (k : Nat) (v : Value) : Raw w (W.setCell ⟨g4, k, none⟩ v) n b6 g0 g1 g2 g3 g4 A0 A1 A2 A3 (A4.setIfInBounds k v) :=
  ⟨h.h6.set_other k v (h.h6.ne h.b4 (by decide)), h.h4.set_other k v (h.h4.ne h.b4 (by decide)), h.b0.set_other k v (h.b0.ne h.b4 (by decide)), h.b1.set_other k v (h.b1.ne h.b4 (by decide)), h.b2.set_other k v (h.b2.ne h.b4 (by decide)), h.b3.set_other k v (h.b3.ne h.b4 (by decide)), h.b4.set k v, h.ne, h.bel.setCell h.l4 _, h.l6, h.l0, h.l1, h.l2, h.l3, h.l4⟩

theorem Raw.of {K : Nat → Cm} {E : Nat → Option Nd} (h : TS w W n K E b6 g0 g1 g2 g3 g4) : ∃ A0 A1 A2 A3 A4, Raw w W n b6 g0 g1 g2 g3 g4 A0 A1 A2 A3 A4 ∧ Rows5 W n E K g0 g1 g2 g3 g4 A0 A1 A2 A3 A4 := by
  obtain ⟨A0, A1, A2, A3, A4, h6, h4, hr, hb, l6, l0, l1, l2, l3, l4⟩ := h
  exact ⟨A0, A1, A2, A3, A4, ⟨h6, h4, hr.b0, hr.b1, hr.b2, hr.b3, hr.b4, hr.ne, hb, l6, l0, l1, l2, l3, l4⟩, hr⟩

def setC8 (A : Array Value) (o : Nat) (c : Cm) : Array Value :=
  (((((((A.setIfInBounds o (.string c.id)).setIfInBounds (o + 1) (.slice c.pa c.pn c.pc)).setIfInBounds (o + 2) (.string c.com)).setIfInBounds (o + 3) (.string c.msg)).setIfInBounds (o + 4) (.int .i64 c.cr)).setIfInBounds (o + 5) (.map none)).setIfInBounds (o + 6) (.string c.mr)).setIfInBounds (o + 7) (.int .i64 c.gen)

theorem setC8_get (A : Array Value) (o : Nat) (c : Cm) (j : Nat) (h : j < o ∨ o + 7 < j) : (setC8 A o c)[j]? = A[j]? := by
  unfold setC8
  simp only [Array.getElem?_setIfInBounds]
  rw [if_neg (by omega), if_neg (by omega), if_neg (by omega), if_neg (by omega), if_neg (by omega), if_neg (by omega), if_neg (by omega), if_neg (by omega)]

theorem setC8_same (A : Array Value) (o : Nat) (c : Cm) (h : o + 7 < A.size) : CArr (setC8 A o c) o c := by
  have h0 : o < A.size := by omega
  have h1 : o + 1 < A.size := by omega
  have h2 : o + 2 < A.size := by omega
  have h3 : o + 3 < A.size := by omega
  have h4 : o + 4 < A.size := by omega
  have h5 : o + 5 < A.size := by omega
  have h6 : o + 6 < A.size := by omega
  unfold CArr setC8
  simp [h, h0, h1, h2, h3, h4, h5, h6]

/-- The entry k written whole. -/
theorem Raw.ts {K : Nat → Cm} {E E' : Nat → Option Nd} {k : Nat} {x : Nd} {W0 : World} (hr : Rows5 W0 n E K g0 g1 g2 g3 g4 A0 A1 A2 A3 A4) (hk : k < n) (he : ∀ i, i < n → i ≠ k → E i = E' i) (hx : E' k = some x)
    (h : Raw w W n b6 g0 g1 g2 g3 g4 (A0.setIfInBounds k (.bool true)) (A1.setIfInBounds k (ptr x.b)) (A2.setIfInBounds k (.int .i64 x.p)) (A3.setIfInBounds k (.bool x.q)) (setC8 A4 (k * 8) (K x.b))) : TS w W n K E' b6 g0 g1 g2 g3 g4 := by
  have hs0 := hr.s0
  have hs1 := hr.s1
  have hs2 := hr.s2
  have hs3 := hr.s3
  have hs4 := hr.s4
  refine ⟨_, _, _, _, _, h.h6, h.h4, ⟨h.b0, h.b1, h.b2, h.b3, h.b4, h.ne, by simp [hs0], by simp [hs1], by simp [hs2], by simp [hs3], by simp [setC8, hs4], fun i hi => ?_, fun i hi => ?_, fun i hi => ?_, fun i hi => ?_, fun i hi => ?_⟩, h.bel, h.l6, h.l0, h.l1, h.l2, h.l3, h.l4⟩
  · rw [Array.getElem?_setIfInBounds]
    by_cases e : k = i
    · subst e; rw [if_pos rfl, if_pos (by omega), hx]; rfl
    · rw [if_neg e, ← he i hi (fun h => e h.symm)]; exact hr.v0 i hi
  · rw [Array.getElem?_setIfInBounds]
    by_cases e : k = i
    · subst e; rw [if_pos rfl, if_pos (by omega), hx]; rfl
    · rw [if_neg e, ← he i hi (fun h => e h.symm)]; exact hr.v1 i hi
  · rw [Array.getElem?_setIfInBounds]
    by_cases e : k = i
    · subst e; rw [if_pos rfl, if_pos (by omega), hx]; rfl
    · rw [if_neg e, ← he i hi (fun h => e h.symm)]; exact hr.v2 i hi
  · rw [Array.getElem?_setIfInBounds]
    by_cases e : k = i
    · subst e; rw [if_pos rfl, if_pos (by omega), hx]; rfl
    · rw [if_neg e, ← he i hi (fun h => e h.symm)]; exact hr.v3 i hi
  · by_cases e : k = i
    · subst e
      rw [hx]
      exact setC8_same _ _ _ (by omega)
    · rw [← he i hi (fun h => e h.symm)]
      obtain ⟨v0, v1, v2, v3, v4, v5, v6, v7⟩ := hr.v4 i hi
      refine ⟨?_, ?_, ?_, ?_, ?_, ?_, ?_, ?_⟩ <;> rw [setC8_get _ _ _ _ (by omega)] <;> assumption
end

end Go.Proofs.Qxb6605835a
