import Derived.Test.Qxb6605835aClone
namespace Go.Proofs.Qxb6605835a
open Go.ChangeShapes Go.WideShapes Go.ChangeAt Go.RowKit
set_option linter.unusedVariables false

theorem info24 : (Try.prog.info? 24).map (fun i => (i.zero, i.size, i.bytes)) = some (some (.agg zeroZ), 7, 104) := by kernel_rfl

/-- A ZCommit at offset o of an array of cells. -/
def ZArr (arr : Array Value) (o : Nat) (c : Cm) : Prop :=
  arr[o]? = some (.string c.id) ∧ arr[o + 1]? = some (.slice c.pa c.pn c.pc) ∧ arr[o + 2]? = some (.string c.com) ∧ arr[o + 3]? = some (.string c.msg) ∧ arr[o + 4]? = some (.int .i64 c.cr) ∧ arr[o + 5]? = some (.string c.mr) ∧ arr[o + 6]? = some (.int .i64 c.gen)

def setA7 (arr : Array Value) (o : Nat) (c : Cm) : Array Value :=
  ((((((arr.setIfInBounds o (.string c.id)).setIfInBounds (o + 1) (.slice c.pa c.pn c.pc)).setIfInBounds (o + 2) (.string c.com)).setIfInBounds (o + 3) (.string c.msg)).setIfInBounds (o + 4) (.int .i64 c.cr)).setIfInBounds (o + 5) (.string c.mr)).setIfInBounds (o + 6) (.int .i64 c.gen)

theorem setA7_size (arr : Array Value) (o : Nat) (c : Cm) : (setA7 arr o c).size = arr.size := by simp [setA7]

theorem setA7_get (arr : Array Value) (o : Nat) (c : Cm) (j : Nat) (h : j < o ∨ o + 6 < j) : (setA7 arr o c)[j]? = arr[j]? := by
  unfold setA7
  simp only [Array.getElem?_setIfInBounds]
  rw [if_neg (by omega), if_neg (by omega), if_neg (by omega), if_neg (by omega), if_neg (by omega), if_neg (by omega), if_neg (by omega)]

theorem setA7_same (arr : Array Value) (o : Nat) (c : Cm) (h : o + 6 < arr.size) : ZArr (setA7 arr o c) o c := by
  have h0 : o < arr.size := by omega
  have h1 : o + 1 < arr.size := by omega
  have h2 : o + 2 < arr.size := by omega
  have h3 : o + 3 < arr.size := by omega
  have h4 : o + 4 < arr.size := by omega
  have h5 : o + 5 < arr.size := by omega
  unfold ZArr setA7
  simp [h, h0, h1, h2, h3, h4, h5]

theorem ZArr.other {arr : Array Value} {o o' : Nat} {c c' : Cm} (h : ZArr arr o' c') (hd : o' + 6 < o) : ZArr (setA7 arr o c) o' c' := by
  obtain ⟨h0, h1, h2, h3, h4, h5, h6⟩ := h
  refine ⟨?_, ?_, ?_, ?_, ?_, ?_, ?_⟩ <;> rw [setA7_get _ _ _ _ (by omega)] <;> assumption

theorem Blk.set7 {w : World} {b o : Nat} {arr : Array Value} (h : Blk w b 24 arr) (c : Cm) : Blk (set7 w b o (.string c.id) (.slice c.pa c.pn c.pc) (.string c.com) (.string c.msg) (.int .i64 c.cr) (.string c.mr) (.int .i64 c.gen)) b 24 (setA7 arr o c) :=
  ((((((h.set o _).set (o + 1) _).set (o + 2) _).set (o + 3) _).set (o + 4) _).set (o + 5) _).set (o + 6) _

theorem ZArr.at {w : World} {b o : Nat} {t : TypeId} {arr : Array Value} {c : Cm} (h : ZArr arr o c) (hb : Blk w b t arr) : ZAt w b o c := by
  obtain ⟨h0, h1, h2, h3, h4, h5, h6⟩ := h
  exact ⟨(hb.cell _).trans h0, (hb.cell _).trans h1, (hb.cell _).trans h2, (hb.cell _).trans h3, (hb.cell _).trans h4, (hb.cell _).trans h5, (hb.cell _).trans h6⟩

/-- What the loop of zzCloneTable keeps. -/
def CT (w wr : World) (g n : Nat) (T : List Cm) (k : Nat) : Prop :=
  ∃ (arr : Array Value) (T' : List Cm), Blk wr g 24 arr ∧ arr.size = n * 7 ∧ T'.length = k ∧ (∀ j (h : j < T'.length), ZArr arr (j * 7) T'[j]) ∧ (∀ j (h : j < T'.length) (h' : j < T.length), T'[j].pn = T[j].pn) ∧ (∀ c ∈ T', Par wr c ∧ ∀ a, c.pa = some a → g < a.block) ∧ w.heap.size ≤ g

/-- What zzCloneTable promises. -/
def CTPost (w : World) (T : List Cm) (e : Ending) (w' : World) : Prop :=
  ∃ ta tc T', e = .returned (.slice ta T'.length tc) ∧ T'.length = T.length ∧ refsOf T' = refsOf T ∧ Tab w' ta T' ∧ (∀ c ∈ T', Par w' c) ∧ Below w.heap.size w w'

theorem refsOf_eq {T T' : List Cm} (hl : T'.length = T.length) (h : ∀ j (h : j < T'.length) (h' : j < T.length), T'[j].pn = T[j].pn) : refsOf T' = refsOf T := by
  unfold refsOf
  congr 1
  apply List.ext_getElem (by simp [hl])
  intro j h1 h2
  simp only [List.getElem_map]
  exact h j (by simpa using h1) (by simpa using h2)

theorem CT.step {w wr w1 : World} {g n k : Nat} {T : List Cm} (h : CT w wr g n T k) (hk : k < n) {c c' : Cm} (hT : ∀ h' : k < T.length, T[k] = c) (hb : Below wr.heap.size wr w1) (hc : CloneOf wr w1 c c') :
    CT w (set7 w1 g (k * 7) (.string c'.id) (.slice c'.pa c'.pn c'.pc) (.string c'.com) (.string c'.msg) (.int .i64 c'.cr) (.string c'.mr) (.int .i64 c'.gen)) g n T (k + 1) := by
  obtain ⟨arr, T', hbk, hsz, hl, hz, hp, hpar, hg⟩ := h
  have hlt := hbk.lt
  have hkp := keeps7 (Keeps.refl w1 (· = g)) (b := g) (k * 7) (.inl rfl) (.string c'.id) (.slice c'.pa c'.pn c'.pc) (.string c'.com) (.string c'.msg) (.int .i64 c'.cr) (.string c'.mr) (.int .i64 c'.gen)
  refine ⟨setA7 arr (k * 7) c', T' ++ [c'], (hbk.below hb hlt).set7 c', by rw [setA7_size, hsz], by simp [hl], fun j hj => ?_, fun j hj hj' => ?_, fun x hx => ?_, hg⟩
  · by_cases e : j < T'.length
    · rw [List.getElem_append_left e]
      exact (hz j e).other (by omega)
    · have : j = k := by simp at hj; omega
      subst this
      rw [List.getElem_append_right (by omega)]
      simp only [hl, Nat.sub_self, List.getElem_cons_zero]
      exact setA7_same _ _ _ (by omega)
  · by_cases e : j < T'.length
    · rw [List.getElem_append_left e]
      exact hp j e hj'
    · have : j = k := by simp at hj; omega
      subst this
      rw [List.getElem_append_right (by omega)]
      simp only [hl, Nat.sub_self, List.getElem_cons_zero]
      rw [hT hj']
      exact hc.2.1
  · rcases List.mem_append.1 hx with hx | hx
    · obtain ⟨h1, h2⟩ := hpar x hx
      refine ⟨(h1.kept (Keeps.of_below hb (fun _ => False)) (fun _ _ => id)).kept hkp (fun a ha e => ?_), h2⟩
      have := h2 a ha
      omega
    · simp at hx
      subst hx
      obtain ⟨_, _, _, h1, h2⟩ := hc
      refine ⟨h1.kept hkp (fun a ha e => ?_), fun a ha => ?_⟩
      · have := h2 a ha
        omega
      · have := h2 a ha
        omega

set_option maxHeartbeats 4000000 in
set_option maxRecDepth 8000 in
theorem cloneTable_some (pb : Addr) (tc : Nat) (T : List Cm) (w : World) (hT : ∀ c ∈ T, ParA w c) (hc : T = [] ∨ ∃ tb off, some pb = some ⟨tb, off, none⟩ ∧ ∀ i (h : i < T.length), ZAt w tb (off + i * 7) T[i]) (hp : ∀ c ∈ T, c.pn ≤ 1000000) (hl : T.length ≤ 1000000) :
    Calls Try.prog 10 #[.slice (some pb) T.length tc] w fun e w' => CTPost w T e w' := by
  obtain ⟨i0, hi, hz0, hz1, hz2⟩ := info_parts info24
  have HI := hide (And.intro hi (And.intro hz0 (And.intro hz1 hz2)))
  clear hi hz0 hz1 hz2
  have q25 : ∀ (w : World) (a : Option Addr) (n c n' c' : Nat), (binOp .eql 25 (.slice a n c) (.slice none n' c')).run Try.prog w = .ok (.bool a.isNone) w := fun w a n c n' c' => Lib.run_eql_slice_nil w _ _ a n c n' c' Try.underlying25
  obtain ⟨n, hn⟩ : ∃ n, n = T.length := ⟨_, rfl⟩
  rw [← hn] at hl ⊢
  have HN := hide hn
  have HT := hide hT
  have HC := hide hc
  have HP := hide hp
  clear hn hT hc hp
  obtain ⟨g, hgd⟩ : ∃ g, g = w.heap.size := ⟨_, rfl⟩
  have HGD := hide hgd
  go_enter Try.func10, Try.ntmps10
  go_wp2_with ((at_make; refine wpList_make_full _ rfl _ _ 25 rfl w.heap.size 24 i0 (.agg zeroZ) 7 Try.underlying25 HI.out.1 HI.out.2.1 HI.out.2.2.1 _ _ _ _ n rfl rfl rfl rfl (by rw [HI.out.2.2.2]; omega) (by unfold maxLen; omega) (Nat.le_refl _) ?_; intro w1 hown hgrow; have HF := hide (own_full hown); have HB1 := hide (grown_below hgrow); clear hown hgrow; rw [← hgd]; clear hgd))
  have HS : Hid (CT w w1 g n T 0) := hide ⟨_, [], HGD.out ▸ HF.out.1, by have := HF.out.2; simp only [List.size_toArray]; exact this, rfl, fun j hj => by simp at hj, fun j hj => by simp at hj, fun c hc => by simp at hc, Nat.le_of_eq HGD.out.symm⟩
  clear HF
  go_loopw [4] (fun i wr => ∃ k : Nat, k ≤ n ∧ i = .int .i64 k ∧ Hid (CT w wr g n T k) ∧ Hid (Below w.heap.size w wr)) (fun i _ => n - (intOf i).toNat)
  case atStart => exact ⟨0, Nat.zero_le _, rfl, HS.out, HB1.out⟩
  case round =>
    obtain ⟨k, hk, rfl, HR, HB⟩ := hrel
    by_cases hlt : k < n
    · have hkT : k < T.length := by have := HN.out; omega
      rcases HC.out with h | ⟨tb, off, hpb, hcells⟩
      · rw [h] at hkT; simp at hkT
      cases hpb
      obtain ⟨z0, z1, z2, z3, z4, z5, z6⟩ := (hcells k hkT).below HB.out
      clear hcells
      have HPK := hide ((HT.out _ (List.getElem_mem hkT)).below HB.out)
      have hpk := HP.out _ (List.getElem_mem hkT)
      have HTK : Hid (∀ h' : k < T.length, T[k] = T[k]) := hide (fun _ => rfl)
      obtain ⟨c, hcd⟩ : ∃ c, c = T[k] := ⟨_, rfl⟩
      rw [← hcd] at z0 z1 z2 z3 z4 z5 z6 HPK hpk
      have HCD : Hid (∀ h' : k < T.length, T[k] = c) := hide (fun _ => hcd.symm)
      clear hcd HTK
      go_wp2_with fail
      refine (cloneZ_any c _ HPK.out hpk).mono ?_
      rintro e w2 ⟨c', rfl, hb2, hcl⟩
      have HR2 := hide (HR.out.step hlt HCD.out hb2 hcl)
      obtain ⟨arr, T', hbk, hsz, -⟩ := HR.out
      have hbk2 := hbk.below hb2 hbk.lt
      have HB2 := chain HB hb2
      have hgB : w.heap.size ≤ g := Nat.le_of_eq HGD.out.symm
      have HB3 : Hid (Below w.heap.size w (set7 w2 g (k * 7) (.string c'.id) (.slice c'.pa c'.pn c'.pc) (.string c'.com) (.string c'.msg) (.int .i64 c'.cr) (.string c'.mr) (.int .i64 c'.gen))) := hide (HB2.out.trans ((keeps7 (Keeps.refl w2 (· = g)) (b := g) (k * 7) (.inl rfl) _ _ _ _ _ _ _).below HB2.out.size (fun k e => by omega)))
      have a0 : w2.cell? ⟨g, k * 7, none⟩ = some arr[k * 7] := by rw [hbk2.cell]; exact Array.getElem?_eq_getElem (by omega)
      have a1 : w2.cell? ⟨g, k * 7 + 1, none⟩ = some arr[k * 7 + 1] := by rw [hbk2.cell]; exact Array.getElem?_eq_getElem (by omega)
      have a2 : w2.cell? ⟨g, k * 7 + 2, none⟩ = some arr[k * 7 + 2] := by rw [hbk2.cell]; exact Array.getElem?_eq_getElem (by omega)
      have a3 : w2.cell? ⟨g, k * 7 + 3, none⟩ = some arr[k * 7 + 3] := by rw [hbk2.cell]; exact Array.getElem?_eq_getElem (by omega)
      have a4 : w2.cell? ⟨g, k * 7 + 4, none⟩ = some arr[k * 7 + 4] := by rw [hbk2.cell]; exact Array.getElem?_eq_getElem (by omega)
      have a5 : w2.cell? ⟨g, k * 7 + 5, none⟩ = some arr[k * 7 + 5] := by rw [hbk2.cell]; exact Array.getElem?_eq_getElem (by omega)
      have a6 : w2.cell? ⟨g, k * 7 + 6, none⟩ = some arr[k * 7 + 6] := by rw [hbk2.cell]; exact Array.getElem?_eq_getElem (by omega)
      have f0 := hbk2.free (k * 7)
      have f1 := hbk2.free (k * 7 + 1)
      have f2 := hbk2.free (k * 7 + 2)
      have f3 := hbk2.free (k * 7 + 3)
      have f4 := hbk2.free (k * 7 + 4)
      have f5 := hbk2.free (k * 7 + 5)
      have f6 := hbk2.free (k * 7 + 6)
      generalize arr[k * 7] = o0 at *
      generalize arr[k * 7 + 1] = o1 at *
      generalize arr[k * 7 + 2] = o2 at *
      generalize arr[k * 7 + 3] = o3 at *
      generalize arr[k * 7 + 4] = o4 at *
      generalize arr[k * 7 + 5] = o5 at *
      generalize arr[k * 7 + 6] = o6 at *
      clear hb2 hcl hbk hsz hbk2 HB2 hgB HR HB z0 z1 z2 z3 z4 z5 z6
      unfold set7 at HR2 HB3
      go_wp2_with fail
      go_roundw
      case rel => exact ⟨k + 1, by omega, by go_num, HR2.out, HB3.out⟩
      case measure => simp [intOf]; omega
    · have HE : Hid (CTPost w T (.returned (.slice (some ⟨g, 0, none⟩) n n)) wr) := hide (by
        have hkn : k = n := by omega
        subst hkn
        obtain ⟨arr, T', hbk, hsz, hl, hz, hp, hpar, hg⟩ := HR.out
        refine ⟨_, _, T', by rw [hl], by rw [hl]; exact HN.out, refsOf_eq (by rw [hl]; exact HN.out) hp, .inr ⟨g, rfl, fun i hi => (hz i hi).at hbk⟩, fun c hc => (hpar c hc).1, HB.out⟩)
      go_wp2_with fail
      go_ret
      exact HE.out

set_option maxHeartbeats 2000000 in
theorem cloneTable_nil (tc : Nat) (w : World) :
    Calls Try.prog 10 #[.slice none 0 tc] w fun e w' => e = .returned (.slice none 0 0) ∧ Below w.heap.size w w' := by
  have q25 : ∀ (w : World) (a : Option Addr) (n c n' c' : Nat), (binOp .eql 25 (.slice a n c) (.slice none n' c')).run Try.prog w = .ok (.bool a.isNone) w := fun w a n c n' c' => Lib.run_eql_slice_nil w _ _ a n c n' c' Try.underlying25
  go_enter Try.func10, Try.ntmps10
  go_wp2
  go_ret
  exact ⟨rfl, Below.refl _ _⟩

theorem pn_le_refs {T : List Cm} {c : Cm} (h : c ∈ T) : c.pn ≤ refsOf T := by
  unfold refsOf
  induction T with
  | nil => simp at h
  | cons x r ih =>
    rcases List.mem_cons.1 h with rfl | h
    · simp
    · have := ih h
      simp only [List.map_cons, List.sum_cons]
      omega

theorem cloneTable_any (ta : Option Addr) (tc : Nat) (T : List Cm) (w : World) (hT : TabA w ta T) (hp : refsOf T ≤ 1000000) (hl : T.length ≤ 1000000) :
    Calls Try.prog 10 #[.slice ta T.length tc] w fun e w' => CTPost w T e w' := by
  obtain ⟨h1, h2, h3, h4⟩ := hT
  cases ta with
  | some pb => exact cloneTable_some pb tc T w h3 h4 (fun c hc => Nat.le_trans (pn_le_refs hc) hp) hl
  | none =>
    have h0 := h2 rfl
    subst h0
    refine (cloneTable_nil tc w).mono ?_
    rintro e w' ⟨rfl, hb⟩
    exact ⟨none, 0, [], rfl, rfl, rfl, .inl rfl, fun c hc => by simp at hc, hb⟩
end Go.Proofs.Qxb6605835a
