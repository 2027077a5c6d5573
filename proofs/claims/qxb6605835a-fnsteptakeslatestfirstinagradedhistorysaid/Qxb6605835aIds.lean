import Derived.Test.Qxb6605835aBytes
namespace Go.Proofs.Qxb6605835a
open Go.ChangeShapes Go.WideShapes Go.ChangeAt Go.RowKit
set_option linter.unusedVariables false

/-- The slice value v owns a row of the strings l. -/
def OwnS (w : World) (B : Nat) (v : Value) (l : List ByteArray) : Prop := w.ownsRow B 9 1 v l.length (l.map fun s => Value.string s)

theorem OwnS.nil (w : World) (B : Nat) : OwnS w B (.slice none 0 0) [] := World.ownsRow_nil w B 9 1

theorem OwnS.below {w w' : World} {B : Nat} {v : Value} {l : List ByteArray} (h : OwnS w B v l) (hb : Below w.heap.size w w') : OwnS w' B v l := by
  refine ⟨h.1, ?_⟩
  rcases h.2 with hv | ⟨g, cap, cur, hv, hB, hh, hr⟩
  · exact .inl hv
  · refine .inr ⟨g, cap, cur, hv, hB, ?_, hr⟩
    exact Blk.below (t := 9) hh hb (Blk.lt (t := 9) hh)

theorem OwnS.kept {w w' : World} {B : Nat} {v : Value} {l : List ByteArray} {S : Nat → Prop} (h : OwnS w B v l) (hk : Keeps w w' S) (hs : ∀ g, v.ownBlock = some g → ¬ S g) : OwnS w' B v l := by
  refine ⟨h.1, ?_⟩
  rcases h.2 with hv | ⟨g, cap, cur, hv, hb, hh, hr⟩
  · exact .inl hv
  · refine .inr ⟨g, cap, cur, hv, hb, ?_, hr⟩
    exact Blk.kept (t := 9) hh hk (hs g (by rw [hv]; rfl))

theorem OwnS.form {w : World} {B : Nat} {v : Value} {l : List ByteArray} (h : OwnS w B v l) : (v = .slice none 0 0 ∧ l = []) ∨ ∃ g cap, v = .slice (some ⟨g, 0, none⟩) l.length cap ∧ B ≤ g ∧ ∀ i (hi : i < l.length), w.cell? ⟨g, i, none⟩ = some (.string l[i]) := by
  rcases h.2 with ⟨hv, h0⟩ | ⟨g, cap, cur, hv, hb, hh, hn, hm, hs, ht⟩
  · exact .inl ⟨hv, List.eq_nil_of_length_eq_zero h0⟩
  · refine .inr ⟨g, cap, hv, hb, fun i hi => ?_⟩
    have hc := Blk.cell (w := w) (t := 9) hh i
    rw [hc]
    have h1 : (cur.toList.take (l.length * 1))[i]? = some (.string l[i]) := by
      rw [ht, List.getElem?_map, List.getElem?_eq_getElem hi]; rfl
    rw [List.getElem?_take_of_lt (by omega)] at h1
    simpa using h1

/-- Where the ID lies. -/
def ix (l : List ByteArray) (id : ByteArray) : Nat := l.findIdx (fun s => s.toList == id.toList)
def ixZ (l : List ByteArray) (id : ByteArray) : Int := if ix l id < l.length then (ix l id : Int) else -1

theorem ix_lt {l : List ByteArray} {id : ByteArray} : ix l id < l.length ↔ id ∈ l := by
  unfold ix
  rw [List.findIdx_lt_length]
  constructor
  · rintro ⟨s, hs, h⟩
    rw [beq_iff_eq] at h
    exact toList_inj h ▸ hs
  · intro h
    exact ⟨id, h, by simp⟩

theorem ix_get {l : List ByteArray} {id : ByteArray} (h : ix l id < l.length) : l[ix l id] = id := by
  have := List.findIdx_getElem (xs := l) (p := fun s : ByteArray => s.toList == id.toList) (w := h)
  rw [beq_iff_eq] at this
  exact toList_inj this

theorem ix_eq {l : List ByteArray} {id : ByteArray} {k : Nat} (hk : k < l.length) (h : l[k].toList = id.toList) (hn : ∀ j (hj : j < l.length), j < k → l[j].toList ≠ id.toList) : ix l id = k := by
  unfold ix
  rw [List.findIdx_eq hk]
  exact ⟨by rw [beq_iff_eq]; exact h, fun j hj => by rw [beq_eq_false_iff_ne]; exact hn j (by omega) hj⟩

set_option maxHeartbeats 2000000 in
theorem index_some (g cap : Nat) (l : List ByteArray) (id : ByteArray) (w : World) (hc : ∀ i (hi : i < l.length), w.cell? ⟨g, i, none⟩ = some (.string l[i])) (hl : l.length ≤ 1000000) :
    Calls Try.prog 14 #[.slice (some ⟨g, 0, none⟩) l.length cap, .string id] w fun e w' => e = .returned (.int .i64 (ixZ l id)) ∧ w = w' := by
  have HC := hide hc
  clear hc
  obtain ⟨n, hn⟩ : ∃ n, n = l.length := ⟨_, rfl⟩
  rw [← hn] at hl ⊢
  have HN := hide hn
  clear hn
  go_enter Try.func14, Try.ntmps14
  go_wp2
  go_loop [5] (fun i => ∃ k : Nat, k ≤ n ∧ i = .int .i64 k ∧ Hid (∀ j (hj : j < l.length), j < k → l[j].toList ≠ id.toList)) (fun i => n - (intOf i).toNat)
  case atStart => exact ⟨0, Nat.zero_le _, rfl, fun j _ h => by omega⟩
  case round =>
    obtain ⟨k, hk, rfl, HF⟩ := hrel
    by_cases hlt : k < n
    · have hkl : k < l.length := by have := HN.out; omega
      have r := HC.out k hkl
      have HR : Hid (l[k].toList = id.toList → ixZ l id = k) := hide fun h => by
        have := ix_eq hkl h HF.out
        unfold ixZ
        rw [this, if_pos hkl]
      have HF' : Hid (l[k].toList ≠ id.toList → ∀ j (hj : j < l.length), j < k + 1 → l[j].toList ≠ id.toList) := hide fun h j hj hjk => by
        by_cases e : j = k
        · subst e; exact h
        · exact HF.out j hj (by omega)
      generalize l[k] = s at *
      cases hb : (s.toList == id.toList) with
      | true =>
        have HRR := hide (HR.out (by rw [beq_iff_eq] at hb; exact hb))
        go_wp2
        go_ret
        exact ⟨ret_int HRR.out.symm, rfl⟩
      | false =>
        have HFF := hide (HF'.out (by rw [beq_eq_false_iff_ne] at hb; exact hb))
        go_wp2
        go_round
        case rel => exact ⟨k + 1, by omega, by go_num, HFF.out⟩
        case measure => simp [intOf]; omega
    · have HR : Hid (ixZ l id = -1) := hide (by
        unfold ixZ
        rw [if_neg]
        rw [ix_lt]
        intro hm
        obtain ⟨j, hj, e⟩ := List.mem_iff_getElem.1 hm
        exact HF.out j hj (by have := HN.out; omega) (by rw [e]))
      go_wp2
      go_ret
      exact ⟨ret_int HR.out.symm, rfl⟩

set_option maxHeartbeats 1000000 in
theorem index_nil (cap : Nat) (id : ByteArray) (w : World) :
    Calls Try.prog 14 #[.slice none 0 cap, .string id] w fun e w' => e = .returned (.int .i64 (ixZ [] id)) ∧ w = w' := by
  have HR : Hid (ixZ [] id = -1) := rfl
  go_enter Try.func14, Try.ntmps14
  go_wp2
  refine wp_loop_rounds 1 ?_
  rw [rounds_succ]
  go_wp2
  go_ret
  exact ⟨ret_int HR.out.symm, rfl⟩

theorem index_any {w : World} {B : Nat} {v : Value} {l : List ByteArray} (h : OwnS w B v l) (id : ByteArray) (hl : l.length ≤ 1000000) :
    Calls Try.prog 14 #[v, .string id] w fun e w' => e = .returned (.int .i64 (ixZ l id)) ∧ w = w' := by
  rcases h.form with ⟨rfl, rfl⟩ | ⟨g, cap, rfl, _, hc⟩
  · exact index_nil 0 id w
  · exact index_some g cap l id w hc hl

/-- An ID added where it is new. -/
def addI (l : List ByteArray) (id : ByteArray) : List ByteArray := if ix l id < l.length then l else l ++ [id]

/-- The IDs M are known, each once. -/
def KInv (l M : List ByteArray) : Prop := l.Nodup ∧ l.length ≤ M.length ∧ ∀ x ∈ M, x ∈ l

theorem KInv.add {l M : List ByteArray} (h : KInv l M) (id : ByteArray) : KInv (addI l id) (M ++ [id]) := by
  obtain ⟨h1, h2, h3⟩ := h
  unfold addI
  split
  · next hi =>
    refine ⟨h1, by simp; omega, fun x hx => ?_⟩
    rcases List.mem_append.1 hx with hx | hx
    · exact h3 x hx
    · simp at hx
      subst hx
      exact ix_lt.1 hi
  · next hi =>
    rw [ix_lt] at hi
    refine ⟨?_, by simp; omega, fun x hx => ?_⟩
    · rw [List.nodup_append]
      refine ⟨h1, by simp, fun a ha b hb e => ?_⟩
      simp at hb
      subst hb
      exact hi (e ▸ ha)
    · rcases List.mem_append.1 hx with hx | hx
      · exact List.mem_append.2 (.inl (h3 x hx))
      · exact List.mem_append.2 (.inr hx)

set_option maxHeartbeats 2000000 in
set_option maxRecDepth 8000 in
theorem addID_any {w : World} {B : Nat} {v : Value} {l : List ByteArray} (h : OwnS w B v l) (hB : B ≤ w.heap.size) (id : ByteArray) (hl : l.length ≤ 999999) :
    Calls Try.prog 37 #[v, .string id] w fun e w' => ∃ v', e = .returned v' ∧ OwnS w' B v' (addI l id) ∧ Below B w w' := by
  have HIX := hide (index_any h id (by omega))
  have HO := hide h
  have HOA := hide (h.below (w' := w.alloc (.cells #[.string id] 9)) ((Below.refl _ _).alloc (Nat.le_refl _) _))
  obtain ⟨i0, hi, hz0, hz1, hz2⟩ := info_parts info9
  have HI := hide (And.intro hi (And.intro hz0 (And.intro hz1 hz2)))
  have HVB : Hid (∀ k, v.ownBlock = some k → B ≤ k) := hide fun k hk => by
    rcases h.form with ⟨rfl, rfl⟩ | ⟨g, cap, rfl, hg, _⟩
    · simp [Value.ownBlock] at hk
    · simp [Value.ownBlock] at hk
      omega
  clear hi hz0 hz1 hz2 h
  by_cases hin : ix l id < l.length
  · have hz : ixZ l id = (ix l id : Int) := by unfold ixZ; rw [if_pos hin]
    have HA : Hid (addI l id = l) := hide (by unfold addI; rw [if_pos hin])
    rw [hz] at HIX
    generalize ix l id = i at *
    clear hz
    go_enter Try.func37, Try.ntmps37
    go_wp2_with fail
    refine HIX.out.mono ?_
    rintro e w1 ⟨rfl, rfl⟩
    go_wp2_with fail
    go_ret
    exact ⟨v, rfl, by rw [HA.out]; exact HO.out, Below.refl _ _⟩
  · have hz : ixZ l id = -1 := by unfold ixZ; rw [if_neg hin]
    have HA : Hid (addI l id = l ++ [id]) := hide (by unfold addI; rw [if_neg hin])
    rw [hz] at HIX
    clear hz hin
    go_enter Try.func37, Try.ntmps37
    go_wp2_with fail
    refine HIX.out.mono ?_
    rintro e w1 ⟨rfl, rfl⟩
    go_wp2_with ((at_builtin; refine wpList_append_lies _ rfl _ _ 22 rfl B 9 i0 (.string ⟨#[]⟩) 1 16 Try.underlying22 HI.out.1 HI.out.2.1 HI.out.2.2.1 HI.out.2.2.2 rfl (by decide) v l.length (l.map fun s => Value.string s) rfl HOA.out ⟨w.heap.size, 0, none⟩ 1 1 [.string id] rfl rfl (World.news_of_block (Blk.new w 9 #[.string id])) (by simp [Value.oneCell']) (by decide) (by unfold maxLen; omega) (by omega) (by simp only [World.size_alloc]; omega) (w.heap.size + 1) (by simp only [World.size_alloc]) ?_; intro g4 cap4 w4 hown hgrow hat hlt; have HAPP := hide (And.intro hown (And.intro hgrow hat)); clear hown hgrow hat hlt))
    go_ret
    refine ⟨_, rfl, ?_, ?_⟩
    · rw [HA.out]
      unfold OwnS
      rw [List.map_append, List.length_append]
      exact HAPP.out.1
    · have hk : Keeps w w4 (fun k => v.ownBlock = some k) := ((Keeps.refl w _).alloc _).trans (Keeps.of_grown HAPP.out.2.1)
      exact hk.below hB HVB.out
end Go.Proofs.Qxb6605835a
