import Derived.Test.Qxb6605835aMeas
namespace Go.Proofs.Qxb6605835a
open Go.ChangeShapes Go.WideShapes Go.ChangeAt Go.RowKit
set_option linter.unusedVariables false

theorem store7' {w1 : World} {b : Nat} {c : Cm} (h : Blk w1 b 24 (zarr c)) (v0 v1 v2 v3 v4 v5 v6 : Value) : Blk (set7 w1 b 0 v0 v1 v2 v3 v4 v5 v6) b 24 #[v0, v1, v2, v3, v4, v5, v6] := by
  have h0 : Blk _ b 24 #[v0, .slice c.pa c.pn c.pc, .string c.com, .string c.msg, .int .i64 c.cr, .string c.mr, .int .i64 c.gen] := h.set 0 v0
  have h1 : Blk _ b 24 #[v0, v1, .string c.com, .string c.msg, .int .i64 c.cr, .string c.mr, .int .i64 c.gen] := h0.set 1 v1
  have h2 : Blk _ b 24 #[v0, v1, v2, .string c.msg, .int .i64 c.cr, .string c.mr, .int .i64 c.gen] := h1.set 2 v2
  have h3 : Blk _ b 24 #[v0, v1, v2, v3, .int .i64 c.cr, .string c.mr, .int .i64 c.gen] := h2.set 3 v3
  have h4 : Blk _ b 24 #[v0, v1, v2, v3, v4, .string c.mr, .int .i64 c.gen] := h3.set 4 v4
  have h5 : Blk _ b 24 #[v0, v1, v2, v3, v4, v5, .int .i64 c.gen] := h4.set 5 v5
  exact h5.set 6 v6

/-- A commit's block written anew. -/
theorem renew {w8 : World} {ba bb : Nat} {c d : Cm} (c' : Cm) (hA : Blk w8 ba 24 (zarr c)) (hB : Blk w8 bb 24 (zarr d)) (hne : ba ≠ bb) :
    Blk (set7 w8 ba 0 (.string c'.id) (.slice c'.pa c'.pn c'.pc) (.string c'.com) (.string c'.msg) (.int .i64 c'.cr) (.string c'.mr) (.int .i64 c'.gen)) ba 24 (zarr c') ∧ Blk (set7 w8 ba 0 (.string c'.id) (.slice c'.pa c'.pn c'.pc) (.string c'.com) (.string c'.msg) (.int .i64 c'.cr) (.string c'.mr) (.int .i64 c'.gen)) bb 24 (zarr d) ∧ Keeps w8 (set7 w8 ba 0 (.string c'.id) (.slice c'.pa c'.pn c'.pc) (.string c'.com) (.string c'.msg) (.int .i64 c'.cr) (.string c'.mr) (.int .i64 c'.gen)) (· = ba) := by
  have hk := keeps7 (Keeps.refl w8 (· = ba)) (b := ba) 0 (.inl rfl) (.string c'.id) (.slice c'.pa c'.pn c'.pc) (.string c'.com) (.string c'.msg) (.int .i64 c'.cr) (.string c'.mr) (.int .i64 c'.gen)
  exact ⟨store7' hA _ _ _ _ _ _ _, hB.kept hk (fun e => hne e.symm), hk⟩

/-- What the law's loop keeps. -/
def L3 (w0 wr : World) (sb : Nat) (ta : Option Addr) (tc : Nat) (T : List Cm) (l : List ByteArray) (wb mb : Nat) (st : Nat) : Prop :=
  ∃ qv cv K N Q C ung, WS wr (fun k => w0.heap.size ≤ k) wb mb (.func (.func 39) #[.pointer (some ⟨sb, 0, none⟩)] #[]) K N qv cv Q C ung ∧ Below w0.heap.size w0 wr ∧ LawN w0 T l K N C st ∧ meas K N l + st ≤ 3 * l.length

section
variable {w0 w w' : World} {sb wb mb tc st : Nat} {ta : Option Addr} {T : List Cm} {l : List ByteArray} {K : Nat → Cm} {N : List Nd} {qv cv : Value} {Q C : List Nat} {ung : Bool} {x : Nd}

theorem L3.step (hs : WS w (fun k => w0.heap.size ≤ k) wb mb (.func (.func 39) #[.pointer (some ⟨sb, 0, none⟩)] #[]) K N qv cv Q C ung) (hb : Below w0.heap.size w0 w) (hn : LawN w0 T l K N C st) (hm : meas K N l + st ≤ 3 * l.length) (hT : LawT w0 sb ta tc T l) (hx : x ∈ N) (hxq : x.q = true)
    (h : StepPost w0 w (fun k => w0.heap.size ≤ k) wb mb (.func (.func 39) #[.pointer (some ⟨sb, 0, none⟩)] #[]) K N C ung T x w') : L3 w0 w' sb ta tc T l wb mb (st + 1) := by
  obtain ⟨K', M, qv', cv', Q', ung', hs', hp', hk', hpm'⟩ := h
  refine ⟨qv', cv', K', _, Q', _, ung', hs', hb.trans (hk'.below hb.size (fun k hk => hk)), hn.step hT hx hp' hpm', ?_⟩
  have := meas_step hp' ⟨hs'.ms.nodup, hs'.ms.ids⟩ ⟨hs.ms.nodup, hs.ms.ids⟩ hx hxq hs.ms.p8 (hn.ids x hx)
  unfold stepN at this
  omega

theorem WS.top3 (hs : WS w (fun k => w0.heap.size ≤ k) wb mb (.func (.func 39) #[.pointer (some ⟨sb, 0, none⟩)] #[]) K N qv cv Q C ung) (hg : goesOn N C ung = true) : 0 < Q.length ∧ ∃ x ∈ N, x.b = nth Q 0 ∧ x.q = true := by
  have hl : 0 < Q.length := by
    rw [hs.qperm.length_eq]
    unfold goesOn at hg
    have := unmk_le N
    simp only [Bool.or_eq_true, Bool.and_eq_true, decide_eq_true_eq] at hg
    rcases hg with h | ⟨⟨_, h⟩, _⟩ <;> omega
  refine ⟨hl, ?_⟩
  obtain ⟨x, hx, e, hq⟩ := qd_mem.1 (hs.qperm.mem_iff.1 (nth_mem Q 0 hl))
  exact ⟨x, hx, e, hq⟩

theorem goes_end (hs : WS w (fun k => w0.heap.size ≤ k) wb mb (.func (.func 39) #[.pointer (some ⟨sb, 0, none⟩)] #[]) K N qv cv Q C ung) (hn : LawN w0 T l K N C st) (hm : meas K N l + st ≤ 3 * l.length) (h : 3 * l.length ≤ st) : goesOn N C ung = false := by
  have := meas_zero ⟨hs.ms.nodup, hs.ms.ids⟩ hn.ids (by omega)
  have h2 := unmk_le N
  unfold goesOn
  rw [this] at h2 ⊢
  have h3 : unmk N = 0 := by simpa using h2
  simp [h3]
end

section
variable {a b : Cm} {K : Nat → Cm} {N : List Nd} {ung : Bool} {l : List ByteArray}

theorem ix_iff (hl : l.Nodup) {id : ByteArray} (hin : id ∈ l) {i : Nat} (hi : i < l.length) : l[i] = id ↔ i = ix l id := by
  have hlt := ix_lt.2 hin
  have hg := ix_get hlt
  constructor
  · intro h
    exact (List.getElem_inj hl).1 (h.trans hg.symm)
  · intro h
    subst h
    exact hg

theorem nodeFor_one (n : Nd) (s : ByteArray) : nodeFor K [n] s = if (K n.b).id = s then some n else none := by
  unfold nodeFor
  by_cases h : (K n.b).id = s
  · simp [h]
  · rw [if_neg h]
    have : ((K n.b).id.toList == s.toList) = false := by
      rw [beq_eq_false_iff_ne]
      exact fun e => h (toList_inj e)
    simp [this]

theorem nodeFor_two (n m : Nd) (s : ByteArray) : nodeFor K [n, m] s = if (K n.b).id = s then some n else if (K m.b).id = s then some m else none := by
  unfold nodeFor
  by_cases h : (K n.b).id = s
  · simp [h]
  · rw [if_neg h]
    have h1 : ((K n.b).id.toList == s.toList) = false := by
      rw [beq_eq_false_iff_ne]
      exact fun e => h (toList_inj e)
    by_cases h' : (K m.b).id = s
    · rw [if_pos h', List.find?_cons, h1]
      simp [h']
    · rw [if_neg h']
      have h2 : ((K m.b).id.toList == s.toList) = false := by
        rw [beq_eq_false_iff_ne]
        exact fun e => h' (toList_inj e)
      simp [h1, h2]

/-- The snapshot at the start, by indices. -/
structure StartAt (a b : Cm) (K : Nat → Cm) (N : List Nd) (ung : Bool) (l : List ByteArray) (ia ib : Nat) : Prop where
  both : ia = ib → ∀ h : ia < l.length, ∃ n, nodeFor K N l[ia] = some ⟨n, 3, true⟩ ∧ K n = a
  onlyA : ia ≠ ib → ∀ h : ia < l.length, ∃ n, nodeFor K N l[ia] = some ⟨n, 1, true⟩ ∧ K n = a
  onlyB : ia ≠ ib → ∀ h : ib < l.length, ∃ n, nodeFor K N l[ib] = some ⟨n, 2, true⟩ ∧ K n = b
  none : ∀ i (h : i < l.length), i ≠ ia → i ≠ ib → nodeFor K N l[i] = none
  ung : ung = (decide (a.gen = 0) || (decide (ib ≠ ia) && decide (b.gen = 0)))

theorem StartN.at (h : StartN a b K N ung) (hl : l.Nodup) (ha : a.id ∈ l) (hb : b.id ∈ l) : StartAt a b K N ung l (ix l a.id) (ix l b.id) := by
  have hla := ix_lt.2 ha
  have hlb := ix_lt.2 hb
  have hga := ix_get hla
  have hgb := ix_get hlb
  rcases h with ⟨hid, n1, rfl, hk, hu⟩ | ⟨hid, n1, n2, rfl, hk1, hk2, hu⟩
  · have he : ix l a.id = ix l b.id := by rw [hid]
    refine ⟨fun _ h => ?_, fun h => absurd he h, fun h => absurd he h, fun i hi h1 h2 => ?_, ?_⟩
    · rw [nodeFor_one, hga]
      exact ⟨n1, by simp [hk], hk⟩
    · rw [nodeFor_one]
      rw [if_neg]
      intro e
      rw [hk] at e
      exact h1 ((ix_iff hl ha hi).1 e.symm)
    · rw [hu]; simp [he]
  · have hne : ix l a.id ≠ ix l b.id := fun e => hid (by
      have h1 := (ix_iff hl hb hla).2 e
      rw [hga] at h1
      exact h1)
    refine ⟨fun e => absurd e hne, fun _ h => ?_, fun _ h => ?_, fun i hi h1 h2 => ?_, ?_⟩
    · rw [nodeFor_two, hga]
      exact ⟨n1, by simp [hk1], hk1⟩
    · rw [nodeFor_two, hgb]
      refine ⟨n2, ?_, hk2⟩
      rw [if_neg (by rw [hk1]; exact hid), if_pos (by rw [hk2])]
    · rw [nodeFor_two, if_neg, if_neg]
      · intro e
        rw [hk2] at e
        exact h2 ((ix_iff hl hb hi).1 e.symm)
      · intro e
        rw [hk1] at e
        exact h1 ((ix_iff hl ha hi).1 e.symm)
    · rw [hu]; simp [Ne.symm hne]

theorem StartN.lack (h : StartN a b K N ung) : ∀ y ∈ N, lack y.p + y.q.toNat ≤ 3 := by
  rcases h with ⟨_, n1, rfl, _, _⟩ | ⟨_, n1, n2, rfl, _, _, _⟩
  · intro y hy
    simp at hy
    subst hy
    exact (by decide : lack 3 + 1 ≤ 3)
  · intro y hy
    simp at hy
    rcases hy with rfl | rfl
    · exact (by decide : lack 1 + 1 ≤ 3)
    · exact (by decide : lack 2 + 1 ≤ 3)

/-- The nodes' commits at the start. -/
theorem StartN.mem (h : StartN a b K N ung) : ∀ y ∈ N, K y.b = a ∨ K y.b = b := by
  rcases h with ⟨_, n1, rfl, hk, _⟩ | ⟨_, n1, n2, rfl, hk1, hk2, _⟩
  · intro y hy
    simp at hy
    subst hy
    exact .inl hk
  · intro y hy
    simp at hy
    rcases hy with rfl | rfl
    · exact .inl hk1
    · exact .inr hk2
end

/-- All that the law wants at the start. -/
theorem start_law {w0 w19 : World} {sb tc wb mb : Nat} {ta : Option Addr} {a b : Cm} {T : List Cm} {l : List ByteArray} {K : Nat → Cm} {N : List Nd} {ung : Bool} {qv : Value} {Q : List Nat} (hinv : KInv l ([a.id, b.id] ++ a.ps ++ b.ps ++ tabIds T)) (hsb : w0.cell? ⟨sb, 0, none⟩ = some (.slice ta T.length tc)) (htab : Tab w0 ta T) (hTl : T.length ≤ 256) (hpT : ∀ c ∈ T, Par w0 c) (hpa : Par w0 a) (hpb : Par w0 b) (hsum : a.pn + b.pn + refsOf T ≤ 256) (hll : l.length ≤ 1000)
    (hs : WS w19 (fun k => w0.heap.size ≤ k) wb mb (.func (.func 39) #[.pointer (some ⟨sb, 0, none⟩)] #[]) K N qv (.slice none 0 0) Q [] ung) (hb : Below w0.heap.size w0 w19) (hst : StartN a b K N ung) : LawT w0 sb ta tc T l ∧ L3 w0 w19 sb ta tc T l wb mb 0 ∧ ∀ y ∈ N, (K y.b).id ∈ l := by
  have hin : ∀ y ∈ N, Par w0 (K y.b) ∧ (K y.b).id ∈ l ∧ (∀ p ∈ (K y.b).ps, p ∈ l) ∧ (K y.b).ps.length ≤ 10000 := fun y hy => by
    rcases hst.mem y hy with e | e
    · rw [e]
      refine ⟨hpa, hinv.2.2 _ (by simp), fun p hp => hinv.2.2 _ (by simp [hp]), ?_⟩
      have := hpa.1
      omega
    · rw [e]
      refine ⟨hpb, hinv.2.2 _ (by simp), fun p hp => hinv.2.2 _ (by simp [hp]), ?_⟩
      have := hpb.1
      omega
  refine ⟨⟨⟨hsb, htab, by omega⟩, hpT, fun c hc p hp => hinv.2.2 _ ?_, fun c hc => ?_, hinv.1, by omega⟩, ⟨qv, _, K, N, Q, [], ung, hs, hb, ⟨fun y hy => (hin y hy).1, fun y hy => (hin y hy).2.1, fun y hy => (hin y hy).2.2.1, fun y hy => (hin y hy).2.2.2, fun b hb => by simp at hb, by simp⟩, ?_⟩, fun y hy => (hin y hy).2.1⟩
  · refine List.mem_append.2 (.inr ?_)
    unfold tabIds
    exact List.mem_flatMap.2 ⟨c, hc, by simp [hp]⟩
  · have h1 := (hpT c hc).1
    have h2 := pn_le_refs hc
    omega
  · exact meas_le hst.lack

end Go.Proofs.Qxb6605835a
