import Derived.Test.Qxb6605835aPaintC
namespace Go.Proofs.Qxb6605835a
open Go.ChangeShapes Go.WideShapes Go.ChangeAt Go.RowKit
set_option linter.unusedVariables false

/-- A commit's value (eight cells), and a ZCommit's (seven). -/
abbrev cval (c : Cm) : Value := .agg #[.string c.id, .slice c.pa c.pn c.pc, .string c.com, .string c.msg, .int .i64 c.cr, .map none, .string c.mr, .int .i64 c.gen]
abbrev zval (c : Cm) : Value := .agg #[.string c.id, .slice c.pa c.pn c.pc, .string c.com, .string c.msg, .int .i64 c.cr, .string c.mr, .int .i64 c.gen]

set_option maxHeartbeats 1000000 in
theorem toCommit_any (c : Cm) (w : World) :
    Calls Try.prog 12 #[zval c] w fun e w' => e = .returned (cval c) ∧ Below w.heap.size w w' := by
  go_enter Try.func12, Try.ntmps12
  go_wp2
  exact bodyPost_ret (v := cval c) (by simp [results, Try.results12, go_sem]) rfl ⟨rfl, ((Below.refl _ _).alloc (Nat.le_refl _) _).alloc (by simp) _⟩

/-- A ZCommit lies at offset o of block tb. -/
def ZAt (w : World) (tb o : Nat) (c : Cm) : Prop :=
  w.cell? ⟨tb, o, none⟩ = some (.string c.id) ∧ w.cell? ⟨tb, o + 1, none⟩ = some (.slice c.pa c.pn c.pc) ∧ w.cell? ⟨tb, o + 2, none⟩ = some (.string c.com) ∧ w.cell? ⟨tb, o + 3, none⟩ = some (.string c.msg) ∧ w.cell? ⟨tb, o + 4, none⟩ = some (.int .i64 c.cr) ∧ w.cell? ⟨tb, o + 5, none⟩ = some (.string c.mr) ∧ w.cell? ⟨tb, o + 6, none⟩ = some (.int .i64 c.gen)

theorem ZAt.below {w w' : World} {tb o : Nat} {c : Cm} (h : ZAt w tb o c) (hb : Below w.heap.size w w') : ZAt w' tb o c := by
  obtain ⟨h0, h1, h2, h3, h4, h5, h6⟩ := h
  exact ⟨cell_below hb h0, cell_below hb h1, cell_below hb h2, cell_below hb h3, cell_below hb h4, cell_below hb h5, cell_below hb h6⟩

/-- The table T lies as the slice value (ta, n): nil or empty, or at the head of a block. -/
def Tab (w : World) (ta : Option Addr) (T : List Cm) : Prop := T = [] ∨ ∃ tb, ta = some ⟨tb, 0, none⟩ ∧ ∀ i (h : i < T.length), ZAt w tb (i * 7) T[i]

theorem Tab.below {w w' : World} {ta : Option Addr} {T : List Cm} (h : Tab w ta T) (hb : Below w.heap.size w w') : Tab w' ta T := by
  rcases h with h | ⟨tb, e, h⟩
  · exact .inl h
  · exact .inr ⟨tb, e, fun i hi => (h i hi).below hb⟩

/-- A commit that no table knows. -/
def rootCm (id : ByteArray) : Cm := ⟨id, none, 0, 0, [], ⟨#[]⟩, ⟨#[]⟩, 0, ⟨#[]⟩, 0⟩

/-- The first entry with the ID, else a root with that ID. -/
def resolveC (T : List Cm) (id : ByteArray) : Cm := (T.find? (fun c => c.id.toList == id.toList)).getD (rootCm id)

/-- A result's block before it is written. -/
abbrev zeroC : Array Value := #[.string ⟨#[]⟩, .slice none 0 0, .string ⟨#[]⟩, .string ⟨#[]⟩, .int .i64 0, .map none, .string ⟨#[]⟩, .int .i64 0]

theorem cells8 {w : World} {b : Nat} {t : TypeId} {a0 a1 a2 a3 a4 a5 a6 a7 : Value} (h : Blk w b t #[a0, a1, a2, a3, a4, a5, a6, a7]) :
    (w.cell? ⟨b, 0, none⟩ = some a0 ∧ w.cell? ⟨b, 1, none⟩ = some a1 ∧ w.cell? ⟨b, 2, none⟩ = some a2 ∧ w.cell? ⟨b, 3, none⟩ = some a3 ∧ w.cell? ⟨b, 4, none⟩ = some a4 ∧ w.cell? ⟨b, 5, none⟩ = some a5 ∧ w.cell? ⟨b, 6, none⟩ = some a6 ∧ w.cell? ⟨b, 7, none⟩ = some a7) ∧
    (w.frozen? ⟨b, 0, none⟩ = false ∧ w.frozen? ⟨b, 1, none⟩ = false ∧ w.frozen? ⟨b, 2, none⟩ = false ∧ w.frozen? ⟨b, 3, none⟩ = false ∧ w.frozen? ⟨b, 4, none⟩ = false ∧ w.frozen? ⟨b, 5, none⟩ = false ∧ w.frozen? ⟨b, 6, none⟩ = false ∧ w.frozen? ⟨b, 7, none⟩ = false) :=
  ⟨⟨h.cell 0, h.cell 1, h.cell 2, h.cell 3, h.cell 4, h.cell 5, h.cell 6, h.cell 7⟩, ⟨h.free 0, h.free 1, h.free 2, h.free 3, h.free 4, h.free 5, h.free 6, h.free 7⟩⟩

theorem store8 {w1 : World} {b : Nat} (h : Blk w1 b 39 zeroC) (v0 v1 v2 v3 v4 v5 v6 v7 : Value) :
    Blk ((((((((w1.setCell ⟨b, 0, none⟩ v0).setCell ⟨b, 1, none⟩ v1).setCell ⟨b, 2, none⟩ v2).setCell ⟨b, 3, none⟩ v3).setCell ⟨b, 4, none⟩ v4).setCell ⟨b, 5, none⟩ v5).setCell ⟨b, 6, none⟩ v6).setCell ⟨b, 7, none⟩ v7) b 39 #[v0, v1, v2, v3, v4, v5, v6, v7] := by
  have h0 : Blk _ b 39 #[v0, .slice none 0 0, .string ⟨#[]⟩, .string ⟨#[]⟩, .int .i64 0, .map none, .string ⟨#[]⟩, .int .i64 0] := h.set 0 v0
  have h1 : Blk _ b 39 #[v0, v1, .string ⟨#[]⟩, .string ⟨#[]⟩, .int .i64 0, .map none, .string ⟨#[]⟩, .int .i64 0] := h0.set 1 v1
  have h2 : Blk _ b 39 #[v0, v1, v2, .string ⟨#[]⟩, .int .i64 0, .map none, .string ⟨#[]⟩, .int .i64 0] := h1.set 2 v2
  have h3 : Blk _ b 39 #[v0, v1, v2, v3, .int .i64 0, .map none, .string ⟨#[]⟩, .int .i64 0] := h2.set 3 v3
  have h4 : Blk _ b 39 #[v0, v1, v2, v3, v4, .map none, .string ⟨#[]⟩, .int .i64 0] := h3.set 4 v4
  have h5 : Blk _ b 39 #[v0, v1, v2, v3, v4, v5, .string ⟨#[]⟩, .int .i64 0] := h4.set 5 v5
  have h6 : Blk _ b 39 #[v0, v1, v2, v3, v4, v5, v6, .int .i64 0] := h5.set 6 v6
  have h7 : Blk _ b 39 #[v0, v1, v2, v3, v4, v5, v6, v7] := h6.set 7 v7
  exact h7

/-- A return of a struct that lies in block b. -/
theorem ret47 {Q : Ending → World → Prop} {W' : World} {b : Nat} {tm : Array Value} (c : Cm) (h4 : tm[4]?.getD undef = .pointer (some ⟨b, 0, none⟩))
    (hb : Blk W' b 39 #[.string c.id, .slice c.pa c.pn c.pc, .string c.com, .string c.msg, .int .i64 c.cr, .map none, .string c.mr, .int .i64 c.gen]) (hQ : Q (.returned (cval c)) W') :
    bodyPost Try.prog Try.f47 Q Exit.ret { tmps := tm, defers := [] } W' := by
  obtain ⟨⟨r0, r1, r2, r3, r4, r5, r6, r7⟩, -⟩ := cells8 hb
  exact bodyPost_ret (v := cval c) (by simp [results, Try.results47, go_sem, h4, r0, r1, r2, r3, r4, r5, r6, r7]) rfl hQ

set_option maxHeartbeats 2000000 in
theorem resolve_tab (tb cap : Nat) (id : ByteArray) (T : List Cm) (w : World) (hn : T.length ≤ 1048576) (hc : ∀ i (h : i < T.length), ZAt w tb (i * 7) T[i]) :
    Calls Try.prog 47 #[.slice (some ⟨tb, 0, none⟩) T.length cap, .string id] w fun e w' => e = .returned (cval (resolveC T id)) ∧ Below w.heap.size w w' := by
  have HC := hide hc
  clear hc
  have HZ : Hid (∀ i (h : i < T.length), ZAt (w.alloc (.cells zeroC 39)) tb (i * 7) T[i]) := hide fun i h => (HC.out i h).below ((Below.refl _ _).alloc (Nat.le_refl _) _)
  obtain ⟨n, hnT⟩ : ∃ n, n = T.length := ⟨_, rfl⟩
  rw [← hnT] at hn ⊢
  have HN := hide hnT
  clear hnT
  go_enter Try.func47, Try.ntmps47
  go_wp2
  go_loop [5] (fun i => ∃ k : Nat, k ≤ n ∧ i = .int .i64 k ∧ Hid (∀ j (h : j < T.length), j < k → (T[j].id.toList == id.toList) = false)) (fun i => n - (intOf i).toNat)
  case atStart => exact ⟨0, Nat.zero_le _, rfl, fun j _ h => by omega⟩
  case round =>
    obtain ⟨k, hk, rfl, HF⟩ := hrel
    by_cases hlt : k < n
    · have hkT : k < T.length := by have := HN.out; omega
      obtain ⟨z0, z1, z2, z3, z4, z5, z6⟩ := HZ.out k hkT
      have HR : Hid ((T[k].id.toList == id.toList) = true → resolveC T id = T[k]) := hide fun h => by
        unfold resolveC
        have : T.find? (fun c => c.id.toList == id.toList) = some T[k] := by
          rw [List.find?_eq_some_iff_getElem]
          exact ⟨h, k, hkT, rfl, fun j hj => by rw [HF.out j (by omega) hj]; rfl⟩
        rw [this]
        rfl
      have HF' : Hid ((T[k].id.toList == id.toList) = false → ∀ j (h : j < T.length), j < k + 1 → (T[j].id.toList == id.toList) = false) := hide fun h j hj hjk => by
        by_cases e : j = k
        · subst e; exact h
        · exact HF.out j hj (by omega)
      generalize T[k] = c at *
      cases hb : (c.id.toList == id.toList) with
      | true =>
        have HRR := hide (HR.out hb)
        go_wp2_with fail
        refine (toCommit_any c _).mono ?_
        rintro e w1 ⟨rfl, hb1⟩
        have hblk : Blk w1 w.heap.size 39 zeroC := (Blk.new w 39 zeroC).below hb1 (by simp)
        obtain ⟨⟨r0, r1, r2, r3, r4, r5, r6, r7⟩, ⟨f0, f1, f2, f3, f4, f5, f6, f7⟩⟩ := cells8 hblk
        have HB1 : Hid (Below w.heap.size w w1) := after ((Below.refl _ _).alloc (Nat.le_refl _) _) hb1
        have HBK := hide hblk
        clear hblk hb1
        go_wp2_with fail
        rw [HRR.out]
        refine ret47 c rfl (store8 HBK.out _ _ _ _ _ _ _ _) ⟨rfl, ?_⟩
        exact (((((((HB1.out.setCell (Nat.le_refl _) _).setCell (Nat.le_refl _) _).setCell (Nat.le_refl _) _).setCell (Nat.le_refl _) _).setCell (Nat.le_refl _) _).setCell (Nat.le_refl _) _).setCell (Nat.le_refl _) _).setCell (Nat.le_refl _) _
      | false =>
        have HFF := hide (HF'.out hb)
        go_wp2_with fail
        go_round
        case rel => exact ⟨k + 1, by omega, by go_num, HFF.out⟩
        case measure => simp [intOf]; omega
    · have HRR : Hid (resolveC T id = rootCm id) := hide (by
        unfold resolveC
        have : T.find? (fun c => c.id.toList == id.toList) = none := by
          rw [List.find?_eq_none]
          intro c hc
          obtain ⟨j, hj, rfl⟩ := List.mem_iff_getElem.1 hc
          rw [HF.out j hj (by have := HN.out; omega)]
          decide
        rw [this]
        rfl)
      go_wp2_with fail
      rw [HRR.out]
      exact ret47 (rootCm id) rfl (Blk.new w 39 _) ⟨rfl, (Below.refl _ _).alloc (Nat.le_refl _) _⟩

set_option maxHeartbeats 1000000 in
theorem resolve_nil (ta : Option Addr) (cap : Nat) (id : ByteArray) (w : World) :
    Calls Try.prog 47 #[.slice ta 0 cap, .string id] w fun e w' => e = .returned (cval (resolveC [] id)) ∧ Below w.heap.size w w' := by
  have HRR : Hid (resolveC [] id = rootCm id) := rfl
  go_enter Try.func47, Try.ntmps47
  go_wp2
  refine wp_loop_rounds 1 ?_
  rw [rounds_succ]
  go_wp2
  rw [HRR.out]
  exact ret47 (rootCm id) rfl (Blk.new w 39 _) ⟨rfl, (Below.refl _ _).alloc (Nat.le_refl _) _⟩

theorem resolve_any (ta : Option Addr) (n cap : Nat) (id : ByteArray) (T : List Cm) (w : World) (hn : n = T.length) (hl : T.length ≤ 1048576) (hc : Tab w ta T) :
    Calls Try.prog 47 #[.slice ta n cap, .string id] w fun e w' => e = .returned (cval (resolveC T id)) ∧ Below w.heap.size w w' := by
  subst hn
  rcases hc with rfl | ⟨tb, rfl, hc⟩
  · exact resolve_nil ta cap id w
  · exact resolve_tab tb cap id T w hl hc
end Go.Proofs.Qxb6605835a
