import Derived.Test.Qxb6605835aRes
namespace Go.Proofs.Qxb6605835a
open Go.ChangeShapes Go.WideShapes Go.ChangeAt Go.RowKit
set_option linter.unusedVariables false

/-- The store's block: one cell, the table. -/
def Store (w : World) (sb : Nat) (ta : Option Addr) (tc : Nat) (T : List Cm) : Prop := w.cell? ⟨sb, 0, none⟩ = some (.slice ta T.length tc) ∧ Tab w ta T ∧ T.length ≤ 1048576

theorem Store.below {w w' : World} {sb : Nat} {ta : Option Addr} {tc : Nat} {T : List Cm} (h : Store w sb ta tc T) (hb : Below w.heap.size w w') : Store w' sb ta tc T := ⟨cell_below hb h.1, h.2.1.below hb, h.2.2⟩

/-- A return of a struct that lies in block b, and of no error. -/
theorem ret39 {Q : Ending → World → Prop} {W' : World} {b : Nat} {tm : Array Value} (c : Cm) (h4 : tm[4]?.getD undef = .pointer (some ⟨b, 0, none⟩)) (h5 : tm[5]?.getD undef = .nilIface)
    (hb : Blk W' b 39 #[.string c.id, .slice c.pa c.pn c.pc, .string c.com, .string c.msg, .int .i64 c.cr, .map none, .string c.mr, .int .i64 c.gen]) (hQ : Q (.returned (.tuple #[cval c, .nilIface])) W') :
    bodyPost Try.prog Try.f39 Q Exit.ret { tmps := tm, defers := [] } W' := by
  obtain ⟨⟨r0, r1, r2, r3, r4, r5, r6, r7⟩, -⟩ := cells8 hb
  exact bodyPost_ret (v := .tuple #[cval c, .nilIface]) (by simp [results, Try.results39, go_sem, h4, h5, r0, r1, r2, r3, r4, r5, r6, r7]) rfl hQ

set_option maxHeartbeats 1000000 in
theorem lookup_any (sb tc : Nat) (ta : Option Addr) (T : List Cm) (id : ByteArray) (w : World) (hs : Store w sb ta tc T) :
    Calls Try.prog 39 #[.pointer (some ⟨sb, 0, none⟩), .string id] w fun e w' => e = .returned (.tuple #[cval (resolveC T id), .nilIface]) ∧ Below w.heap.size w w' := by
  obtain ⟨h0, hT, hl⟩ := hs
  have hc : (w.alloc (.cells zeroC 39)).cell? ⟨sb, 0, none⟩ = some (.slice ta T.length tc) := cell_below ((Below.refl _ _).alloc (Nat.le_refl _) _) h0
  have HT : Hid (Tab (w.alloc (.cells zeroC 39)) ta T) := hT.below ((Below.refl _ _).alloc (Nat.le_refl _) _)
  obtain ⟨n, hn⟩ : ∃ n, n = T.length := ⟨_, rfl⟩
  rw [← hn] at hc
  have HN := hide hn
  have HL := hide hl
  clear hT h0 hn hl
  go_enter Try.func39, Try.ntmps39
  go_wp2_with fail
  refine (resolve_any ta n tc id T _ HN.out HL.out HT.out).mono ?_
  rintro e w1 ⟨rfl, hb1⟩
  have hblk : Blk w1 w.heap.size 39 zeroC := (Blk.new w 39 zeroC).below hb1 (by simp)
  obtain ⟨⟨r0, r1, r2, r3, r4, r5, r6, r7⟩, ⟨f0, f1, f2, f3, f4, f5, f6, f7⟩⟩ := cells8 hblk
  have HB1 : Hid (Below w.heap.size w w1) := after ((Below.refl _ _).alloc (Nat.le_refl _) _) hb1
  have HBK := hide hblk
  clear hblk hb1
  go_wp2_with fail
  refine ret39 (resolveC T id) rfl rfl (store8 HBK.out _ _ _ _ _ _ _ _) ⟨rfl, ?_⟩
  exact (((((((HB1.out.setCell (Nat.le_refl _) _).setCell (Nat.le_refl _) _).setCell (Nat.le_refl _) _).setCell (Nat.le_refl _) _).setCell (Nat.le_refl _) _).setCell (Nat.le_refl _) _).setCell (Nat.le_refl _) _).setCell (Nat.le_refl _) _

/-! ### What a step does to the nodes, plainly -/
/-- The ID is among the list. -/
def hasId (l : List ByteArray) (id : ByteArray) : Bool := l.any (fun s => s.toList == id.toList)

theorem toList_inj {a b : ByteArray} (h : a.toList = b.toList) : a = b := by
  rw [ByteArray.toList_eq, ByteArray.toList_eq] at h
  exact bytes_inj h

theorem hasId_iff {l : List ByteArray} {id : ByteArray} : hasId l id = true ↔ id ∈ l := by
  unfold hasId
  rw [List.any_eq_true]
  constructor
  · rintro ⟨s, hs, h⟩
    rw [beq_iff_eq] at h
    exact toList_inj h ▸ hs
  · intro h
    exact ⟨id, h, by simp⟩

theorem hasId_false {l : List ByteArray} {id : ByteArray} : hasId l id = false ↔ id ∉ l := by
  rw [← hasId_iff]; simp

theorem resolve_id (T : List Cm) (id : ByteArray) : (resolveC T id).id = id := by
  unfold resolveC
  cases h : T.find? (fun c => c.id.toList == id.toList) with
  | none => rfl
  | some c =>
    have := List.find?_some h
    rw [beq_iff_eq] at this
    exact toList_inj this

theorem paint_twice (pt : Nat) (x : Nd) : paintNd pt (paintNd pt x) = paintNd pt x := by
  unfold paintNd
  by_cases h : x.p ||| pt = x.p
  · rw [if_pos h, if_pos h]
  · rw [if_neg h]
    have : x.p ||| pt ||| pt = x.p ||| pt := by rw [Nat.or_assoc, Nat.or_self]
    rw [if_pos this]

/-- The nodes behind the parents l: those that were there, painted where they are parents; and the new ones. -/
def parN (K0 : Nat → Cm) (pt : Nat) (l : List ByteArray) (N0 M : List Nd) : List Nd := N0.map (fun y => if hasId l (K0 y.b).id then paintNd pt y else y) ++ M.map (paintNd pt)

/-- What the loop over the parents keeps. -/
structure PInv (T : List Cm) (pt : Nat) (K0 : Nat → Cm) (N0 : List Nd) (ung0 : Bool) (l : List ByteArray) (K : Nat → Cm) (M : List Nd) (ung : Bool) : Prop where
  keep : ∀ y ∈ N0, K y.b = K0 y.b
  fresh : ∀ z ∈ M, z.p = 0 ∧ z.q = false ∧ hasId l (K z.b).id = true ∧ K z.b = resolveC T (K z.b).id ∧ ∀ y ∈ N0, (K0 y.b).id ≠ (K z.b).id
  all : ∀ id, hasId l id = true → (∃ y ∈ N0, (K0 y.b).id = id) ∨ ∃ z ∈ M, (K z.b).id = id
  ung : ung = (ung0 || M.any (fun z => decide ((K z.b).gen = 0)))

theorem PInv.start (T : List Cm) (pt : Nat) (K0 : Nat → Cm) (N0 : List Nd) (ung0 : Bool) : PInv T pt K0 N0 ung0 [] K0 [] ung0 ∧ parN K0 pt [] N0 [] = N0 := by
  refine ⟨⟨fun _ _ => rfl, fun _ h => by simp at h, fun _ h => by simp [hasId] at h, by simp⟩, ?_⟩
  simp [parN, hasId]

theorem hasId_snoc (l : List ByteArray) (id s : ByteArray) : hasId (l ++ [id]) s = (hasId l s || (id.toList == s.toList)) := by simp [hasId]

theorem parN_b (K0 : Nat → Cm) (pt : Nat) (l : List ByteArray) (N0 M : List Nd) : (parN K0 pt l N0 M).map (·.b) = N0.map (·.b) ++ M.map (·.b) := by
  unfold parN
  rw [List.map_append, List.map_map, List.map_map]
  congr 1
  · apply List.map_congr_left
    intro y _
    simp only [Function.comp]
    split
    · exact paintNd_b pt y
    · rfl
  · apply List.map_congr_left
    intro y _
    exact paintNd_b pt y

/-- A parent that is a node already: it is painted. -/
theorem PInv.hit {T : List Cm} {pt : Nat} {K0 K : Nat → Cm} {N0 M : List Nd} {ung0 ung : Bool} {l : List ByteArray} (h : PInv T pt K0 N0 ung0 l K M ung) (id : ByteArray) (hn : ((parN K0 pt l N0 M).map (·.b)).Nodup)
    (hids : ∀ x ∈ parN K0 pt l N0 M, ∀ y ∈ parN K0 pt l N0 M, (K x.b).id = (K y.b).id → x.b = y.b) {x : Nd} (hx : x ∈ parN K0 pt l N0 M) (hid : (K x.b).id = id) :
    PInv T pt K0 N0 ung0 (l ++ [id]) K M ung ∧ setNd (parN K0 pt l N0 M) x.b (paintNd pt) = parN K0 pt (l ++ [id]) N0 M := by
  have hn' := hn
  rw [parN_b] at hn'
  have memN : ∀ y ∈ N0, (if hasId l (K0 y.b).id then paintNd pt y else y) ∈ parN K0 pt l N0 M := fun y hy => List.mem_append.2 (.inl (List.mem_map.2 ⟨y, hy, rfl⟩))
  have memM : ∀ z ∈ M, paintNd pt z ∈ parN K0 pt l N0 M := fun z hz => List.mem_append.2 (.inr (List.mem_map.2 ⟨z, hz, rfl⟩))
  have eqb : ∀ (P : Bool) (y : Nd), (if P then paintNd pt y else y).b = y.b := fun P y => by cases P <;> simp [paintNd_b]
  have iffN : ∀ y ∈ N0, (id.toList == (K0 y.b).id.toList) = true ↔ y.b = x.b := fun y hy => by
    rw [beq_iff_eq]
    constructor
    · intro e
      have := hids _ (memN y hy) x hx (by rw [eqb, h.keep y hy, hid]; exact (toList_inj e).symm)
      rwa [eqb] at this
    · intro e
      have : (K y.b).id = id := by rw [e]; exact hid
      rw [h.keep y hy] at this
      rw [this]
  refine ⟨⟨h.keep, fun z hz => ?_, fun s hs => ?_, h.ung⟩, ?_⟩
  · obtain ⟨a, b, c, d, e⟩ := h.fresh z hz
    exact ⟨a, b, by rw [hasId_snoc, c]; rfl, d, e⟩
  · rw [hasId_snoc, Bool.or_eq_true, beq_iff_eq] at hs
    rcases hs with hs | hs
    · exact h.all s hs
    · have e : id = s := toList_inj hs
      subst e
      rcases List.mem_append.1 hx with hx | hx
      · obtain ⟨y, hy, rfl⟩ := List.mem_map.1 hx
        rw [eqb, h.keep y hy] at hid
        exact .inl ⟨y, hy, hid⟩
      · obtain ⟨z, hz, rfl⟩ := List.mem_map.1 hx
        rw [paintNd_b] at hid
        exact .inr ⟨z, hz, hid⟩
  · unfold setNd parN
    rw [List.map_append, List.map_map, List.map_map]
    congr 1
    · apply List.map_congr_left
      intro y hy
      simp only [Function.comp, eqb]
      rw [hasId_snoc]
      by_cases e : y.b = x.b
      · rw [if_pos e, (iffN y hy).2 e]
        cases hasId l (K0 y.b).id
        · simp
        · simp [paint_twice]
      · have hf : (id.toList == (K0 y.b).id.toList) = false := by
          cases hh : (id.toList == (K0 y.b).id.toList)
          · rfl
          · exact absurd ((iffN y hy).1 hh) e
        rw [if_neg e, hf, Bool.or_false]
    · apply List.map_congr_left
      intro z hz
      simp only [Function.comp, paintNd_b]
      split
      · exact paint_twice pt z
      · rfl

theorem any_mem {α : Type} {f g : α → Bool} : ∀ {l : List α}, (∀ z ∈ l, f z = g z) → l.any f = l.any g
  | [], _ => rfl
  | a :: l, h => by
    rw [List.any_cons, List.any_cons, h a (by simp), any_mem (fun z hz => h z (by simp [hz]))]

/-- A parent that is no node yet: it is made and painted. -/
theorem PInv.miss {T : List Cm} {pt : Nat} {K0 K : Nat → Cm} {N0 M : List Nd} {ung0 ung : Bool} {l : List ByteArray} (h : PInv T pt K0 N0 ung0 l K M ung) (id : ByteArray) (nb : Nat) (hnb : nb ∉ (parN K0 pt l N0 M).map (·.b))
    (hno : ∀ x ∈ parN K0 pt l N0 M, (K x.b).id ≠ id) :
    PInv T pt K0 N0 ung0 (l ++ [id]) (upd K nb (resolveC T id)) (M ++ [⟨nb, 0, false⟩]) (ung || decide ((resolveC T id).gen = 0)) ∧
      setNd (parN K0 pt l N0 M ++ [⟨nb, 0, false⟩]) nb (paintNd pt) = parN K0 pt (l ++ [id]) N0 (M ++ [⟨nb, 0, false⟩]) := by
  have hnb' := hnb
  rw [parN_b, List.mem_append] at hnb'
  have eqb : ∀ (P : Bool) (y : Nd), (if P then paintNd pt y else y).b = y.b := fun P y => by cases P <;> simp [paintNd_b]
  have hN : ∀ y ∈ N0, y.b ≠ nb := fun y hy e => hnb' (.inl (e ▸ List.mem_map.2 ⟨y, hy, rfl⟩))
  have hM : ∀ y ∈ M, y.b ≠ nb := fun y hy e => hnb' (.inr (e ▸ List.mem_map.2 ⟨y, hy, rfl⟩))
  have uo : ∀ k, k ≠ nb → upd K nb (resolveC T id) k = K k := fun k hk => by unfold upd; rw [if_neg hk]
  have un : upd K nb (resolveC T id) nb = resolveC T id := by unfold upd; rw [if_pos rfl]
  have noN : ∀ y ∈ N0, (K0 y.b).id ≠ id := fun y hy => by
    have := hno _ (List.mem_append.2 (.inl (List.mem_map.2 ⟨y, hy, rfl⟩)))
    rw [eqb, h.keep y hy] at this
    exact this
  refine ⟨⟨fun y hy => by rw [uo _ (hN y hy), h.keep y hy], fun z hz => ?_, fun s hs => ?_, ?_⟩, ?_⟩
  · rcases List.mem_append.1 hz with hz | hz
    · obtain ⟨a, b, c, d, e⟩ := h.fresh z hz
      rw [uo _ (hM z hz)]
      exact ⟨a, b, by rw [hasId_snoc, c]; rfl, d, e⟩
    · simp at hz
      subst hz
      simp only [un]
      refine ⟨trivial, trivial, ?_, ?_, fun y hy => ?_⟩
      · rw [resolve_id, hasId_snoc]; simp
      · rw [resolve_id]
      · rw [resolve_id]; exact noN y hy
  · rw [hasId_snoc, Bool.or_eq_true, beq_iff_eq] at hs
    rcases hs with hs | hs
    · rcases h.all s hs with h' | ⟨z, hz, e⟩
      · exact .inl h'
      · exact .inr ⟨z, List.mem_append.2 (.inl hz), by rw [uo _ (hM z hz)]; exact e⟩
    · exact .inr ⟨⟨nb, 0, false⟩, by simp, by simp only [un]; rw [resolve_id]; exact toList_inj hs⟩
  · rw [h.ung, List.any_append, Bool.or_assoc]
    congr 2
    · exact any_mem (fun z hz => by rw [uo _ (hM z hz)])
    · simp [un]
  · unfold setNd
    rw [List.map_append]
    have e1 : (parN K0 pt l N0 M).map (fun x => if x.b = nb then paintNd pt x else x) = parN K0 pt l N0 M := by
      conv => rhs; rw [← List.map_id (parN K0 pt l N0 M)]
      apply List.map_congr_left
      intro x hx
      rw [if_neg (fun (e : x.b = nb) => hnb (e ▸ List.mem_map.2 ⟨x, hx, rfl⟩))]
      rfl
    rw [e1]
    unfold parN
    rw [List.map_append, ← List.append_assoc]
    simp only [List.map_cons, List.map_nil, if_pos]
    congr 2
    apply List.map_congr_left
    intro y hy
    have hf : (id.toList == (K0 y.b).id.toList) = false := by
      cases hh : (id.toList == (K0 y.b).id.toList)
      · rfl
      · rw [beq_iff_eq] at hh
        exact absurd (toList_inj hh).symm (noN y hy)
    rw [hasId_snoc, hf, Bool.or_false]
end Go.Proofs.Qxb6605835a
