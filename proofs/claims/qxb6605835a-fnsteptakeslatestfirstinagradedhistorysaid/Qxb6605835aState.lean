import Derived.Test.Qxb6605835aMap
namespace Go.Proofs.Qxb6605835a
open Go.ChangeShapes Go.WideShapes Go.ChangeAt Go.RowKit
set_option linter.unusedVariables false

/-! ### The walk's state, plainly -/
/-- The queued nodes. -/
def qd (N : List Nd) : List Nat := (N.filter (·.q)).map (·.b)
/-- How many queued nodes are not marked below a common ancestor. -/
def unmk (N : List Nd) : Nat := (N.filter (fun x => x.q && (x.p &&& 4 == 0))).length
/-- The node of block b turned. -/
def setNd (N : List Nd) (b : Nat) (f : Nd → Nd) : List Nd := N.map (fun x => if x.b = b then f x else x)
/-- Paint added to a node: queued where that changed it. -/
def paintNd (pt : Nat) (x : Nd) : Nd := if x.p ||| pt = x.p then x else ⟨x.b, x.p ||| pt, true⟩
def upd (K : Nat → Cm) (b : Nat) (c : Cm) : Nat → Cm := fun k => if k = b then c else K k

theorem paintNd_b (pt : Nat) (x : Nd) : (paintNd pt x).b = x.b := by unfold paintNd; split <;> rfl

theorem setNd_b (N : List Nd) (b : Nat) (f : Nd → Nd) (hf : ∀ x, (f x).b = x.b) : (setNd N b f).map (·.b) = N.map (·.b) := by
  unfold setNd
  rw [List.map_map]
  apply List.map_congr_left
  intro x _
  simp only [Function.comp]
  split
  · exact hf x
  · rfl

theorem setNd_ents (K : Nat → Cm) (N : List Nd) (b : Nat) (f : Nd → Nd) (hf : ∀ x, (f x).b = x.b) (i : Nat) : ents K i (setNd N b f) = ents K i N :=
  ents_paint (fun x => if x.b = b then f x else x) (fun x => by split; exact hf x; rfl) N i

/-- The walk's blocks in memory: u is what the walk's count of unmarked nodes holds. -/
structure MS (w : World) (B : Nat → Prop) (wb mb : Nat) (fnv : Value) (K : Nat → Cm) (N : List Nd) (qv cv : Value) (Q C : List Nat) (u : Int) (ung : Bool) : Prop where
  blk : Blk w wb 85 #[fnv, .map (some mb), qv, .int .i64 u, cv, .bool ung]
  map : IsMap w mb K N
  nd : ∀ x ∈ N, Blk w x.b 92 (nodeArr (K x.b) x.p x.q)
  qown : Own w 0 qv Q
  cown : Own w 0 cv C
  qc : ∀ g, qv.ownBlock = some g → cv.ownBlock ≠ some g
  heap : HeapN (ltK K) Q Q.length
  nodup : (N.map (·.b)).Nodup
  ids : ∀ x ∈ N, ∀ y ∈ N, (K x.b).id = (K y.b).id → x.b = y.b
  qin : ∀ b ∈ Q, ∃ x ∈ N, x.b = b
  p8 : ∀ x ∈ N, x.p < 8
  bw : B wb
  bm : B mb
  bn : ∀ x ∈ N, B x.b
  bs : ∀ k, w.heap.size ≤ k → B k
  qb : ∀ g, qv.ownBlock = some g → B g
  cb : ∀ g, cv.ownBlock = some g → B g

/-- The walk's state: the count and the queue are what the nodes say. -/
structure WS (w : World) (B : Nat → Prop) (wb mb : Nat) (fnv : Value) (K : Nat → Cm) (N : List Nd) (qv cv : Value) (Q C : List Nat) (ung : Bool) : Prop where
  ms : MS w B wb mb fnv K N qv cv Q C ((unmk N : Nat) : Int) ung
  qperm : Q.Perm (qd N)

theorem MS.below {w w' : World} {B : Nat → Prop} {wb mb : Nat} {fnv qv cv : Value} {K : Nat → Cm} {N : List Nd} {Q C : List Nat} {u : Int} {ung : Bool} (h : MS w B wb mb fnv K N qv cv Q C u ung) (hb : Below w.heap.size w w') : MS w' B wb mb fnv K N qv cv Q C u ung := by
  have hk := Keeps.of_below hb (fun _ => False)
  exact ⟨h.blk.kept hk id, h.map.kept hk id, fun x hx => (h.nd x hx).kept hk id, h.qown.kept hk (fun _ _ => id), h.cown.kept hk (fun _ _ => id), h.qc, h.heap, h.nodup, h.ids, h.qin, h.p8, h.bw, h.bm, h.bn, fun k hq => h.bs k (Nat.le_trans hb.size hq), h.qb, h.cb⟩

theorem WS.below {w w' : World} {B : Nat → Prop} {wb mb : Nat} {fnv qv cv : Value} {K : Nat → Cm} {N : List Nd} {Q C : List Nat} {ung : Bool} (h : WS w B wb mb fnv K N qv cv Q C ung) (hb : Below w.heap.size w w') : WS w' B wb mb fnv K N qv cv Q C ung := ⟨h.ms.below hb, h.qperm⟩

/-- What a walk reads of the walk's block. -/
theorem MS.cells {w : World} {B : Nat → Prop} {wb mb : Nat} {fnv qv cv : Value} {K : Nat → Cm} {N : List Nd} {Q C : List Nat} {u : Int} {ung : Bool} (h : MS w B wb mb fnv K N qv cv Q C u ung) :
    w.cell? ⟨wb, 0, none⟩ = some fnv ∧ w.cell? ⟨wb, 1, none⟩ = some (.map (some mb)) ∧ w.cell? ⟨wb, 2, none⟩ = some qv ∧ w.cell? ⟨wb, 3, none⟩ = some (.int .i64 u) ∧ w.cell? ⟨wb, 4, none⟩ = some cv ∧ w.cell? ⟨wb, 5, none⟩ = some (.bool ung) :=
  ⟨h.blk.cell 0, h.blk.cell 1, h.blk.cell 2, h.blk.cell 3, h.blk.cell 4, h.blk.cell 5⟩

theorem MS.uniq {w : World} {B : Nat → Prop} {wb mb : Nat} {fnv qv cv : Value} {K : Nat → Cm} {N : List Nd} {Q C : List Nat} {u : Int} {ung : Bool} (h : MS w B wb mb fnv K N qv cv Q C u ung) {x y : Nd} (hx : x ∈ N) (hy : y ∈ N) (e : x.b = y.b) : x = y := by
  have hn := h.nodup
  obtain ⟨i, hi, rfl⟩ := List.mem_iff_getElem.1 hx
  obtain ⟨j, hj, rfl⟩ := List.mem_iff_getElem.1 hy
  have := (List.getElem_inj (h₀ := by simpa using hi) (h₁ := by simpa using hj) hn).1 (by simpa using e)
  subst this
  rfl

/-- The commit's eight cells, boxed. -/
abbrev boxed (c : Cm) : Obj := .cells #[.string c.id, .slice c.pa c.pn c.pc, .string c.com, .string c.msg, .int .i64 c.cr, .map none, .string c.mr, .int .i64 c.gen] 39

set_option maxHeartbeats 1000000 in
theorem node_hit (B : Nat → Prop) (wb mb : Nat) (fnv qv cv : Value) (K : Nat → Cm) (N : List Nd) (Q C : List Nat) (u : Int) (ung : Bool) (c : Cm) (x : Nd) (w : World) (hs : MS w B wb mb fnv K N qv cv Q C u ung) (hx : x ∈ N) (hid : (K x.b).id = c.id) :
    Calls Try.prog 53 #[.pointer (some ⟨wb, 0, none⟩), .agg #[.string c.id, .slice c.pa c.pn c.pc, .string c.com, .string c.msg, .int .i64 c.cr, .map none, .string c.mr, .int .i64 c.gen]] w fun e w' => e = .returned (ptr x.b) ∧ Below w.heap.size w w' := by
  obtain ⟨q0, q1, q2, q3, q4, q5⟩ := hs.cells
  have hmp : IsMap (w.alloc (boxed c)).drew mb K N := hs.map.kept ((Keeps.refl w (fun _ => False)).alloc (boxed c)).drew (fun h => h)
  have hlk := lookup_hit _ mb K N c.id hmp x hx hid (fun y hy e => hs.ids y hy x hx (e.trans hid.symm))
  have hw1 : (w.alloc (boxed c)).cell? ⟨wb, 1, none⟩ = some (.map (some mb)) := (hs.blk.alloc _).cell 1
  clear hs hx hid q0 q1 q2 q3 q4 q5 hmp
  go_enter Try.func53, Try.ntmps53
  go_wp2
  go_region
  go_wp2
  go_ret
  exact ⟨rfl, ((Below.refl _ _).alloc (Nat.le_refl _) _).drew⟩

/-- What a new node leaves in memory. -/
theorem node_end {w : World} {B : Nat → Prop} {wb mb : Nat} {fnv qv cv : Value} {K : Nat → Cm} {N : List Nd} {Q C : List Nat} {u : Int} {ung : Bool} {c : Cm} (hs : MS w B wb mb fnv K N qv cv Q C u ung) (hno : ∀ x ∈ N, (K x.b).id ≠ c.id) (o : Obj) (ung' : Bool) (w' : World)
    (hw : w' = (putMap ((w.alloc o).alloc (.cells (nodeArr c 0 false) 92)).drew.drew mb (ents K 0 N ++ [⟨.string c.id, ptr (w.heap.size + 1), N.length⟩]) (N.length + 1)) ∧ ung' = ung ∨
      w' = (putMap ((w.alloc o).alloc (.cells (nodeArr c 0 false) 92)).drew.drew mb (ents K 0 N ++ [⟨.string c.id, ptr (w.heap.size + 1), N.length⟩]) (N.length + 1)).setCell ⟨wb, 5, none⟩ (.bool true) ∧ ung' = true) :
    MS w' B wb mb fnv (upd K (w.heap.size + 1) c) (N ++ [⟨w.heap.size + 1, 0, false⟩]) qv cv Q C u ung' ∧ Keeps w w' (fun k => k = wb ∨ k = mb) := by
  obtain ⟨W2, hW2⟩ : ∃ W2, W2 = ((w.alloc o).alloc (.cells (nodeArr c 0 false) 92)).drew.drew := ⟨_, rfl⟩
  rw [← hW2] at hw
  obtain ⟨W3, hW3⟩ : ∃ W3, W3 = (putMap W2 mb (ents K 0 N ++ [⟨.string c.id, ptr (w.heap.size + 1), N.length⟩]) (N.length + 1)) := ⟨_, rfl⟩
  rw [← hW3] at hw
  have hk2 : ∀ S, Keeps w W2 S := fun S => by rw [hW2]; exact (((Keeps.refl w S).alloc o).alloc _).drew.drew
  have hk3 : Keeps w W3 (fun k => k = wb ∨ k = mb) := by
    rw [hW3]
    exact (hk2 _).trans ((putMap_keeps W2 mb _ _).mono (fun k _ h => .inr h))
  have hsz : W2.heap.size = w.heap.size + 2 := by rw [hW2]; simp
  have hbw : wb ≠ mb := hs.map.ne hs.blk
  have hblk3 : Blk W3 wb 85 #[fnv, .map (some mb), qv, .int .i64 u, cv, .bool ung] := by
    rw [hW3]
    exact (hs.blk.kept (hk2 (fun _ => False)) (fun h => h)).of_heap (putMap_other _ _ _ _ _ hbw)
  have hnew2 : Blk W2 (w.heap.size + 1) 92 (nodeArr c 0 false) := by
    rw [hW2]
    have := Blk.new (w.alloc o) 92 (nodeArr c 0 false)
    rw [World.size_alloc] at this
    exact this
  have hmlt := hs.map.lt
  have hnew3 : Blk W3 (w.heap.size + 1) 92 (nodeArr c 0 false) := by
    rw [hW3]
    exact hnew2.of_heap (putMap_other _ _ _ _ _ (by omega))
  have hfr : ∀ x ∈ N, x.b < w.heap.size := fun x hx => (hs.nd x hx).lt
  have hKo : ∀ x ∈ N, upd K (w.heap.size + 1) c x.b = K x.b := fun x hx => by
    have := hfr x hx
    unfold upd
    rw [if_neg (by omega)]
  have hKn : upd K (w.heap.size + 1) c (w.heap.size + 1) = c := by unfold upd; rw [if_pos rfl]
  have hmap3 : IsMap W3 mb (upd K (w.heap.size + 1) c) (N ++ [⟨w.heap.size + 1, 0, false⟩]) := by
    unfold IsMap
    rw [ents_snoc, ents_congr N 0 hKo, hKn, hW3, putMap_heap _ _ _ _ (by omega)]
    simp
  have hQ : ∀ b ∈ Q, b < w.heap.size := fun b hb => by
    obtain ⟨x, hx, rfl⟩ := hs.qin b hb
    exact hfr x hx
  have hall : ∀ (x : Nd), x ∈ N ++ [⟨w.heap.size + 1, 0, false⟩] → x ∈ N ∨ x = ⟨w.heap.size + 1, 0, false⟩ := fun x hx => by simpa using hx
  have main : MS W3 B wb mb fnv (upd K (w.heap.size + 1) c) (N ++ [⟨w.heap.size + 1, 0, false⟩]) qv cv Q C u ung := by
    refine ⟨hblk3, hmap3, ?_, ?_, ?_, hs.qc, ?_, ?_, ?_, fun b hb => ?_, ?_, hs.bw, hs.bm, ?_, fun k hq => hs.bs k (Nat.le_trans hk3.size hq), hs.qb, hs.cb⟩
    · intro x hx
      rcases hall x hx with h | rfl
      · rw [hKo x h]
        refine (hs.nd x h).kept hk3 ?_
        rintro (e | e)
        · exact (hs.nd x h).ne hs.blk (by decide) e
        · exact hs.map.ne (hs.nd x h) e
      · rw [hKn]
        exact hnew3
    · refine hs.qown.kept hk3 ?_
      intro g hg
      obtain ⟨cur, hcur, _⟩ := ownBlock_blk hs.qown hg
      rintro (e | e)
      · exact hcur.ne hs.blk (by decide) e
      · exact hs.map.ne hcur e
    · refine hs.cown.kept hk3 ?_
      intro g hg
      obtain ⟨cur, hcur, _⟩ := ownBlock_blk hs.cown hg
      rintro (e | e)
      · exact hcur.ne hs.blk (by decide) e
      · exact hs.map.ne hcur e
    · intro i h0 h1
      have a1 := hQ _ (nth_mem Q i h1)
      have a2 := hQ _ (nth_mem Q ((i - 1) / 2) (by omega))
      have := hs.heap i h0 h1
      unfold ltK at this ⊢
      unfold upd
      rw [if_neg (by omega), if_neg (by omega)]
      exact this
    · rw [List.map_append]
      simp only [List.map_cons, List.map_nil]
      rw [List.nodup_append]
      refine ⟨hs.nodup, by simp, ?_⟩
      intro a ha b hb
      obtain ⟨x, hx, rfl⟩ := List.mem_map.1 ha
      have := hfr x hx
      simp at hb
      omega
    · intro x hx y hy e
      rcases hall x hx with h | rfl <;> rcases hall y hy with h' | rfl
      · rw [hKo x h, hKo y h'] at e
        exact hs.ids x h y h' e
      · rw [hKo x h] at e
        simp only [hKn] at e
        exact absurd e (hno x h)
      · rw [hKo y h'] at e
        simp only [hKn] at e
        exact absurd e.symm (hno y h')
      · rfl
    · obtain ⟨x, hx, e⟩ := hs.qin b hb
      exact ⟨x, by simp [hx], e⟩
    · intro x hx
      rcases hall x hx with h | rfl
      · exact hs.p8 x h
      · show 0 < 8
        decide
    · intro x hx
      rcases hall x hx with h | rfl
      · exact hs.bn x h
      · exact hs.bs _ (Nat.le_succ _)
  rcases hw with ⟨rfl, rfl⟩ | ⟨rfl, rfl⟩
  · exact ⟨main, hk3⟩
  · have hks : Keeps W3 (W3.setCell ⟨wb, 5, none⟩ (.bool true)) (· = wb) := (Keeps.refl _ _).set wb 5 _ (.inl rfl)
    refine ⟨⟨?_, main.map.kept hks (fun e => hbw e.symm), fun x hx => (main.nd x hx).kept hks (fun e => (main.nd x hx).ne main.blk (by decide) e), ?_, ?_, main.qc, main.heap, main.nodup, main.ids, main.qin, main.p8, main.bw, main.bm, main.bn, fun k hq => main.bs k (Nat.le_trans hks.size hq), main.qb, main.cb⟩, hk3.set wb 5 _ (.inl (.inl rfl))⟩
    · exact main.blk.set 5 (.bool true)
    · refine main.qown.kept hks ?_
      intro g hg
      obtain ⟨cur, hcur, _⟩ := ownBlock_blk main.qown hg
      exact fun e => hcur.ne main.blk (by decide) e
    · refine main.cown.kept hks ?_
      intro g hg
      obtain ⟨cur, hcur, _⟩ := ownBlock_blk main.cown hg
      exact fun e => hcur.ne main.blk (by decide) e

/-- A new node's ten cells. -/
abbrev nodeO (c : Cm) : Obj := .cells #[.string c.id, .slice c.pa c.pn c.pc, .string c.com, .string c.msg, .int .i64 c.cr, .map none, .string c.mr, .int .i64 c.gen, .int .i64 0, .bool false] 92

set_option maxHeartbeats 1000000 in
theorem node_miss (B : Nat → Prop) (wb mb : Nat) (fnv qv cv : Value) (K : Nat → Cm) (N : List Nd) (Q C : List Nat) (u : Int) (ung : Bool) (c : Cm) (w : World) (hs : MS w B wb mb fnv K N qv cv Q C u ung) (hno : ∀ x ∈ N, (K x.b).id ≠ c.id) :
    Calls Try.prog 53 #[.pointer (some ⟨wb, 0, none⟩), .agg #[.string c.id, .slice c.pa c.pn c.pc, .string c.com, .string c.msg, .int .i64 c.cr, .map none, .string c.mr, .int .i64 c.gen]] w fun e w' => e = .returned (ptr (w.heap.size + 1)) ∧
      MS w' B wb mb fnv (upd K (w.heap.size + 1) c) (N ++ [⟨w.heap.size + 1, 0, false⟩]) qv cv Q C u (ung || decide (c.gen = 0)) ∧ Keeps w w' (fun k => k = wb ∨ k = mb) := by
  have hmp : IsMap (w.alloc (boxed c)).drew mb K N := hs.map.kept ((Keeps.refl w (fun _ => False)).alloc (boxed c)).drew (fun h => h)
  have hlk := lookup_miss _ mb K N c.id hmp hno
  have hw1 : (w.alloc (boxed c)).cell? ⟨wb, 1, none⟩ = some (.map (some mb)) := (hs.blk.alloc _).cell 1
  have hmp2 : IsMap ((w.alloc (boxed c)).alloc (nodeO c)).drew.drew mb K N := hs.map.kept (((Keeps.refl w (fun _ => False)).alloc (boxed c)).alloc _).drew.drew (fun h => h)
  have hup := update_new _ mb K N c.id (ptr (w.heap.size + 1)) hmp2 hno
  have hw2 : ((w.alloc (boxed c)).alloc (nodeO c)).cell? ⟨wb, 1, none⟩ = some (.map (some mb)) := ((hs.blk.alloc _).alloc _).cell 1
  have HE := hide (fun ung' w' => node_end (c := c) hs hno (boxed c) ung' w')
  obtain ⟨W3, hW3⟩ : ∃ W3, W3 = putMap ((w.alloc (boxed c)).alloc (nodeO c)).drew.drew mb (ents K 0 N ++ [⟨.string c.id, ptr (w.heap.size + 1), N.length⟩]) (N.length + 1) := ⟨_, rfl⟩
  rw [← hW3] at hup
  have hbw : wb ≠ mb := hs.map.ne hs.blk
  have hb3 : Blk W3 wb 85 #[fnv, .map (some mb), qv, .int .i64 u, cv, .bool ung] := by
    rw [hW3]
    exact (hs.blk.kept (((Keeps.refl w (fun _ => False)).alloc (boxed c)).alloc (nodeO c)).drew.drew (fun h => h)).of_heap (putMap_other _ _ _ _ _ hbw)
  have hmlt := hs.map.lt
  have hx3 : Blk W3 w.heap.size 39 #[.string c.id, .slice c.pa c.pn c.pc, .string c.com, .string c.msg, .int .i64 c.cr, .map none, .string c.mr, .int .i64 c.gen] := by
    rw [hW3]
    exact ((Blk.new w 39 _).alloc (nodeO c)).of_heap (putMap_other _ _ _ _ _ (by omega))
  have h37 : W3.cell? ⟨w.heap.size, 7, none⟩ = some (.int .i64 c.gen) := hx3.cell 7
  have h35 : W3.cell? ⟨wb, 5, none⟩ = some (.bool ung) := hb3.cell 5
  have hf5 := hb3.free 5
  have HW3 := hide hW3
  clear hs hno hmp hmp2 hW3 hb3 hx3 hbw hmlt
  by_cases hg : c.gen = 0
  · have hgb : (c.gen == 0) = true := by simpa using hg
    have HG := hide hg
    clear hg
    go_enter Try.func53, Try.ntmps53
    go_wp2
    go_region
    go_wp2
    go_region
    go_wp2
    go_ret
    have hu : (ung || decide (c.gen = 0)) = true := by simp [HG.out]
    rw [hu]
    exact ⟨rfl, HE.out true _ (.inr ⟨by rw [HW3.out]; rfl, rfl⟩)⟩
  · have hgb : (c.gen == 0) = false := by simpa using hg
    have HG := hide hg
    clear hg
    go_enter Try.func53, Try.ntmps53
    go_wp2
    go_region
    go_wp2
    go_region
    go_wp2
    go_ret
    have hu : (ung || decide (c.gen = 0)) = ung := by simp [HG.out]
    rw [hu]
    exact ⟨rfl, HE.out ung _ (.inl ⟨by rw [HW3.out]; rfl, rfl⟩)⟩

theorem unmk_snoc (N : List Nd) (b p : Nat) : unmk (N ++ [⟨b, p, false⟩]) = unmk N := by simp [unmk]
theorem qd_snoc (N : List Nd) (b p : Nat) : qd (N ++ [⟨b, p, false⟩]) = qd N := by simp [qd]
end Go.Proofs.Qxb6605835a
