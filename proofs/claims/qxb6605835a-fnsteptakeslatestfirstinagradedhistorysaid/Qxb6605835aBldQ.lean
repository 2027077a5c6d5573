import Derived.Test.Qxb6605835aBldP
namespace Go.Proofs.Qxb6605835a
open Go.ChangeShapes Go.WideShapes Go.ChangeAt Go.RowKit
set_option linter.unusedVariables false

/-- The graph's variable in memory: its struct and its row of commits. -/
structure BN (w W : World) (g7 : Nat) (nv pv : Value) (bi : Nat) (G : List Cm) : Prop where
  blk : Blk W g7 58 #[nv, pv, .int .i64 bi]
  own : OwnC W w.heap.size nv G
  bel : Below w.heap.size w W
  g7l : w.heap.size ≤ g7

theorem BN.below {w W W' : World} {g7 bi : Nat} {nv pv : Value} {G : List Cm} (h : BN w W g7 nv pv bi G) (hb : Below W.heap.size W W') : BN w W' g7 nv pv bi G :=
  ⟨h.blk.below hb h.blk.lt, h.own.below hb, after h.bel hb, h.g7l⟩

/-- What the append needs of the struct's cell. -/
theorem BN.grown {w W w6 : World} {g7 bi : Nat} {nv pv : Value} {G : List Cm} {o : Obj} (h : BN w W g7 nv pv bi G) (hg : (W.alloc o).grownBy w6 nv.ownBlock) : Blk w6 g7 58 #[nv, pv, .int .i64 bi] := by
  refine (h.blk.alloc o).kept (Keeps.of_grown hg) (fun e => ?_)
  obtain ⟨cur, hc, _⟩ := h.own.blk e
  exact hc.ne h.blk (by decide) rfl

theorem BN.push {w W w6 : World} {g7 bi g cap : Nat} {nv pv : Value} {G : List Cm} {c : Cm} {o : Obj} (h : BN w W g7 nv pv bi G) (hown : w6.ownsRow w.heap.size 39 8 (.slice (some ⟨g, 0, none⟩) (G.length + 1) cap) (G.length + 1) (G.flatMap carr ++ carr c)) (hg : (W.alloc o).grownBy w6 nv.ownBlock) :
    BN w (w6.setCell ⟨g7, 0, none⟩ (.slice (some ⟨g, 0, none⟩) (G.length + 1) cap)) g7 (.slice (some ⟨g, 0, none⟩) (G.length + 1) cap) pv bi (G ++ [c]) ∧ Keeps W (w6.setCell ⟨g7, 0, none⟩ (.slice (some ⟨g, 0, none⟩) (G.length + 1) cap)) (fun k => k = g7 ∨ nv.ownBlock = some k) := by
  have hb6 := h.grown hg
  have hk6 : Keeps W w6 (fun k => k = g7 ∨ nv.ownBlock = some k) := ((Keeps.refl W _).alloc o).trans ((Keeps.of_grown hg).mono (fun k _ e => .inr e))
  have hk : Keeps W (w6.setCell ⟨g7, 0, none⟩ (.slice (some ⟨g, 0, none⟩) (G.length + 1) cap)) (fun k => k = g7 ∨ nv.ownBlock = some k) := hk6.set g7 0 _ (.inl (.inl rfl))
  have hks : Keeps w6 (w6.setCell ⟨g7, 0, none⟩ (.slice (some ⟨g, 0, none⟩) (G.length + 1) cap)) (· = g7) := (Keeps.refl w6 _).set g7 0 _ (.inl rfl)
  have hoc : OwnC w6 w.heap.size (.slice (some ⟨g, 0, none⟩) (G.length + 1) cap) (G ++ [c]) := OwnC.snoc hown
  refine ⟨⟨hb6.set 0 _, hoc.kept hks (fun q hq e => ?_), h.bel.trans (hk.below h.bel.size (fun k e => ?_)), h.g7l⟩, hk⟩
  · subst e
    obtain ⟨cur, hc, _⟩ := hoc.blk hq
    exact hc.ne hb6 (by decide) rfl
  · rcases e with e | e
    · have := h.g7l; omega
    · obtain ⟨_, _, hB⟩ := h.own.blk e
      exact hB

theorem BN.setBi {w W : World} {g7 bi : Nat} {nv pv : Value} {G : List Cm} (h : BN w W g7 nv pv bi G) (k : Nat) : BN w (W.setCell ⟨g7, 2, none⟩ (.int .i64 k)) g7 nv pv k G ∧ Keeps W (W.setCell ⟨g7, 2, none⟩ (.int .i64 k)) (· = g7) := by
  have hk : Keeps W (W.setCell ⟨g7, 2, none⟩ (.int .i64 k)) (· = g7) := (Keeps.refl W _).set g7 2 _ (.inl rfl)
  refine ⟨⟨h.blk.set 2 _, h.own.kept hk (fun q hq e => ?_), h.bel.trans (hk.below h.bel.size (fun j e => by have := h.g7l; omega)), h.g7l⟩, hk⟩
  subst e
  obtain ⟨cur, hc, _⟩ := h.own.blk hq
  exact hc.ne h.blk (by decide) rfl

/-- The inner loop in memory: x is the block of the row in hand, X its first numbers. -/
structure BI (w wr : World) (a b : Cm) (T : List Cm) (M : List ByteArray) (g6 g7 bi i x : Nat) (c : Cm) (nv pv : Value) (G : List Cm) (PI : List (List Nat)) (R X : List Nat) : Prop where
  bn : BN w wr g7 nv pv bi G
  br : BR w wr pv PI R
  pb : PB w a b T M G
  rows : rowsOk G PI
  len : PI.length = i
  six : Blk wr g6 58 #[.slice none 0 0, .slice none 0 0, .int .i64 0]
  at_ : G[i]? = some c
  row : rowOk G c.ps X
  arr : ∃ arr, Blk wr x 3 arr ∧ arr.size = c.ps.length ∧ ∀ t (ht : t < X.length), arr[t]? = some (.int .i64 X[t])
  xR : x ∉ R
  xl : w.heap.size ≤ x

section
variable {w wr : World} {a b : Cm} {T : List Cm} {M : List ByteArray} {g6 g7 bi i x : Nat} {c : Cm} {nv pv : Value} {G : List Cm} {PI : List (List Nat)} {R X : List Nat}

theorem BI.below {wr' : World} (h : BI w wr a b T M g6 g7 bi i x c nv pv G PI R X) (hb : Below wr.heap.size wr wr') : BI w wr' a b T M g6 g7 bi i x c nv pv G PI R X := by
  obtain ⟨arr, h1, h2, h3⟩ := h.arr
  exact ⟨h.bn.below hb, h.br.below hb, h.pb, h.rows, h.len, h.six.below hb h.six.lt, h.at_, h.row, ⟨arr, h1.below hb h1.lt, h2, h3⟩, h.xR, h.xl⟩

/-- A number stored into the row in hand. -/
theorem BI.store (h : BI w wr a b T M g6 g7 bi i x c nv pv G PI R X) {k : Nat} (hk : k < G.length) (hq : X.length < c.ps.length) (e : G[k].id = c.ps[X.length]) (h67 : g6 ≠ g7) : BI w (wr.setCell ⟨x, X.length, none⟩ (.int .i64 k)) a b T M g6 g7 bi i x c nv pv G PI R (X ++ [k]) := by
  obtain ⟨arr, h1, h2, h3⟩ := h.arr
  have hkp : Keeps wr (wr.setCell ⟨x, X.length, none⟩ (.int .i64 k)) (· = x) := (Keeps.refl wr _).set x _ _ (.inl rfl)
  have hxg : g7 ≠ x := fun e => h1.ne h.bn.blk (by decide) e.symm
  have hx6 : g6 ≠ x := fun e => h1.ne h.six (by decide) e.symm
  refine ⟨⟨h.bn.blk.kept hkp hxg, h.bn.own.kept hkp (fun q hq e => ?_), h.bn.bel.trans (hkp.below h.bn.bel.size (fun j e => by have := h.xl; omega)), h.bn.g7l⟩, h.br.kept hkp (fun q hq e => ?_) (fun r hr e => h.xR (e ▸ hr)), h.pb, h.rows, h.len, h.six.kept hkp hx6, h.at_, h.row.snoc hk hq e, ⟨_, h1.set X.length _, by simp [h2], fun t ht => ?_⟩, h.xR, h.xl⟩
  · subst e
    obtain ⟨cur, hc, _⟩ := h.bn.own.blk hq
    exact hc.ne h1 (by decide) rfl
  · subst e
    obtain ⟨cur, hc, _⟩ := h.br.blk hq
    exact hc.ne h1 (by decide) rfl
  · rw [Array.getElem?_setIfInBounds]
    by_cases hlt : t < X.length
    · rw [if_neg (by omega), h3 t hlt, List.getElem_append_left hlt]
    · have : t = X.length := by simp at ht; omega
      subst this
      rw [if_pos rfl, if_pos (by omega)]
      simp

/-- A node appended. -/
theorem BI.push {w6 : World} {g cap : Nat} {id : ByteArray} {o : Obj} (h : BI w wr a b T M g6 g7 bi i x c nv pv G PI R X) (hown : w6.ownsRow w.heap.size 39 8 (.slice (some ⟨g, 0, none⟩) (G.length + 1) cap) (G.length + 1) (G.flatMap carr ++ carr (resolveC T id))) (hg : (wr.alloc o).grownBy w6 nv.ownBlock)
    (hno : id ∉ G.map (·.id)) (hin : id ∈ M) (hT : ∀ c ∈ T, Par w c ∧ (∀ p ∈ c.ps, p ∈ M) ∧ c.ps.length ≤ 9000) (h67 : g6 ≠ g7) :
    BI w (w6.setCell ⟨g7, 0, none⟩ (.slice (some ⟨g, 0, none⟩) (G.length + 1) cap)) a b T M g6 g7 bi i x c (.slice (some ⟨g, 0, none⟩) (G.length + 1) cap) pv (G ++ [resolveC T id]) PI R X := by
  obtain ⟨h1, hkp⟩ := h.bn.push hown hg
  obtain ⟨arr, a1, a2, a3⟩ := h.arr
  have hS : ∀ k t ar, Blk wr k t ar → t ≠ 58 → t ≠ 39 → ¬ (k = g7 ∨ nv.ownBlock = some k) := fun k t ar hb n1 n2 e => by
    rcases e with e | e
    · subst e; exact hb.ne h.bn.blk n1 rfl
    · obtain ⟨cur, hc, _⟩ := h.bn.own.blk e
      exact hb.ne hc n2 rfl
  refine ⟨h1, h.br.kept hkp (fun q hq => ?_) (fun r hr => ?_), h.pb.grow hno hin hT, h.rows.grow _, h.len, h.six.kept hkp (fun e => ?_), ?_, h.row.grow _, ⟨arr, a1.kept hkp (hS x 3 arr a1 (by decide) (by decide)), a2, a3⟩, h.xR, h.xl⟩
  · obtain ⟨cur, hc, _⟩ := h.br.blk hq
    exact hS q 46 cur hc (by decide) (by decide)
  · obtain ⟨t, ht, rfl⟩ := List.mem_iff_getElem.1 hr
    exact hS _ 3 _ (h.br.row t ht (by have := h.br.len; omega)) (by decide) (by decide)
  · rcases e with e | e
    · exact h67 e
    · obtain ⟨cur, hc, _⟩ := h.bn.own.blk e
      exact h.six.ne hc (by decide) rfl
  · have := h.at_
    rw [List.getElem?_eq_some_iff] at this
    rw [List.getElem?_append_left this.1]
    exact h.at_
end
end Go.Proofs.Qxb6605835a
