import Derived.Test.Qxb6605835aPaint
namespace Go.Proofs.Qxb6605835a
open Go.ChangeShapes Go.WideShapes Go.ChangeAt Go.RowKit
set_option linter.unusedVariables false

theorem setNd_id {N : List Nd} {b : Nat} {f : Nd → Nd} (h : ∀ y ∈ N, y.b = b → f y = y) : setNd N b f = N := by
  unfold setNd
  conv => rhs; rw [← List.map_id N]
  apply List.map_congr_left
  intro x hx
  by_cases e : x.b = b
  · rw [if_pos e, h x hx e]; rfl
  · rw [if_neg e]; rfl

theorem setNd_congr {N : List Nd} {b : Nat} {f g : Nd → Nd} (h : ∀ y ∈ N, y.b = b → f y = g y) : setNd N b f = setNd N b g := by
  unfold setNd
  apply List.map_congr_left
  intro x hx
  by_cases e : x.b = b
  · rw [if_pos e, if_pos e, h x hx e]
  · rw [if_neg e, if_neg e]

section
variable {w w' : World} {B : Nat → Prop} {wb mb : Nat} {fnv qv cv : Value} {K : Nat → Cm} {N : List Nd} {Q C : List Nat} {u : Int} {ung : Bool}

/-- One node's paint and flag turned. -/
theorem MS.setNode (h : MS w B wb mb fnv K N qv cv Q C u ung) {x : Nd} (hx : x ∈ N) (p' : Nat) (q' : Bool) (hp : p' < 8) (hw : Blk w' x.b 92 (nodeArr (K x.b) p' q')) (hk : Keeps w w' (· = x.b)) :
    MS w' B wb mb fnv K (setNd N x.b (fun y => ⟨y.b, p', q'⟩)) qv cv Q C u ung := by
  have hxb := h.nd x hx
  have hlen : (setNd N x.b (fun y => ⟨y.b, p', q'⟩)).length = N.length := by simp [setNd]
  refine ⟨h.blk.kept hk (fun e => h.blk.ne hxb (by decide) e), ?_, ?_, h.qown.kept hk ?_, h.cown.kept hk ?_, h.qc, h.heap, ?_, ?_, ?_, ?_, h.bw, h.bm, ?_, fun k hq => h.bs k (Nat.le_trans hk.size hq), h.qb, h.cb⟩
  · have := h.map.kept hk (fun e => h.map.ne hxb e.symm)
    unfold IsMap at this ⊢
    rw [hlen, setNd_ents K N x.b (fun y => ⟨y.b, p', q'⟩) (fun _ => rfl)]
    exact this
  · intro y hy
    rcases setNd_mem hy with ⟨z, hz, e, rfl⟩ | ⟨hy, hne⟩
    · show Blk w' z.b 92 (nodeArr (K z.b) p' q')
      rw [e]
      exact hw
    · exact (h.nd y hy).kept hk hne
  · intro g hg e
    obtain ⟨cur, hcur, _⟩ := ownBlock_blk h.qown hg
    exact hcur.ne hxb (by decide) e
  · intro g hg e
    obtain ⟨cur, hcur, _⟩ := ownBlock_blk h.cown hg
    exact hcur.ne hxb (by decide) e
  · rw [setNd_b N x.b (fun y => ⟨y.b, p', q'⟩) (fun _ => rfl)]; exact h.nodup
  · intro y hy z hz e
    have back : ∀ y ∈ setNd N x.b (fun y => (⟨y.b, p', q'⟩ : Nd)), ∃ y' ∈ N, y'.b = y.b := fun y hy => by
      rcases setNd_mem hy with ⟨z, hz, e, rfl⟩ | ⟨hy, _⟩
      · exact ⟨z, hz, rfl⟩
      · exact ⟨y, hy, rfl⟩
    obtain ⟨y', hy', ey⟩ := back y hy
    obtain ⟨z', hz', ez⟩ := back z hz
    rw [← ey, ← ez] at e ⊢
    exact h.ids y' hy' z' hz' e
  · intro b hb
    obtain ⟨y, hy, e⟩ := h.qin b hb
    refine ⟨_, mem_setNd (b := x.b) (f := fun y => ⟨y.b, p', q'⟩) hy, ?_⟩
    split
    · exact e
    · exact e
  · intro y hy
    rcases setNd_mem hy with ⟨z, hz, e, rfl⟩ | ⟨hy, _⟩
    · exact hp
    · exact h.p8 y hy
  · intro y hy
    rcases setNd_mem hy with ⟨z, hz, e, rfl⟩ | ⟨hy, _⟩
    · exact h.bn z hz
    · exact h.bn y hy

/-- The walk's own cells turned: the count, the flag. -/
theorem MS.setWalk (h : MS w B wb mb fnv K N qv cv Q C u ung) (u' : Int) (ung' : Bool) (hw : Blk w' wb 85 #[fnv, .map (some mb), qv, .int .i64 u', cv, .bool ung']) (hk : Keeps w w' (· = wb)) :
    MS w' B wb mb fnv K N qv cv Q C u' ung' :=
  ⟨hw, h.map.kept hk (fun e => h.map.ne h.blk e.symm), fun x hx => (h.nd x hx).kept hk (fun e => (h.nd x hx).ne h.blk (by decide) e),
    h.qown.kept hk (fun g hg e => by obtain ⟨cur, hcur, _⟩ := ownBlock_blk h.qown hg; exact hcur.ne h.blk (by decide) e),
    h.cown.kept hk (fun g hg e => by obtain ⟨cur, hcur, _⟩ := ownBlock_blk h.cown hg; exact hcur.ne h.blk (by decide) e),
    h.qc, h.heap, h.nodup, h.ids, h.qin, h.p8, h.bw, h.bm, h.bn, fun k hq => h.bs k (Nat.le_trans hk.size hq), h.qb, h.cb⟩

/-- The queue turned. -/
theorem MS.setQueue (h : MS w B wb mb fnv K N qv cv Q C u ung) (qv' : Value) (Q' : List Nat) (hw : Blk w' wb 85 #[fnv, .map (some mb), qv', .int .i64 u, cv, .bool ung]) (hk : Keeps w w' (fun k => k = wb ∨ qv.ownBlock = some k)) (ho : Own w' 0 qv' Q')
    (hat : ∀ g, qv'.ownBlock = some g → qv.ownBlock = some g ∨ w.heap.size ≤ g) (hh : HeapN (ltK K) Q' Q'.length) (hin : ∀ b ∈ Q', ∃ x ∈ N, x.b = b) :
    MS w' B wb mb fnv K N qv' cv Q' C u ung := by
  have hq : ∀ b t arr, t ≠ 62 → Blk w b t arr → ¬ qv.ownBlock = some b := fun b t arr ht hb e => by
    obtain ⟨cur, hcur, _⟩ := ownBlock_blk h.qown e
    exact hb.ne hcur ht rfl
  refine ⟨hw, h.map.kept hk ?_, fun x hx => (h.nd x hx).kept hk ?_, ho, h.cown.kept hk ?_, ?_, hh, h.nodup, h.ids, hin, h.p8, h.bw, h.bm, h.bn, fun k hq => h.bs k (Nat.le_trans hk.size hq), fun g hg => (hat g hg).elim (h.qb g) (h.bs g), h.cb⟩
  · rintro (e | e)
    · exact h.map.ne h.blk e.symm
    · obtain ⟨cur, hcur, _⟩ := ownBlock_blk h.qown e
      exact h.map.ne hcur rfl
  · rintro (e | e)
    · exact (h.nd x hx).ne h.blk (by decide) e
    · exact hq x.b 92 _ (by decide) (h.nd x hx) e
  · intro g hg
    rintro (e | e)
    · obtain ⟨cur, hcur, _⟩ := ownBlock_blk h.cown hg
      exact hcur.ne h.blk (by decide) e
    · exact h.qc g e hg
  · intro g hg hc
    rcases hat g hg with e | e
    · exact h.qc g e hc
    · obtain ⟨cur, hcur, _⟩ := ownBlock_blk h.cown hc
      have := hcur.lt
      omega

theorem MS.nodes (h : MS w B wb mb fnv K N qv cv Q C u ung) : Nodes w K Q := fun b hb => by
  obtain ⟨x, hx, rfl⟩ := h.qin b hb
  exact ⟨_, _, h.nd x hx⟩

/-- What is written is the walk's own. -/
theorem MS.belowB (h : MS w B wb mb fnv K N qv cv Q C u ung) {S : Nat → Prop} (hk : Keeps w w' S) (hs : ∀ k, S k → B k) : Keeps w w' B := hk.mono (fun k _ e => hs k e)

theorem MS.qB (h : MS w B wb mb fnv K N qv cv Q C u ung) {g : Nat} (hg : qv.ownBlock = some g) : B g := h.qb g hg

theorem MS.cB (h : MS w B wb mb fnv K N qv cv Q C u ung) {g : Nat} (hg : cv.ownBlock = some g) : B g := h.cb g hg
end
end Go.Proofs.Qxb6605835a
