import Derived.Test.Qxb6605835aStep
namespace Go.Proofs.Qxb6605835a
open Go.ChangeShapes Go.WideShapes Go.ChangeAt Go.RowKit
set_option linter.unusedVariables false

/-- The parents of a commit lie where its slice says, in the world w0 from which the walk began. -/
def Par (w0 : World) (c : Cm) : Prop := c.pn = c.ps.length ∧ c.pn ≤ 1000000 ∧ (c.pn = 0 ∨ ∃ b off, c.pa = some ⟨b, off, none⟩ ∧ ∀ j (h : j < c.ps.length), w0.cell? ⟨b, off + j, none⟩ = some (.string c.ps[j]))

theorem Par.root (w0 : World) (id : ByteArray) : Par w0 (rootCm id) := ⟨rfl, Nat.zero_le _, .inl rfl⟩

theorem Par.resolve {w0 : World} {T : List Cm} (h : ∀ c ∈ T, Par w0 c) (id : ByteArray) : Par w0 (resolveC T id) := by
  unfold resolveC
  cases hf : T.find? (fun c => c.id.toList == id.toList) with
  | none => exact Par.root w0 id
  | some c => exact h c (List.mem_of_find?_eq_some hf)

theorem Own.form {w : World} {B : Nat} {v : Value} {l : List Nat} (h : Own w B v l) (hl : 0 < l.length) : ∃ g cap, v = .slice (some ⟨g, 0, none⟩) l.length cap := by
  rcases h.2 with ⟨_, h0⟩ | ⟨g, cap, cur, hv, _⟩
  · omega
  · exact ⟨g, cap, hv⟩

/-- The node that was taken: it waits no longer. -/
def offNd (x : Nd) : Nd → Nd := fun y => ⟨y.b, x.p, false⟩

section
variable {w w1 : World} {B : Nat → Prop} {wb mb : Nat} {fnv qv cv : Value} {K : Nat → Cm} {N : List Nd} {Q C : List Nat} {ung : Bool}

theorem WS.top (hs : WS w B wb mb fnv K N qv cv Q C ung) (hl : 0 < Q.length) : ∃ x ∈ N, x.b = nth Q 0 ∧ x.q = true := by
  have h := hs.qperm.mem_iff.1 (nth_mem Q 0 hl)
  obtain ⟨x, hx, e, hq⟩ := qd_mem.1 h
  exact ⟨x, hx, e, hq⟩

/-- Behind heap.Pop. -/
theorem pop_state {g cap : Nat} {l' : List Nat} (hs : WS w B wb mb fnv K N (.slice (some ⟨g, 0, none⟩) Q.length cap) cv Q C ung) (hp : (l' ++ [nth Q 0]).Perm Q) (hh : HeapN (ltK K) l' l'.length) (ho : Own w1 0 (.slice (some ⟨g, 0, none⟩) l'.length cap) l')
    (hb : Blk w1 wb 85 #[fnv, .map (some mb), .slice (some ⟨g, 0, none⟩) l'.length cap, .int .i64 ((unmk N : Nat) : Int), cv, .bool ung]) (hk : Keeps w w1 (fun k => k = wb ∨ k = g)) :
    MS w1 B wb mb fnv K N (.slice (some ⟨g, 0, none⟩) l'.length cap) cv l' C ((unmk N : Nat) : Int) ung ∧ Keeps w w1 B := by
  refine ⟨hs.ms.setQueue _ l' hb (hk.mono fun k _ h => ?_) ho (fun g' hg' => .inl ?_) hh (fun b hb => ?_), hs.ms.belowB hk fun k h => ?_⟩
  · rcases h with h | h
    · exact .inl h
    · exact .inr (by rw [h]; rfl)
  · simpa [Value.ownBlock] using hg'
  · exact hs.ms.qin b (hp.mem_iff.1 (List.mem_append.2 (.inl hb)))
  · rcases h with h | h
    · exact h ▸ hs.ms.bw
    · exact h ▸ hs.ms.qB (g := g) rfl

theorem off_unmk (hs : WS w B wb mb fnv K N qv cv Q C ung) {x : Nd} (hx : x ∈ N) (hq : x.q = true) : unmk (setNd N x.b (offNd x)) + (x.p &&& 4 == 0).toNat = unmk N := by
  have h := cnt_set (fun y => y.q && (y.p &&& 4 == 0)) (offNd x) N x hx hs.ms.nodup
  simp only [hq, Bool.true_and, offNd, Bool.false_and, Bool.toNat_false, Nat.add_zero] at h
  exact h

theorem off_qd (hs : WS w B wb mb fnv K N qv cv Q C ung) {x : Nd} (hx : x ∈ N) (hq : x.q = true) {l' : List Nat} (hp : (l' ++ [x.b]).Perm Q) : l'.Perm (qd (setNd N x.b (offNd x))) := by
  have hback : setNd (setNd N x.b (offNd x)) x.b (fun y => ⟨y.b, y.p, true⟩) = N := by
    unfold setNd
    rw [List.map_map]
    conv => rhs; rw [← List.map_id N]
    apply List.map_congr_left
    intro y hy
    by_cases e : y.b = x.b
    · have := hs.ms.uniq hy hx e
      subst this
      cases y
      simp only at hq
      subst hq
      simp [offNd]
    · simp [e]
  have hm : (⟨x.b, x.p, false⟩ : Nd) ∈ setNd N x.b (offNd x) := by
    have := mem_setNd (b := x.b) (f := offNd x) hx
    rw [if_pos rfl] at this
    exact this
  have hnd : ((setNd N x.b (offNd x)).map (·.b)).Nodup := by rw [setNd_b N x.b (offNd x) (fun _ => rfl)]; exact hs.ms.nodup
  have huq : ∀ y ∈ setNd N x.b (offNd x), y.b = x.b → y = ⟨x.b, x.p, false⟩ := fun y hy e => by
    rcases setNd_mem hy with ⟨z, hz, e', rfl⟩ | ⟨_, hne⟩
    · simp only [offNd, e']
    · exact absurd e hne
  have hpush := qd_push (f := fun y => (⟨y.b, y.p, true⟩ : Nd)) (x := ⟨x.b, x.p, false⟩) (fun _ => rfl) hm hnd rfl rfl huq
  simp only at hpush
  rw [hback] at hpush
  exact (List.perm_append_right_iff [x.b]).1 (hp.trans (hs.qperm.trans hpush.symm))
end
end Go.Proofs.Qxb6605835a
