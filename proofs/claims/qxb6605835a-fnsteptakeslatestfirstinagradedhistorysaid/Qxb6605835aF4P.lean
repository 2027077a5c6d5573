import Derived.Test.Qxb6605835aLnk
import Derived.Test.Qxb6605835aHolds
namespace Go.Proofs.Qxb6605835a
open Go.ChangeShapes Go.WideShapes Go.ChangeAt Go.RowKit
set_option linter.unusedVariables false

/-- What is written outside the walk's own blocks leaves the walk as it was. -/
theorem WS.kept {w w' : World} {B S : Nat → Prop} {wb mb : Nat} {fnv qv cv : Value} {K : Nat → Cm} {N : List Nd} {Q C : List Nat} {ung : Bool} (h : WS w B wb mb fnv K N qv cv Q C ung) (hk : Keeps w w' S) (hs : ∀ k, S k → ¬ Qxb6605835a.mine w wb mb N qv cv k) : WS w' B wb mb fnv K N qv cv Q C ung := by
  have h1 : ¬ S wb := fun s => hs wb s (.inl rfl)
  have h2 : ¬ S mb := fun s => hs mb s (.inr (.inl rfl))
  have h3 : ∀ x ∈ N, ¬ S x.b := fun x hx s => hs x.b s (.inr (.inr (.inl ⟨x, hx, rfl⟩)))
  have h4 : ∀ g, qv.ownBlock = some g → ¬ S g := fun g hg s => hs g s (.inr (.inr (.inr (.inl hg))))
  have h5 : ∀ g, cv.ownBlock = some g → ¬ S g := fun g hg s => hs g s (.inr (.inr (.inr (.inr (.inl hg)))))
  exact ⟨⟨h.ms.blk.kept hk h1, h.ms.map.kept hk h2, fun x hx => (h.ms.nd x hx).kept hk (h3 x hx), h.ms.qown.kept hk h4, h.ms.cown.kept hk h5, h.ms.qc, h.ms.heap, h.ms.nodup, h.ms.ids, h.ms.qin, h.ms.p8, h.ms.bw, h.ms.bm, h.ms.bn, fun k hq => h.ms.bs k (Nat.le_trans hk.size hq), h.ms.qb, h.ms.cb⟩, h.qperm⟩

/-- The nodes are no more than the graph's. -/
theorem WInv.nlen {G : List Cm} {a b : Cm} {K : Nat → Cm} {N : List Nd} {P C : List Nat} (h : WInv G a b K N P C) (hk : NOk K N) : N.length ≤ G.length := by
  have h1 : (N.map (fun y => (K y.b).id)).Nodup := by
    rw [List.Nodup, List.pairwise_map]
    have := hk.1
    rw [List.Nodup, List.pairwise_map] at this
    refine List.Pairwise.imp_of_mem ?_ this
    intro y y' hy hy' hne e
    exact hne (hk.2 y hy y' hy' e)
  have h2 : ∀ i ∈ N.map (fun y => (K y.b).id), i ∈ G.map (·.id) := by
    intro i hi
    obtain ⟨y, hy, rfl⟩ := List.mem_map.1 hi
    exact List.mem_map.2 ⟨_, h.inG y hy, rfl⟩
  have := nodup_le h1 h2
  simpa using this

/-- A step over a graded history, in memory: the slice of what was taken outlives it. -/
theorem step4 {w0 W w' : World} {wb mb sb : Nat} {qv cv tv : Value} {G : List Cm} {a b : Cm} {T : List Cm} {K : Nat → Cm} {N : List Nd} {Q C P PT : List Nat} {x : Nd}
    (hs : WS W (fun k => w0.heap.size ≤ k) wb mb (.func (.func 39) #[.pointer (some ⟨sb, 0, none⟩)] #[]) K N qv cv Q C false) (hb0 : Below w0.heap.size w0 W) (hi : WInv G a b K N P C) (hG : Gra G a b T) (hx : x ∈ N) (hxq : x.q = true) (hxb : x.b = nth Q 0)
    (hown : Own W w0.heap.size tv PT) (hoff : ∀ g, tv.ownBlock = some g → ¬ Qxb6605835a.mine W wb mb N qv cv g)
    (h : StepPost w0 W (Qxb6605835a.mine W wb mb N qv cv) wb mb (.func (.func 39) #[.pointer (some ⟨sb, 0, none⟩)] #[]) K N C false T x w') :
    ∃ K' N' qv' cv' Q' C', WS w' (fun k => w0.heap.size ≤ k) wb mb (.func (.func 39) #[.pointer (some ⟨sb, 0, none⟩)] #[]) K' N' qv' cv' Q' C' false ∧ Below w0.heap.size w0 w' ∧ WInv G a b K' N' (P ++ [x.b]) C' ∧ Own w' w0.heap.size tv PT ∧ (∀ g, tv.ownBlock = some g → ¬ Qxb6605835a.mine w' wb mb N' qv' cv' g) ∧ K' x.b = K x.b := by
  obtain ⟨K', M, qv', cv', Q', ung', hs', hp, hk, hpm⟩ := h
  have hk' : NOk K' (stepN K N x M) := ⟨hs'.ms.nodup, hs'.ms.ids⟩
  have hinv := hi.step hG ⟨hs.ms.nodup, hs.ms.ids⟩ hs.ms.p8 hx hxq (top_gen hs hi hG hx hxb) hp hk'
  have hung := step_graded hinv hG hp
  subst hung
  have hsub := mine_sub hs
  refine ⟨K', _, qv', cv', Q', _, hs'.mono hsub, hb0.trans (hk.below hb0.size hsub), hinv, hown.kept hk hoff, fun g hg hm => hoff g hg (mine_sub hs' g hm), step_keep hp hx⟩

/-- What function 4's main loop keeps. -/
def L4 (w0 wr : World) (sb wb mb : Nat) (G : List Cm) (a b : Cm) (tv : Value) (last : Int) (st : Nat) : Prop :=
  ∃ qv cv K N Q C P, WS wr (fun k => w0.heap.size ≤ k) wb mb (.func (.func 39) #[.pointer (some ⟨sb, 0, none⟩)] #[]) K N qv cv Q C false ∧ Below w0.heap.size w0 wr ∧ WInv G a b K N P C ∧ Own wr w0.heap.size tv P ∧ (∀ g, tv.ownBlock = some g → ¬ Qxb6605835a.mine wr wb mb N qv cv g) ∧ P.length = st ∧ (∀ k, P.getLast? = some k → last = (K k).gen)

/-- The slice of what was taken grows; the walk is as it was. -/
theorem taken_push {W w6 : World} {B : Nat → Prop} {Bt wb mb g cap x : Nat} {fnv qv cv tv : Value} {K : Nat → Cm} {N : List Nd} {Q C P : List Nat} {ung : Bool} {o : Obj}
    (hs : WS W B wb mb fnv K N qv cv Q C ung) (hown : Own W Bt tv P) (hoff : ∀ g, tv.ownBlock = some g → ¬ Qxb6605835a.mine W wb mb N qv cv g)
    (h1 : w6.ownsRow Bt 62 1 (.slice (some ⟨g, 0, none⟩) (P.length + 1) cap) (P.length + 1) (P.map ptr ++ [ptr x])) (h2 : (W.alloc o).grownBy w6 tv.ownBlock) (hat : tv.ownBlock = some g ∨ g = W.heap.size + 1) :
    WS w6 B wb mb fnv K N qv cv Q C ung ∧ Own w6 Bt (.slice (some ⟨g, 0, none⟩) (P.length + 1) cap) (P ++ [x]) ∧ (∀ q, (Value.slice (some ⟨g, 0, none⟩) (P.length + 1) cap).ownBlock = some q → ¬ Qxb6605835a.mine w6 wb mb N qv cv q) ∧ Keeps W w6 (fun k => tv.ownBlock = some k) := by
  have hk : Keeps W w6 (fun k => tv.ownBlock = some k) := ((Keeps.refl W _).alloc o).trans (Keeps.of_grown h2)
  have hs6 := hs.kept hk hoff
  have ho6 : Own w6 Bt (.slice (some ⟨g, 0, none⟩) (P.length + 1) cap) (P ++ [x]) := by
    unfold Own
    rw [List.map_append, List.length_append]
    exact h1
  refine ⟨hs6, ho6, fun q hq hm => ?_, hk⟩
  obtain ⟨cur, hc, _⟩ := ownBlock_blk ho6 hq
  simp [Value.ownBlock] at hq
  subst hq
  have hlt := hc.lt
  have hmW : g < W.heap.size → Qxb6605835a.mine W wb mb N qv cv g := fun hl => by
    rcases hm with e | e | e | e | e | e
    · exact .inl e
    · exact .inr (.inl e)
    · exact .inr (.inr (.inl e))
    · exact .inr (.inr (.inr (.inl e)))
    · exact .inr (.inr (.inr (.inr (.inl e))))
    · omega
  rcases hat with e | e
  · obtain ⟨cur', hc', _⟩ := ownBlock_blk hown e
    exact hoff g e (hmW hc'.lt)
  · exact not_mine_new hs6 hs (by omega) hlt hm

theorem mine_less {w w' : World} {wb mb : Nat} {N : List Nd} {qv cv : Value} (h : w.heap.size ≤ w'.heap.size) {k : Nat} (hm : Qxb6605835a.mine w' wb mb N qv cv k) : Qxb6605835a.mine w wb mb N qv cv k := by
  rcases hm with e | e | e | e | e | e
  · exact .inl e
  · exact .inr (.inl e)
  · exact .inr (.inr (.inl e))
  · exact .inr (.inr (.inr (.inl e)))
  · exact .inr (.inr (.inr (.inr (.inl e))))
  · exact .inr (.inr (.inr (.inr (.inr (by omega)))))

theorem tot_le {PI : List (List Nat)} (h : ∀ i (hi : i < PI.length), PI[i].length ≤ 9000) : tot PI ≤ PI.length * 9000 := by
  unfold tot
  induction PI with
  | nil => simp
  | cons x l ih =>
    have h0 : x.length ≤ 9000 := h 0 (by simp)
    have h1 := ih (fun i hi => h (i + 1) (by simpa using hi))
    simp only [List.map_cons, List.sum_cons, List.length_cons]
    omega

theorem unmk_zero {N : List Nd} (h : unmk N = 0) : ∀ y ∈ N, y.q = true → y.p &&& 4 ≠ 0 := by
  unfold unmk at h
  rw [List.length_eq_zero_iff, List.filter_eq_nil_iff] at h
  intro y hy hq e
  have := h y hy
  rw [hq, e] at this
  exact this rfl
end Go.Proofs.Qxb6605835a
