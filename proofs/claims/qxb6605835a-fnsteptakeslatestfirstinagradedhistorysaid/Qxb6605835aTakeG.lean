import Derived.Test.Qxb6605835aTakeM
namespace Go.Proofs.Qxb6605835a
open Go.ChangeShapes Go.WideShapes Go.ChangeAt Go.RowKit
set_option linter.unusedVariables false

abbrev V12 : Type := Value → Value → Value → Value → Value → Value → Value → Value → Value → Value → Value → Value → Act

/-- The frame: what it holds in the slots that the region reads and writes. -/
structure TakeF (n : Nat) (G : V12) : Prop where
  e5 : ∀ a b c d e f g h i j k l, (G a b c d e f g h i j k l).eval (.tmp 5) = .int .i64 n
  e6 : ∀ a b c d e f g h i j k l, (G a b c d e f g h i j k l).eval (.tmp 6) = a
  e12 : ∀ a b c d e f g h i j k l, (G a b c d e f g h i j k l).eval (.tmp 12) = b
  e13 : ∀ a b c d e f g h i j k l, (G a b c d e f g h i j k l).eval (.tmp 13) = c
  e14 : ∀ a b c d e f g h i j k l, (G a b c d e f g h i j k l).eval (.tmp 14) = d
  e15 : ∀ a b c d e f g h i j k l, (G a b c d e f g h i j k l).eval (.tmp 15) = e
  e16 : ∀ a b c d e f g h i j k l, (G a b c d e f g h i j k l).eval (.tmp 16) = f
  e17 : ∀ a b c d e f g h i j k l, (G a b c d e f g h i j k l).eval (.tmp 17) = g
  e18 : ∀ a b c d e f g h i j k l, (G a b c d e f g h i j k l).eval (.tmp 18) = h
  e19 : ∀ a b c d e f g h i j k l, (G a b c d e f g h i j k l).eval (.tmp 19) = i
  e20 : ∀ a b c d e f g h i j k l, (G a b c d e f g h i j k l).eval (.tmp 20) = j
  e21 : ∀ a b c d e f g h i j k l, (G a b c d e f g h i j k l).eval (.tmp 21) = k
  e22 : ∀ a b c d e f g h i j k l, (G a b c d e f g h i j k l).eval (.tmp 22) = l
  p6 : ∀ a b c d e f g h i j k l v, (G a b c d e f g h i j k l).put (some 6) v = G v b c d e f g h i j k l
  p12 : ∀ a b c d e f g h i j k l v, (G a b c d e f g h i j k l).put (some 12) v = G a v c d e f g h i j k l
  p13 : ∀ a b c d e f g h i j k l v, (G a b c d e f g h i j k l).put (some 13) v = G a b v d e f g h i j k l
  p14 : ∀ a b c d e f g h i j k l v, (G a b c d e f g h i j k l).put (some 14) v = G a b c v e f g h i j k l
  p15 : ∀ a b c d e f g h i j k l v, (G a b c d e f g h i j k l).put (some 15) v = G a b c d v f g h i j k l
  p16 : ∀ a b c d e f g h i j k l v, (G a b c d e f g h i j k l).put (some 16) v = G a b c d e v g h i j k l
  p17 : ∀ a b c d e f g h i j k l v, (G a b c d e f g h i j k l).put (some 17) v = G a b c d e f v h i j k l
  p18 : ∀ a b c d e f g h i j k l v, (G a b c d e f g h i j k l).put (some 18) v = G a b c d e f g v i j k l
  p19 : ∀ a b c d e f g h i j k l v, (G a b c d e f g h i j k l).put (some 19) v = G a b c d e f g h v j k l
  p20 : ∀ a b c d e f g h i j k l v, (G a b c d e f g h i j k l).put (some 20) v = G a b c d e f g h i v k l
  p21 : ∀ a b c d e f g h i j k l v, (G a b c d e f g h i j k l).put (some 21) v = G a b c d e f g h i j v l
  p22 : ∀ a b c d e f g h i j k l v, (G a b c d e f g h i j k l).put (some 22) v = G a b c d e f g h i j k v

/-- The property: the frame and what holds. -/
def TI (w0 : World) (n : Nat) (G : V12) (p : Nat → Bool) (a : Act) (w : World) : Prop :=
  ∃ x6 x12 x13 x14 x15 x16 x17 x18 x19 x20 x21 x22, a = G x6 x12 x13 x14 x15 x16 x17 x18 x19 x20 x21 x22 ∧ TX w0 n p w x6 x12 x13 x14 x15 x16 x17 x18 x19 x20 x21 x22

theorem take_ready {ops : Array Oper} (hops : TakeOps ops) {listed : Array Bool} {p : Nat → Bool} (hs : listed.size = ops.size) (hp : ∀ j, p j = listed.getD j false) (i : Nat) : i ∈ Region.ready .any ops listed ↔ i < 13 ∧ p i = false ∧ depT p i = true := by
  unfold Region.ready
  rw [List.mem_filter, List.mem_range, hops.sz]
  have hpf : p = fun j => listed.getD j false := funext hp
  constructor
  · rintro ⟨hlt, h⟩
    obtain ⟨o, h1, h2, h3, h4, h5⟩ := hops.o i hlt
    rw [h1, Bool.and_eq_true] at h
    have hlt' : i < listed.size := by rw [hs, hops.sz]; exact hlt
    refine ⟨hlt, ?_, ?_⟩
    · have := h.1
      rw [hp]
      simpa [Array.getD, hlt'] using this
    · have := h.2
      simp only [Option.map_some, Option.getD_some] at this
      rw [h5] at this
      rw [hpf]
      exact this
  · rintro ⟨hlt, h, hd⟩
    obtain ⟨o, h1, h2, h3, h4, h5⟩ := hops.o i hlt
    have hlt' : i < listed.size := by rw [hs, hops.sz]; exact hlt
    refine ⟨hlt, ?_⟩
    rw [h1, Bool.and_eq_true]
    constructor
    · rw [hp] at h
      simpa [Array.getD, hlt'] using h
    · simp only [Option.map_some, Option.getD_some]
      rw [h5, ← hpf]
      exact hd

theorem take_all {ops : Array Oper} (hops : TakeOps ops) {listed : Array Bool} {p : Nat → Bool} (hs : listed.size = ops.size) (hp : ∀ j, p j = listed.getD j false) (h : Region.ready .any ops listed = []) : ∀ j, j < 13 → p j = true := by
  have hno : ∀ i, i < 13 → depT p i = true → p i = true := fun i hi hd => by
    cases e : p i
    · have := (take_ready hops hs hp i).2 ⟨hi, e, hd⟩
      rw [h] at this
      simp at this
    · rfl
  have h0 := hno 0 (by decide) rfl
  have h2 := hno 2 (by decide) rfl
  have h4 := hno 4 (by decide) rfl
  have h6 := hno 6 (by decide) rfl
  have h8 := hno 8 (by decide) rfl
  have h11 := hno 11 (by decide) rfl
  have h1 := hno 1 (by decide) h0
  have h3 := hno 3 (by decide) h2
  have h5 := hno 5 (by decide) h4
  have h7 := hno 7 (by decide) h6
  have h9 := hno 9 (by decide) h8
  have h10 := hno 10 (by decide) (by simp [depT, h1, h3, h5, h7, h9])
  have h12 := hno 12 (by decide) (by simp [depT, h0, h1, h2, h3, h4, h5, h6, h7, h8, h9, h10, h11])
  intro j hj
  obtain rfl | rfl | rfl | rfl | rfl | rfl | rfl | rfl | rfl | rfl | rfl | rfl | rfl : j = 0 ∨ j = 1 ∨ j = 2 ∨ j = 3 ∨ j = 4 ∨ j = 5 ∨ j = 6 ∨ j = 7 ∨ j = 8 ∨ j = 9 ∨ j = 10 ∨ j = 11 ∨ j = 12 := by omega
  all_goals assumption

theorem TX.b10no {w0 w : World} {n : Nat} {p : Nat → Bool} {x6 x12 x13 x14 x15 x16 x17 x18 x19 x20 x21 x22 : Value} (h : TX w0 n p w x6 x12 x13 x14 x15 x16 x17 x18 x19 x20 x21 x22) (hi : p 1 = false ∨ p 3 = false ∨ p 5 = false ∨ p 7 = false ∨ p 9 = false) : p 10 = false ∧ p 12 = false := by
  have h10 : p 10 = false := by
    cases e : p 10
    · rfl
    · obtain ⟨_, a, b, c, d, f⟩ := h.b10 e
      rcases hi with hi | hi | hi | hi | hi <;> simp_all
  refine ⟨h10, ?_⟩
  cases e : p 12
  · rfl
  · have := (h.e12 e).1
    rw [h10] at this
    cases this

set_option maxHeartbeats 4000000 in
theorem take_step (w0 : World) {n : Nat} (hn : n ≤ 1000000) {ops : Array Oper} (hops : TakeOps ops) {G : V12} (hG : TakeF n G) {Q : Exit → Act → World → Prop} (p : Nat → Bool) (listed : Array Bool) (a : Act) (w : World) (i : Nat) (hs : listed.size = ops.size) (hp : ∀ j, p j = listed.getD j false) (hI : TI w0 n G p a w) (hi : i ∈ Region.ready .any ops listed) :
    wpOp Try.prog ops Q i (TI w0 n G (fun j => if j = i then true else p j)) a w := by
  obtain ⟨hlt, hpi, hd⟩ := (take_ready hops hs hp i).1 hi
  obtain ⟨o, ho, hg, hop, hdst, -⟩ := hops.o i hlt
  obtain ⟨x6, x12, x13, x14, x15, x16, x17, x18, x19, x20, x21, x22, rfl, h⟩ := hI
  refine wpOp_of ho hg ?_
  have hB := h.bel.size
  obtain rfl | rfl | rfl | rfl | rfl | rfl | rfl | rfl | rfl | rfl | rfl | rfl | rfl : i = 0 ∨ i = 1 ∨ i = 2 ∨ i = 3 ∨ i = 4 ∨ i = 5 ∨ i = 6 ∨ i = 7 ∨ i = 8 ∨ i = 9 ∨ i = 10 ∨ i = 11 ∨ i = 12 := by omega
  · refine wp_value (v := .int .i64 n) (w' := w) (by simp [execOp, hop, opT, hG.e5]) ?_
    rw [hdst]
    simp only [dstT, hG.p12]
    exact ⟨_, _, _, _, _, _, _, _, _, _, _, _, rfl, fun _ => rfl, h.c2, h.c4, h.c6, h.c8, h.m1, h.m3, h.m5, h.m7, h.m9, h.d, h.b10, h.a11, h.e12, h.bel⟩
  · have e := h.c0 hd
    obtain ⟨n10, n12⟩ := h.b10no (.inl hpi)
    refine wp_value (v := .slice (some ⟨w.heap.size, 0, none⟩) n n) (w' := w.alloc (.cells (madeCells #[.bool false] n) 4)) (by simp [execOp, hop, opT, hG.e12, e, make44 n hn w]) ?_
    rw [hdst]
    simp only [dstT, hG.p13]
    refine ⟨_, _, _, _, _, _, _, _, _, _, _, _, rfl, h.c0, h.c2, h.c4, h.c6, h.c8, fun _ => Md.new w _ n 4 _ hB, fun q => (h.m3 q).alloc _, fun q => (h.m5 q).alloc _, fun q => (h.m7 q).alloc _, fun q => (h.m9 q).alloc _, fun _ q e => (h.m7 q).fresh e.symm, fun q => ?_, fun q => ?_, fun q => ?_, h.bel.alloc hB _⟩
    · exact absurd (show p 10 = true from q) (by rw [n10]; decide)
    · obtain ⟨b, h1, h2, h3⟩ := h.a11 q
      refine ⟨b, h1, h2, ?_⟩
      rw [if_neg (by rw [n12]; decide)] at h3
      show Blk _ b 49 (if p 12 = true then _ else zero5)
      rw [if_neg (show ¬ p 12 = true by rw [n12]; decide)]
      exact h3.alloc _
    · exact absurd (show p 12 = true from q) (by rw [n12]; decide)
  · refine wp_value (v := .int .i64 n) (w' := w) (by simp [execOp, hop, opT, hG.e5]) ?_
    rw [hdst]
    simp only [dstT, hG.p14]
    exact ⟨_, _, _, _, _, _, _, _, _, _, _, _, rfl, h.c0, fun _ => rfl, h.c4, h.c6, h.c8, h.m1, h.m3, h.m5, h.m7, h.m9, h.d, h.b10, h.a11, h.e12, h.bel⟩
  · have e := h.c2 hd
    obtain ⟨n10, n12⟩ := h.b10no (.inr (.inl hpi))
    refine wp_value (v := .slice (some ⟨w.heap.size, 0, none⟩) n n) (w' := w.alloc (.cells (madeCells #[.pointer none] n) 62)) (by simp [execOp, hop, opT, hG.e14, e, make45 n hn w]) ?_
    rw [hdst]
    simp only [dstT, hG.p15]
    refine ⟨_, _, _, _, _, _, _, _, _, _, _, _, rfl, h.c0, h.c2, h.c4, h.c6, h.c8, fun q => (h.m1 q).alloc _, fun _ => Md.new w _ n 62 _ hB, fun q => (h.m5 q).alloc _, fun q => (h.m7 q).alloc _, fun q => (h.m9 q).alloc _, h.d, fun q => ?_, fun q => ?_, fun q => ?_, h.bel.alloc hB _⟩
    · exact absurd (show p 10 = true from q) (by rw [n10]; decide)
    · obtain ⟨b, h1, h2, h3⟩ := h.a11 q
      refine ⟨b, h1, h2, ?_⟩
      rw [if_neg (by rw [n12]; decide)] at h3
      show Blk _ b 49 (if p 12 = true then _ else zero5)
      rw [if_neg (show ¬ p 12 = true by rw [n12]; decide)]
      exact h3.alloc _
    · exact absurd (show p 12 = true from q) (by rw [n12]; decide)
  · refine wp_value (v := .int .i64 n) (w' := w) (by simp [execOp, hop, opT, hG.e5]) ?_
    rw [hdst]
    simp only [dstT, hG.p16]
    exact ⟨_, _, _, _, _, _, _, _, _, _, _, _, rfl, h.c0, h.c2, fun _ => rfl, h.c6, h.c8, h.m1, h.m3, h.m5, h.m7, h.m9, h.d, h.b10, h.a11, h.e12, h.bel⟩
  · have e := h.c4 hd
    obtain ⟨n10, n12⟩ := h.b10no (.inr (.inr (.inl hpi)))
    refine wp_value (v := .slice (some ⟨w.heap.size, 0, none⟩) n n) (w' := w.alloc (.cells (madeCells #[.int .i64 0] n) 3)) (by simp [execOp, hop, opT, hG.e16, e, make46 n hn w]) ?_
    rw [hdst]
    simp only [dstT, hG.p17]
    refine ⟨_, _, _, _, _, _, _, _, _, _, _, _, rfl, h.c0, h.c2, h.c4, h.c6, h.c8, fun q => (h.m1 q).alloc _, fun q => (h.m3 q).alloc _, fun _ => Md.new w _ n 3 _ hB, fun q => (h.m7 q).alloc _, fun q => (h.m9 q).alloc _, h.d, fun q => ?_, fun q => ?_, fun q => ?_, h.bel.alloc hB _⟩
    · exact absurd (show p 10 = true from q) (by rw [n10]; decide)
    · obtain ⟨b, h1, h2, h3⟩ := h.a11 q
      refine ⟨b, h1, h2, ?_⟩
      rw [if_neg (by rw [n12]; decide)] at h3
      show Blk _ b 49 (if p 12 = true then _ else zero5)
      rw [if_neg (show ¬ p 12 = true by rw [n12]; decide)]
      exact h3.alloc _
    · exact absurd (show p 12 = true from q) (by rw [n12]; decide)
  · refine wp_value (v := .int .i64 n) (w' := w) (by simp [execOp, hop, opT, hG.e5]) ?_
    rw [hdst]
    simp only [dstT, hG.p18]
    exact ⟨_, _, _, _, _, _, _, _, _, _, _, _, rfl, h.c0, h.c2, h.c4, fun _ => rfl, h.c8, h.m1, h.m3, h.m5, h.m7, h.m9, h.d, h.b10, h.a11, h.e12, h.bel⟩
  · have e := h.c6 hd
    obtain ⟨n10, n12⟩ := h.b10no (.inr (.inr (.inr (.inl hpi))))
    refine wp_value (v := .slice (some ⟨w.heap.size, 0, none⟩) n n) (w' := w.alloc (.cells (madeCells #[.bool false] n) 4)) (by simp [execOp, hop, opT, hG.e18, e, make44 n hn w]) ?_
    rw [hdst]
    simp only [dstT, hG.p19]
    refine ⟨_, _, _, _, _, _, _, _, _, _, _, _, rfl, h.c0, h.c2, h.c4, h.c6, h.c8, fun q => (h.m1 q).alloc _, fun q => (h.m3 q).alloc _, fun q => (h.m5 q).alloc _, fun _ => Md.new w _ n 4 _ hB, fun q => (h.m9 q).alloc _, fun q _ => (h.m1 q).fresh, fun q => ?_, fun q => ?_, fun q => ?_, h.bel.alloc hB _⟩
    · exact absurd (show p 10 = true from q) (by rw [n10]; decide)
    · obtain ⟨b, h1, h2, h3⟩ := h.a11 q
      refine ⟨b, h1, h2, ?_⟩
      rw [if_neg (by rw [n12]; decide)] at h3
      show Blk _ b 49 (if p 12 = true then _ else zero5)
      rw [if_neg (show ¬ p 12 = true by rw [n12]; decide)]
      exact h3.alloc _
    · exact absurd (show p 12 = true from q) (by rw [n12]; decide)
  · refine wp_value (v := .int .i64 n) (w' := w) (by simp [execOp, hop, opT, hG.e5]) ?_
    rw [hdst]
    simp only [dstT, hG.p20]
    exact ⟨_, _, _, _, _, _, _, _, _, _, _, _, rfl, h.c0, h.c2, h.c4, h.c6, fun _ => rfl, h.m1, h.m3, h.m5, h.m7, h.m9, h.d, h.b10, h.a11, h.e12, h.bel⟩
  · have e := h.c8 hd
    obtain ⟨n10, n12⟩ := h.b10no (.inr (.inr (.inr (.inr hpi))))
    refine wp_value (v := .slice (some ⟨w.heap.size, 0, none⟩) n n) (w' := w.alloc (.cells (madeCells zeroC (n * 8)) 39)) (by simp [execOp, hop, opT, hG.e20, e, make47 n hn w]) ?_
    rw [hdst]
    simp only [dstT, hG.p21]
    refine ⟨_, _, _, _, _, _, _, _, _, _, _, _, rfl, h.c0, h.c2, h.c4, h.c6, h.c8, fun q => (h.m1 q).alloc _, fun q => (h.m3 q).alloc _, fun q => (h.m5 q).alloc _, fun q => (h.m7 q).alloc _, fun _ => Md.new w _ n 39 _ hB, h.d, fun q => ?_, fun q => ?_, fun q => ?_, h.bel.alloc hB _⟩
    · exact absurd (show p 10 = true from q) (by rw [n10]; decide)
    · obtain ⟨b, h1, h2, h3⟩ := h.a11 q
      refine ⟨b, h1, h2, ?_⟩
      rw [if_neg (by rw [n12]; decide)] at h3
      show Blk _ b 49 (if p 12 = true then _ else zero5)
      rw [if_neg (show ¬ p 12 = true by rw [n12]; decide)]
      exact h3.alloc _
    · exact absurd (show p 12 = true from q) (by rw [n12]; decide)
  · have hd' : p 1 = true ∧ p 3 = true ∧ p 5 = true ∧ p 7 = true ∧ p 9 = true := by
      simp only [depT, Bool.and_eq_true] at hd
      exact ⟨hd.1.1.1.1, hd.1.1.1.2, hd.1.1.2, hd.1.2, hd.2⟩
    obtain ⟨d1, d3, d5, d7, d9⟩ := hd'
    have hb := build49 x13 x15 x17 x19 x21 w (by
      intro x hx
      simp at hx
      rcases hx with rfl | rfl | rfl | rfl | rfl
      · exact (h.m1 d1).form
      · exact (h.m3 d3).form
      · exact (h.m5 d5).form
      · exact (h.m7 d7).form
      · exact (h.m9 d9).form)
    refine wp_value (v := .agg #[x13, x15, x17, x19, x21]) (w' := w) (by simp [execOp, hop, opT, hG.e13, hG.e15, hG.e17, hG.e19, hG.e21, hb]) ?_
    rw [hdst]
    simp only [dstT, hG.p22]
    refine ⟨_, _, _, _, _, _, _, _, _, _, _, _, rfl, h.c0, h.c2, h.c4, h.c6, h.c8, h.m1, h.m3, h.m5, h.m7, h.m9, h.d, fun _ => ⟨rfl, d1, d3, d5, d7, d9⟩, h.a11, fun q => ?_, h.bel⟩
    exact ⟨rfl, (h.e12 q).2⟩
  · refine wp_value (v := ptr w.heap.size) (w' := w.alloc (.cells zero5 49)) (by simp [execOp, hop, opT, alloc49 w]) ?_
    rw [hdst]
    simp only [dstT, hG.p6]
    have n12 : p 12 = false := by
      cases e : p 12
      · rfl
      · have := (h.e12 e).2
        rw [hpi] at this
        cases this
    refine ⟨_, _, _, _, _, _, _, _, _, _, _, _, rfl, h.c0, h.c2, h.c4, h.c6, h.c8, fun q => (h.m1 q).alloc _, fun q => (h.m3 q).alloc _, fun q => (h.m5 q).alloc _, fun q => (h.m7 q).alloc _, fun q => (h.m9 q).alloc _, h.d, h.b10, fun q => ?_, fun q => ?_, h.bel.alloc hB _⟩
    · refine ⟨w.heap.size, rfl, hB, ?_⟩
      show Blk _ w.heap.size 49 (if p 12 = true then _ else zero5)
      rw [if_neg (show ¬ p 12 = true by rw [n12]; decide)]
      exact Blk.new w 49 zero5
    · exact absurd (show p 12 = true from q) (by rw [n12]; decide)
  · have hd' : p 10 = true ∧ p 11 = true := by
      simp only [depT, Bool.and_eq_true] at hd
      exact ⟨hd.1.1.1.1.1.1.1.1.1.1.1, hd.1.1.1.1.1.1.1.1.1.1.2⟩
    obtain ⟨d10, d11⟩ := hd'
    obtain ⟨rfl, d1, d3, d5, d7, d9⟩ := h.b10 d10
    obtain ⟨b, rfl, hBb, hbk⟩ := h.a11 d11
    rw [if_neg (by rw [hpi]; decide)] at hbk
    have hst := store49 b x13 x15 x17 x19 x21 w hbk (by
      intro x hx
      simp at hx
      rcases hx with rfl | rfl | rfl | rfl | rfl
      · exact (h.m1 d1).form
      · exact (h.m3 d3).form
      · exact (h.m5 d5).form
      · exact (h.m7 d7).form
      · exact (h.m9 d9).form)
    refine wp_skip (w' := ((((w.setCell ⟨b, 0, none⟩ x13).setCell ⟨b, 1, none⟩ x15).setCell ⟨b, 2, none⟩ x17).setCell ⟨b, 3, none⟩ x19).setCell ⟨b, 4, none⟩ x21) (by simp [execOp, hop, opT, hG.e6, hG.e22, hst]) ?_
    rw [hdst]
    have hk : Keeps w (((((w.setCell ⟨b, 0, none⟩ x13).setCell ⟨b, 1, none⟩ x15).setCell ⟨b, 2, none⟩ x17).setCell ⟨b, 3, none⟩ x19).setCell ⟨b, 4, none⟩ x21) (· = b) :=
      (((((Keeps.refl w (· = b)).set b 0 _ (.inl rfl)).set b 1 _ (.inl rfl)).set b 2 _ (.inl rfl)).set b 3 _ (.inl rfl)).set b 4 _ (.inl rfl)
    have hne : ∀ t (C : Array Value), t ≠ 49 → ∀ g, Blk w g t C → ¬ g = b := fun t C ht g hb e => hb.ne hbk ht e
    refine ⟨_, _, _, _, _, _, _, _, _, _, _, _, rfl, h.c0, h.c2, h.c4, h.c6, h.c8, fun q => (h.m1 q).kept hk (hne _ _ (by decide)), fun q => (h.m3 q).kept hk (hne _ _ (by decide)), fun q => (h.m5 q).kept hk (hne _ _ (by decide)), fun q => (h.m7 q).kept hk (hne _ _ (by decide)), fun q => (h.m9 q).kept hk (hne _ _ (by decide)), h.d, h.b10, fun q => ⟨b, rfl, hBb, ?_⟩, fun _ => ⟨d10, d11⟩, h.bel.trans (hk.below hB (fun k e => by omega))⟩
    exact ((((hbk.set 0 x13).set 1 x15).set 2 x17).set 3 x19).set 4 x21

/-- The region whole. -/
theorem take_region (w0 : World) {n : Nat} (hn : n ≤ 1000000) {ops : Array Oper} (hops : TakeOps ops) {G : V12} (hG : TakeF n G) {Q : Exit → Act → World → Prop} {id : Nat} {y6 y12 y13 y14 y15 y16 y17 y18 y19 y20 y21 y22 : Value}
    (hend : ∀ p w' x6 x12 x13 x14 x15 x16 x17 x18 x19 x20 x21 x22, (∀ j, j < 13 → p j = true) → TX w0 n p w' x6 x12 x13 x14 x15 x16 x17 x18 x19 x20 x21 x22 → Q .normal (G x6 x12 x13 x14 x15 x16 x17 x18 x19 x20 x21 x22) w') :
    (Code.region id ops true).wp Try.prog Q (G y6 y12 y13 y14 y15 y16 y17 y18 y19 y20 y21 y22) w0 := by
  refine wp_region_any (by kernel_rfl) ?_
  refine wpAny_inv (TI w0 n G) (take_step w0 hn hops hG) (fun p listed a w hs hp hI hr => ?_) _ _ _ _ (by simp) (by simp) ?_
  · obtain ⟨x6, x12, x13, x14, x15, x16, x17, x18, x19, x20, x21, x22, rfl, h⟩ := hI
    exact hend p w _ _ _ _ _ _ _ _ _ _ _ _ (take_all hops hs hp hr) h
  · have hf : ∀ j, (Array.replicate ops.size false).getD j false = false := fun j => by
      simp only [Array.getD]
      split <;> simp
    have hno : ∀ {q : Prop} (j : Nat), (Array.replicate ops.size false).getD j false = true → q := fun j h => by rw [hf j] at h; cases h
    exact ⟨_, _, _, _, _, _, _, _, _, _, _, _, rfl, hno 0, hno 2, hno 4, hno 6, hno 8, hno 1, hno 3, hno 5, hno 7, hno 9, fun h => hno 1 h, hno 10, hno 11, hno 12, (Below.refl _ w0).drew⟩
end Go.Proofs.Qxb6605835a
