import Derived.Test.Qxb6605835aGo
namespace Go.Proofs.Qxb6605835a
open Go.ChangeShapes Go.WideShapes Go.ChangeAt Go.RowKit
set_option linter.unusedVariables false

/-- The linear scan's best among the first i + 1. -/
def topU (K : Nat → Cm) (Q : List Nat) : Nat → Nat
  | 0 => 0
  | i + 1 => if (K (nth Q (i + 1))).less (K (nth Q (topU K Q i))) = true then i + 1 else topU K Q i

theorem topU_le (K : Nat → Cm) (Q : List Nat) : ∀ i, topU K Q i ≤ i
  | 0 => Nat.le_refl _
  | i + 1 => by
    have := topU_le K Q i
    unfold topU
    split <;> omega

theorem topU_min (K : Nat → Cm) (Q : List Nat) : ∀ i j, j ≤ i → ltK K (nth Q j) (nth Q (topU K Q i)) = false
  | 0, j, h => by
    have : j = 0 := by omega
    subst this
    cases e : ltK K (nth Q 0) (nth Q (topU K Q 0))
    · rfl
    · have := Cm.less_asym _ _ e
      exact absurd (e.symm.trans this) (by decide)
  | i + 1, j, h => by
    have ih := topU_min K Q i
    unfold topU
    split
    · next hl =>
      by_cases e : j = i + 1
      · subst e
        cases e : ltK K (nth Q (i + 1)) (nth Q (i + 1))
        · rfl
        · have := Cm.less_asym _ _ e
          exact absurd (e.symm.trans this) (by decide)
      · exact (ordK K).tr _ _ _ (Cm.less_asym _ _ hl) (ih j (by omega))
    · next hl =>
      by_cases e : j = i + 1
      · subst e
        exact Bool.eq_false_iff.2 hl
      · exact ih j (by omega)

/-- The scan finds what lies on top of the heap. -/
theorem top_is {w : World} {B : Nat → Prop} {wb mb : Nat} {fnv qv cv : Value} {K : Nat → Cm} {N : List Nd} {Q C : List Nat} {ung : Bool} (hs : WS w B wb mb fnv K N qv cv Q C ung) (hl : 0 < Q.length) : nth Q (topU K Q (Q.length - 1)) = nth Q 0 := by
  have ht := topU_le K Q (Q.length - 1)
  have h1 := heap_min (ordK K) hs.ms.heap (topU K Q (Q.length - 1)) (by omega)
  have h2 := topU_min K Q (Q.length - 1) 0 (Nat.zero_le _)
  have := (Cm.less_antisym _ _ h1 h2).2
  obtain ⟨x, hx, ex⟩ := hs.ms.qin _ (nth_mem Q (topU K Q (Q.length - 1)) (by omega))
  obtain ⟨y, hy, ey⟩ := hs.ms.qin _ (nth_mem Q 0 hl)
  rw [← ex, ← ey] at this ⊢
  exact hs.ms.ids x hx y hy this

theorem Nodes.below {w w' : World} {K : Nat → Cm} {l : List Nat} (h : Nodes w K l) (hb : Below w.heap.size w w') : Nodes w' K l := fun b hbl => (h b hbl).below hb

set_option maxHeartbeats 4000000 in
theorem top_any (g cap B : Nat) (K : Nat → Cm) (Q : List Nat) (w : World) (ho : Own w B (.slice (some ⟨g, 0, none⟩) Q.length cap) Q) (hn : Nodes w K Q) (hl : Q.length ≤ 1000000) :
    Calls Try.prog 27 #[.slice (some ⟨g, 0, none⟩) Q.length cap] w fun e w' => e = .returned (.int .i64 (topU K Q (Q.length - 1))) ∧ Below w.heap.size w w' := by
  have HO := hide ho
  have HN := hide hn
  clear ho hn
  obtain ⟨n, hnQ⟩ : ∃ n, n = Q.length := ⟨_, rfl⟩
  rw [← hnQ] at hl ⊢
  have HQ := hide hnQ
  have H0 : Hid (0 = topU K Q 0) := rfl
  clear hnQ
  go_enter Try.func27, Try.ntmps27
  go_wp2_with fail
  go_loopw [3, 4] (fun b i wr => ∃ k : Nat, k ≤ n + 1 ∧ i = .int .i64 ((k : Int) + 1) ∧ ∃ t : Nat, b = .int .i64 t ∧ t ≤ k ∧ Hid (t = topU K Q k) ∧ (n ≤ k → k = 0) ∧ Hid (Below w.heap.size w wr)) (fun _ i _ => n + 2 - (intOf i).toNat)
  case atStart => exact ⟨0, by omega, rfl, 0, rfl, Nat.le_refl _, H0.out, fun _ => rfl, Below.refl _ _⟩
  case round =>
    obtain ⟨k, hk, rfl, t, rfl, htk, HT, hnk, HB⟩ := hrel
    by_cases hlt : k + 1 < n
    · have hk1 : k + 1 < Q.length := by have := HQ.out; omega
      have ht1 : t < Q.length := by have := HQ.out; omega
      have c1 := cell_below HB.out (HO.out.cell (k + 1) hk1)
      have c2 := cell_below HB.out (HO.out.cell t ht1)
      have n1 := (HN.out _ (List.getElem_mem hk1)).below HB.out
      have n2 := (HN.out _ (List.getElem_mem ht1)).below HB.out
      have HU : Hid (topU K Q (k + 1) = if (K Q[k + 1]).less (K Q[t]) = true then k + 1 else t) := hide (by
        show (if (K (nth Q (k + 1))).less (K (nth Q (topU K Q k))) = true then k + 1 else topU K Q k) = _
        rw [← HT.out, nth_eq Q _ hk1, nth_eq Q _ ht1])
      generalize Q[k + 1] = x at *
      generalize Q[t] = y at *
      generalize K x = cx at *
      generalize K y = cy at *
      have H1 := hide n1
      have H2 := hide n2
      have C2 := hide c2
      clear n1 n2 c2 HT
      go_wp2_with fail
      refine (nodeCommit_any x cx _ H1.out).mono ?_
      rintro e w1 ⟨rfl, hb1⟩
      have hb1' : Below wr.heap.size wr (w1.alloc (boxed cx)) := hb1.alloc hb1.size _
      have HB1 := chain HB hb1'
      have H2' := hide (H2.out.below hb1')
      have c2 := cell_below hb1' C2.out
      have HBX := hide (Blk.new w1 39 #[.string cx.id, .slice cx.pa cx.pn cx.pc, .string cx.com, .string cx.msg, .int .i64 cx.cr, .map none, .string cx.mr, .int .i64 cx.gen])
      clear hb1 hb1' c1 C2 H2 H1
      go_wp2_with fail
      refine (nodeCommit_any y cy _ H2'.out).mono ?_
      rintro e w2 ⟨rfl, hb2⟩
      have hb2' : Below (w1.alloc (boxed cx)).heap.size (w1.alloc (boxed cx)) (w2.alloc (boxed cy)) := hb2.alloc hb2.size _
      have HB2 := chain HB1 hb2'
      have hbx : Blk (w2.alloc (boxed cy)) w1.heap.size 39 _ := HBX.out.below hb2' (by simp only [World.size_alloc]; omega)
      obtain ⟨⟨x0, x1, x2, x3, x4, x5, x6, x7⟩, -⟩ := cells8 hbx
      have HBX2 := hide hbx
      have HBY := hide (Blk.new w2 39 #[.string cy.id, .slice cy.pa cy.pn cy.pc, .string cy.com, .string cy.msg, .int .i64 cy.cr, .map none, .string cy.mr, .int .i64 cy.gen])
      clear hb2 hb2' hbx c2 HBX H2' HB1
      go_wp2_with fail
      refine (key_any cx _).mono ?_
      rintro e w3 ⟨rfl, hb3⟩
      have HB3 := chain HB2 hb3
      have hby : Blk w3 w2.heap.size 39 _ := HBY.out.below hb3 (by simp only [World.size_alloc]; omega)
      obtain ⟨⟨y0, y1, y2, y3, y4, y5, y6, y7⟩, -⟩ := cells8 hby
      have HBX3 := hide (HBX2.out.below hb3 HBX2.out.lt)
      have HBY3 := hide hby
      clear hb3 hby x0 x1 x2 x3 x4 x5 x6 x7 HBX2 HBY HB2
      go_wp2_with fail
      refine (key_any cy _).mono ?_
      rintro e w4 ⟨rfl, hb4⟩
      have HB4 := chain HB3 hb4
      have x0 : w4.cell? ⟨w1.heap.size, 0, none⟩ = some (.string cx.id) := (HBX3.out.below hb4 HBX3.out.lt).cell 0
      have z0 : w4.cell? ⟨w2.heap.size, 0, none⟩ = some (.string cy.id) := (HBY3.out.below hb4 HBY3.out.lt).cell 0
      clear hb4 y0 y1 y2 y3 y4 y5 y6 y7 HBX3 HBY3 HB3 HB
      have HL : Hid (cx.less cy = (decide (cy.key < cx.key) || (decide (cx.key = cy.key) && Op.bytesLess cx.id.toList cy.id.toList))) := rfl
      have HE : Hid (∀ b, cx.less cy = b → (∃ t' : Nat, t' = (if b = true then k + 1 else t) ∧ t' ≤ k + 1 ∧ Hid (t' = topU K Q (k + 1)))) := hide (fun b hb => ⟨_, rfl, by split <;> omega, by rw [HU.out, hb]; rfl⟩)
      generalize cx.key = kx at *
      generalize cy.key = ky at *
      by_cases h1 : ky < kx
      · have d1 : decide (ky < kx) = true := by simpa using h1
        have HE' := hide (HE.out true (by rw [HL.out, d1]; rfl))
        go_wp2_with fail
        go_roundw
        case rel =>
          obtain ⟨t', ht', h1, h2⟩ := HE'.out
          rw [if_pos trivial] at ht'
          subst ht'
          exact ⟨k + 1, by omega, by go_num, k + 1, by go_num, h1, h2, fun _ => by omega, HB4.out⟩
        case measure => simp [intOf]; omega
      · have d1 : decide (ky < kx) = false := by simpa using h1
        by_cases h2 : kx = ky
        · subst h2
          have d2 : (kx == kx) = true := by simp
          cases hb : Op.bytesLess cx.id.toList cy.id.toList with
          | true =>
            have HE' := hide (HE.out true (by rw [HL.out, d1, hb]; simp))
            go_wp2_with fail
            go_roundw
            case rel =>
              obtain ⟨t', ht', h1, h2⟩ := HE'.out
              rw [if_pos trivial] at ht'
              subst ht'
              exact ⟨k + 1, by omega, by go_num, k + 1, by go_num, h1, h2, fun _ => by omega, HB4.out⟩
            case measure => simp [intOf]; omega
          | false =>
            have HE' := hide (HE.out false (by rw [HL.out, d1, hb]; simp))
            go_wp2_with fail
            go_roundw
            case rel =>
              obtain ⟨t', ht', h1, h2⟩ := HE'.out
              rw [if_neg (by decide)] at ht'
              subst ht'
              exact ⟨k + 1, by omega, by go_num, _, rfl, h1, h2, fun _ => by omega, HB4.out⟩
            case measure => simp [intOf]; omega
        · have d2 : (kx == ky) = false := by simpa using h2
          have HE' := hide (HE.out false (by rw [HL.out, d1]; simp [h2]))
          go_wp2_with fail
          go_roundw
          case rel =>
            obtain ⟨t', ht', h1, h2⟩ := HE'.out
            rw [if_neg (by decide)] at ht'
            subst ht'
            exact ⟨k + 1, by omega, by go_num, _, rfl, h1, h2, fun _ => by omega, HB4.out⟩
          case measure => simp [intOf]; omega
    · have HE : Hid (t = topU K Q (n - 1)) := hide (by
        rw [HT.out]
        by_cases h0 : n ≤ k
        · have hk0 := hnk h0
          have : n = 0 := by omega
          rw [hk0, this]
        · have : k = n - 1 := by omega
          rw [this])
      go_wp2_with fail
      go_ret
      exact ⟨ret_int (by rw [HE.out]), HB.out⟩
end Go.Proofs.Qxb6605835a
