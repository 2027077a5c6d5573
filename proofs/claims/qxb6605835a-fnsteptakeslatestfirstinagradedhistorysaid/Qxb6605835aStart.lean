import Derived.Test.Qxb6605835aTop
namespace Go.Proofs.Qxb6605835a
open Go.ChangeShapes Go.WideShapes Go.ChangeAt Go.RowKit
set_option linter.unusedVariables false

theorem WS.mono {w : World} {B B' : Nat → Prop} {wb mb : Nat} {fnv qv cv : Value} {K : Nat → Cm} {N : List Nd} {Q C : List Nat} {ung : Bool} (h : WS w B wb mb fnv K N qv cv Q C ung) (hB : ∀ k, B k → B' k) : WS w B' wb mb fnv K N qv cv Q C ung :=
  ⟨⟨h.ms.blk, h.ms.map, h.ms.nd, h.ms.qown, h.ms.cown, h.ms.qc, h.ms.heap, h.ms.nodup, h.ms.ids, h.ms.qin, h.ms.p8, hB _ h.ms.bw, hB _ h.ms.bm, fun x hx => hB _ (h.ms.bn x hx), fun k hk => hB _ (h.ms.bs k hk), fun g hg => hB _ (h.ms.qb g hg), fun g hg => hB _ (h.ms.cb g hg)⟩, h.qperm⟩

/-- The least set of blocks that the walk may write. -/
def mine (w : World) (wb mb : Nat) (N : List Nd) (qv cv : Value) (k : Nat) : Prop := k = wb ∨ k = mb ∨ (∃ x ∈ N, x.b = k) ∨ qv.ownBlock = some k ∨ cv.ownBlock = some k ∨ w.heap.size ≤ k

theorem WS.mine {w : World} {B : Nat → Prop} {wb mb : Nat} {fnv qv cv : Value} {K : Nat → Cm} {N : List Nd} {Q C : List Nat} {ung : Bool} (h : WS w B wb mb fnv K N qv cv Q C ung) : WS w (mine w wb mb N qv cv) wb mb fnv K N qv cv Q C ung :=
  ⟨⟨h.ms.blk, h.ms.map, h.ms.nd, h.ms.qown, h.ms.cown, h.ms.qc, h.ms.heap, h.ms.nodup, h.ms.ids, h.ms.qin, h.ms.p8, .inl rfl, .inr (.inl rfl), fun x hx => .inr (.inr (.inl ⟨x, hx, rfl⟩)), fun k hk => .inr (.inr (.inr (.inr (.inr hk)))), fun g hg => .inr (.inr (.inr (.inl hg))), fun g hg => .inr (.inr (.inr (.inr (.inl hg))))⟩, h.qperm⟩

theorem mine_sub {w : World} {B : Nat → Prop} {wb mb : Nat} {fnv qv cv : Value} {K : Nat → Cm} {N : List Nd} {Q C : List Nat} {ung : Bool} (h : WS w B wb mb fnv K N qv cv Q C ung) : ∀ k, Qxb6605835a.mine w wb mb N qv cv k → B k := by
  rintro k (e | e | ⟨x, hx, e⟩ | e | e | e)
  · exact e ▸ h.ms.bw
  · exact e ▸ h.ms.bm
  · exact e ▸ h.ms.bn x hx
  · exact h.ms.qb k e
  · exact h.ms.cb k e
  · exact h.ms.bs k e

/-- The nodes at the start. -/
def StartN (ca cb : Cm) (K : Nat → Cm) (N : List Nd) (ung : Bool) : Prop :=
  (ca.id = cb.id ∧ ∃ n1, N = [⟨n1, 3, true⟩] ∧ K n1 = ca ∧ ung = decide (ca.gen = 0)) ∨
  (ca.id ≠ cb.id ∧ ∃ n1 n2, N = [⟨n1, 1, true⟩, ⟨n2, 2, true⟩] ∧ K n1 = ca ∧ K n2 = cb ∧ ung = (decide (ca.gen = 0) || decide (cb.gen = 0)))

/-- The walk's state in memory at the start. -/
def StartPost (w : World) (sb : Nat) (ca cb : Cm) (e : Ending) (w' : World) : Prop :=
  ∃ wb mb qv K N Q ung, e = .returned (ptr wb) ∧ WS w' (fun k => w.heap.size ≤ k) wb mb (.func (.func 39) #[.pointer (some ⟨sb, 0, none⟩)] #[]) K N qv (.slice none 0 0) Q [] ung ∧ Below w.heap.size w w' ∧ StartN ca cb K N ung

set_option maxHeartbeats 4000000 in
theorem startWalk_any (sb : Nat) (ca cb : Cm) (w : World) :
    Calls Try.prog 13 #[.pointer (some ⟨sb, 0, none⟩), cval ca, cval cb] w fun e w' => StartPost w sb ca cb e w' := by
  go_enter Try.func13, Try.ntmps13
  go_wp2_with fail
  refine (newWalk_any sb (fun _ => ca) _).mono ?_
  rintro e w1 ⟨rfl, hs1, hb1⟩
  have h0 : Below w.heap.size w ((w.alloc (boxed ca)).alloc (boxed cb)) := ((Below.refl _ _).alloc (Nat.le_refl _) _).alloc (by simp only [World.size_alloc]; omega) _
  have HA := hide (((Blk.new w 39 #[.string ca.id, .slice ca.pa ca.pn ca.pc, .string ca.com, .string ca.msg, .int .i64 ca.cr, .map none, .string ca.mr, .int .i64 ca.gen]).alloc (boxed cb)).below hb1 (by simp only [World.size_alloc]; omega))
  have HBB0 := Blk.new (w.alloc (boxed ca)) 39 #[.string cb.id, .slice cb.pa cb.pn cb.pc, .string cb.com, .string cb.msg, .int .i64 cb.cr, .map none, .string cb.mr, .int .i64 cb.gen]
  rw [World.size_alloc] at HBB0
  have HBB := hide (HBB0.below hb1 (by simp only [World.size_alloc]; omega))
  clear HBB0
  have HB1 : Hid (Below w.heap.size w w1) := after h0 hb1
  have hB : ((w.alloc (boxed ca)).alloc (boxed cb)).heap.size = w.heap.size + 2 := by simp only [World.size_alloc]
  rw [hB] at hs1 ⊢
  have HS1 := hide hs1
  clear hs1 hb1 h0 hB
  obtain ⟨⟨x0, x1, x2, x3, x4, x5, x6, x7⟩, -⟩ := cells8 HA.out
  obtain ⟨mb, hB⟩ : ∃ mb, mb = w.heap.size + 2 := ⟨_, rfl⟩
  obtain ⟨B, hBd⟩ : ∃ B : Nat → Prop, B = (fun k => mb ≤ k) := ⟨_, rfl⟩
  obtain ⟨wb, hwb⟩ : ∃ wb, wb = w.heap.size + 2 + 1 := ⟨_, rfl⟩
  rw [← hwb, ← hB, ← hBd] at HS1
  rw [← hwb]
  have HLB : Hid ((∀ k, B k → w.heap.size ≤ k) ∧ ¬ B (w.heap.size + 1)) := hide (by rw [hBd]; exact ⟨fun k hk => by have : mb ≤ k := hk; omega, fun h => by have : mb ≤ w.heap.size + 1 := h; omega⟩)
  clear hwb hB hBd
  go_wp2_with fail
  refine (nodeZ_miss B wb mb _ _ _ _ [] [] [] _ false ca w1 HS1.out.ms (fun x hx => by simp at hx)).mono ?_
  rintro e w2 ⟨rfl, hm2, hb2⟩
  obtain ⟨n1, hn1⟩ : ∃ n1, n1 = w1.heap.size + 2 := ⟨_, rfl⟩
  rw [← hn1] at hm2 ⊢
  have HW2 : Hid (WS w2 B wb mb _ _ _ _ _ _ _ _) := hide ⟨by rw [unmk_snoc]; exact hm2, by rw [qd_snoc]; exact HS1.out.qperm⟩
  have HBB2 := hide (HBB.out.kept hb2 HLB.out.2)
  have HB2 : Hid (Below w.heap.size w w2) := HB1.out.trans (hb2.below HB1.out.size HLB.out.1)
  clear hm2 hb2 hn1 HBB HB1 HA x0 x1 x2 x3 x4 x5 x6 x7 HS1
  go_wp2_with fail
  refine (paintZ_any B wb mb _ _ _ _ _ [] [] _ ⟨n1, 0, false⟩ 1 w2 HW2.out (by simp) (by decide) (by simp)).mono ?_
  rintro e w3 ⟨rfl, qv3, Q3, hs3, hb3⟩
  have hN3 : setNd ([] ++ [(⟨n1, 0, false⟩ : Nd)]) n1 (paintNd 1) = [⟨n1, 1, true⟩] := by simp [setNd, paintNd]
  have hK3 : upd (fun _ => ca) n1 ca = fun _ => ca := by funext k; unfold upd; split <;> rfl
  rw [hN3, hK3, Bool.false_or] at hs3
  have HS3 := hide hs3
  have HBB3 := hide (HBB2.out.kept hb3 HLB.out.2)
  have HB3 : Hid (Below w.heap.size w w3) := HB2.out.trans (hb3.below HB2.out.size HLB.out.1)
  obtain ⟨⟨x0, x1, x2, x3, x4, x5, x6, x7⟩, -⟩ := cells8 HBB3.out
  clear hs3 hb3 hN3 hK3 HBB2 HB2 HW2
  by_cases hid : ca.id = cb.id
  · have HID := hide hid
    clear hid
    go_wp2_with fail
    refine (nodeZ_hit B wb mb _ _ _ _ _ Q3 [] _ _ cb ⟨n1, 1, true⟩ w3 HS3.out.ms (by simp) HID.out).mono ?_
    rintro e w4 ⟨rfl, hb4⟩
    have HS4 := hide (HS3.out.below hb4)
    have HB4 : Hid (Below w.heap.size w w4) := after HB3.out hb4
    clear hb4 x0 x1 x2 x3 x4 x5 x6 x7 HBB3
    go_wp2_with fail
    refine (paintZ_any B wb mb _ _ _ _ _ Q3 [] _ ⟨n1, 1, true⟩ 2 w4 HS4.out (by simp) (by decide) (by simp)).mono ?_
    rintro e w5 ⟨rfl, qv5, Q5, hs5, hb5⟩
    have hN5 : setNd [(⟨n1, 1, true⟩ : Nd)] n1 (paintNd 2) = [⟨n1, 3, true⟩] := by simp [setNd, paintNd]
    rw [hN5] at hs5
    have HE : Hid (StartPost w sb ca cb (.returned (ptr wb)) w5) := hide ⟨wb, mb, qv5, _, _, Q5, _, rfl, hs5.mono HLB.out.1, HB4.out.trans (hb5.below HB4.out.size HLB.out.1), .inl ⟨HID.out, n1, rfl, rfl, rfl⟩⟩
    clear hs5 hb5 hN5 HS4 HS3 HB4
    go_wp2_with fail
    go_ret
    exact HE.out
  · have HID := hide hid
    clear hid
    go_wp2_with fail
    refine (nodeZ_miss B wb mb _ _ _ _ _ Q3 [] _ _ cb w3 HS3.out.ms (fun x hx => HID.out)).mono ?_
    rintro e w4 ⟨rfl, hm4, hb4⟩
    obtain ⟨n2, hn2⟩ : ∃ n2, n2 = w3.heap.size + 2 := ⟨_, rfl⟩
    rw [← hn2] at hm4 ⊢
    have hne : n1 ≠ n2 := by
      have := hm4.nodup
      simp at this
      exact this
    have hs4 : WS w4 B wb mb _ _ _ _ _ _ _ _ := ⟨by rw [unmk_snoc]; exact hm4, by rw [qd_snoc]; exact HS3.out.qperm⟩
    have HS4 := hide hs4
    have HB4 : Hid (Below w.heap.size w w4) := HB3.out.trans (hb4.below HB3.out.size HLB.out.1)
    clear hm4 hs4 hb4 x0 x1 x2 x3 x4 x5 x6 x7 HBB3 hn2
    go_wp2_with fail
    refine (paintZ_any B wb mb _ _ _ _ _ Q3 [] _ ⟨n2, 0, false⟩ 2 w4 HS4.out (by simp) (by decide) (by simp)).mono ?_
    rintro e w5 ⟨rfl, qv5, Q5, hs5, hb5⟩
    have hN5 : setNd ([(⟨n1, 1, true⟩ : Nd)] ++ [⟨n2, 0, false⟩]) n2 (paintNd 2) = [⟨n1, 1, true⟩, ⟨n2, 2, true⟩] := by simp [setNd, paintNd, hne]
    rw [hN5] at hs5
    have HE : Hid (StartPost w sb ca cb (.returned (ptr wb)) w5) := hide ⟨wb, mb, qv5, _, _, Q5, _, rfl, hs5.mono HLB.out.1, HB4.out.trans (hb5.below HB4.out.size HLB.out.1), .inr ⟨HID.out, n1, n2, rfl, by unfold upd; rw [if_neg hne], by unfold upd; rw [if_pos rfl], rfl⟩⟩
    clear hs5 hb5 hN5 HS4 HS3 HB4
    go_wp2_with fail
    go_ret
    exact HE.out
end Go.Proofs.Qxb6605835a
