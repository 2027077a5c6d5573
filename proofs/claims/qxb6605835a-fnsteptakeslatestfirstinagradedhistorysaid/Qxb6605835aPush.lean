import Derived.Test.Qxb6605835aDown
import Derived.Deep.AppendLies
import Derived.Deep.RegionLaw
namespace Go.Proofs.Qxb6605835a
open Go.ChangeShapes Go.WideShapes Go.ChangeAt Go.RowKit
set_option linter.unusedVariables false

theorem info62 : (Try.prog.info? 62).map (fun i => (i.zero, i.size, i.bytes)) = some (some (.pointer none), 1, 8) := by kernel_rfl

theorem assert62 (w : World) (a : Addr) : (Instr.typeAssert (.iface 62 (.pointer (some a))) 20 62 false).run Try.prog w = .ok (.pointer (some a)) w := by kernel_rfl

/-- The slice value v owns a row of pointers to the blocks l. -/
def Own (w : World) (B : Nat) (v : Value) (l : List Nat) : Prop := w.ownsRow B 62 1 v l.length (l.map ptr)

theorem Own.nil (w : World) (B : Nat) : Own w B (.slice none 0 0) [] := World.ownsRow_nil w B 62 1

theorem ownBlock_blk {w : World} {B : Nat} {v : Value} {l : List Nat} (h : Own w B v l) {g : Nat} (hg : v.ownBlock = some g) : ∃ cur, Blk w g 62 cur ∧ B ≤ g := by
  rcases h.2 with ⟨hv, _⟩ | ⟨g', cap, cur, hv, hb, hh, _⟩
  · rw [hv] at hg; simp [Value.ownBlock] at hg
  · rw [hv] at hg
    simp [Value.ownBlock] at hg
    subst hg
    exact ⟨cur, hh, hb⟩

theorem Own.kept {w w' : World} {B : Nat} {v : Value} {l : List Nat} {S : Nat → Prop} (h : Own w B v l) (hk : Keeps w w' S) (hs : ∀ g, v.ownBlock = some g → ¬ S g) : Own w' B v l := by
  refine ⟨h.1, ?_⟩
  rcases h.2 with hv | ⟨g, cap, cur, hv, hb, hh, hr⟩
  · exact .inl hv
  · refine .inr ⟨g, cap, cur, hv, hb, ?_, hr⟩
    exact Blk.kept (t := 62) hh hk (hs g (by rw [hv]; rfl))

theorem Keeps.of_grown {w w' : World} {row : Option Nat} (h : w.grownBy w' row) : Keeps w w' (fun k => row = some k) :=
  ⟨h.os, h.tape, h.output, h.size, fun k hk hs => h.block k hk (fun e => hs e.symm)⟩

theorem push_end {w w1 : World} {wb x B g cap : Nat} {arr : Array Value} {qv : Value} {l : List Nat} {o : Obj} (hb : Blk w wb 85 arr) (hq : Own w B qv l)
    (h : w1.ownsRow B 62 1 (.slice (some ⟨g, 0, none⟩) (l.length + 1) cap) (l.length + 1) (l.map ptr ++ [ptr x]) ∧ (w.alloc o).drew.grownBy w1 qv.ownBlock ∧ (qv.ownBlock = some g ∨ g = w.heap.size + 1)) :
    ∃ g' cap', (qv.ownBlock = some g' ∨ w.heap.size ≤ g') ∧ Own (w1.setCell ⟨wb, 2, none⟩ (.slice (some ⟨g, 0, none⟩) (l.length + 1) cap)) B (.slice (some ⟨g', 0, none⟩) (l.length + 1) cap') (l ++ [x]) ∧
      Blk (w1.setCell ⟨wb, 2, none⟩ (.slice (some ⟨g, 0, none⟩) (l.length + 1) cap)) wb 85 (arr.setIfInBounds 2 (.slice (some ⟨g', 0, none⟩) (l.length + 1) cap')) ∧ Keeps w (w1.setCell ⟨wb, 2, none⟩ (.slice (some ⟨g, 0, none⟩) (l.length + 1) cap)) (fun k => k = wb ∨ qv.ownBlock = some k) := by
  obtain ⟨hown, hgrow, hat⟩ := h
  have hk1 : Keeps w w1 (fun k => k = wb ∨ qv.ownBlock = some k) := ((Keeps.refl w _).alloc o).drew.trans ((Keeps.of_grown hgrow).mono (fun k _ h => .inr h))
  have hbw : ¬ qv.ownBlock = some wb := by
    intro e
    obtain ⟨cur, hcur, _⟩ := ownBlock_blk hq e
    exact hb.ne hcur (by decide) rfl
  have hb1 : Blk w1 wb 85 arr := (hb.alloc o).of_heap (hgrow.block wb (by have := hb.lt; simp; omega) (fun e => hbw e.symm))
  have hg : wb ≠ g := by
    rcases hat with h | h
    · intro e; exact hbw (e ▸ h)
    · have := hb.lt; omega
  refine ⟨g, cap, by rcases hat with h | h; exact .inl h; exact .inr (by omega), ?_, hb1.set 2 _, hk1.set wb 2 _ (.inl (.inl rfl))⟩
  have hO : Own w1 B (.slice (some ⟨g, 0, none⟩) (l.length + 1) cap) (l ++ [x]) := by
    unfold Own
    rw [List.map_append, List.length_append]
    exact hown
  refine hO.kept (S := fun k => k = wb) ((Keeps.refl _ _).set wb 2 _ (.inl rfl)) ?_
  intro g' hg' e
  simp [Value.ownBlock] at hg'
  omega

set_option maxHeartbeats 1000000 in
theorem pushM_any (wb x B : Nat) (arr : Array Value) (qv : Value) (l : List Nat) (w : World) (hb : Blk w wb 85 arr) (h2 : arr[2]? = some qv) (hown : Own w B qv l) (hB : B ≤ w.heap.size) (hlen : l.length ≤ 999999) :
    Calls Try.prog 83 #[.pointer (some ⟨wb, 2, none⟩), .iface 62 (ptr x)] w fun e w' => e = .returned (.tuple #[]) ∧ ∃ g cap, (qv.ownBlock = some g ∨ w.heap.size ≤ g) ∧ Own w' B (.slice (some ⟨g, 0, none⟩) (l.length + 1) cap) (l ++ [x]) ∧
      Blk w' wb 85 (arr.setIfInBounds 2 (.slice (some ⟨g, 0, none⟩) (l.length + 1) cap)) ∧ Keeps w w' (fun k => k = wb ∨ qv.ownBlock = some k) := by
  obtain ⟨i0, hi, hz0, hz1, hz2⟩ := info_parts info62
  have hc : w.cell? ⟨wb, 2, none⟩ = some qv := by rw [hb.cell, h2]
  have hf := hb.free 2
  have hlw : (⟨wb, 2, none⟩ : Addr).block < (w.alloc (.cells #[ptr x] 62)).heap.size := by have := hb.lt; simp; omega
  have hwq : some (⟨wb, 2, none⟩ : Addr).block ≠ qv.ownBlock := by
    intro e
    obtain ⟨cur, hcur, _⟩ := ownBlock_blk hown e.symm
    exact hb.ne hcur (by decide) rfl
  have hcw : (w.alloc (.cells #[ptr x] 62)).cell? ⟨wb, 2, none⟩ = some qv := by rw [(hb.alloc _).cell, h2]
  have hfw := (hb.alloc (.cells #[ptr x] 62)).free 2
  have HB := hide hb
  have HO := hide hown
  clear hb h2 hown
  have hta := fun w => assert62 w ⟨x, 0, none⟩
  go_enter Try.func83, Try.ntmps83
  go_wp2
  go_region_law ((refine step_append_lies _ rfl (.tmp 7) (.tmp 10) 83 rfl B 62 i0 (.pointer none) 1 8 Try.underlying83 hi hz0 hz1 hz2 rfl (by decide) qv l.length (l.map ptr) rfl (HO.out.alloc _) ⟨w.heap.size, 0, none⟩ 1 1 [ptr x] rfl rfl (World.news_of_block (Blk.new w 62 #[ptr x])) (by simp [Value.oneCell']) (by decide) (by unfold maxLen; omega) (by omega) (by simp; omega) (w.heap.size + 1) (by simp) ?_; intro g cap w1 hown hgrow hat hlt; have hc1 := (hgrow.cell_far ⟨wb, 2, none⟩ hlw hwq).trans hcw; have hf1 := (hgrow.frozen_far ⟨wb, 2, none⟩ hlw hwq).trans hfw; have HG := hide (And.intro hown (And.intro hgrow hat)); clear hown hgrow hat hlt))
  all_goals (go_end0; exact ⟨rfl, push_end HB.out HO.out HG.out⟩)

/-- From an owned slice to its row. -/
theorem Own.row {w : World} {B g n cap : Nat} {l : List Nat} (h : Own w B (.slice (some ⟨g, 0, none⟩) n cap) l) : n = l.length ∧ QRow w g cap l ∧ cap ≤ maxLen ∧ B ≤ g := by
  rcases h.2 with ⟨hv, _⟩ | ⟨g', cap', cur, hv, hb, hh, hn, hm, hs, ht⟩
  · simp at hv
  · simp at hv
    obtain ⟨rfl, rfl, rfl⟩ := hv
    refine ⟨rfl, ⟨cur.toList.drop l.length, ?_, ?_⟩, hm, hb⟩
    · have e : (l.map ptr ++ cur.toList.drop l.length).toArray = cur := by
        rw [← ht, Nat.mul_one, List.take_append_drop, Array.toArray_toList]
      rw [e]
      exact hh
    · simp
      omega

theorem QRow.own {w : World} {B g cap : Nat} {l : List Nat} (h : QRow w g cap l) (hm : cap ≤ maxLen) (hB : B ≤ g) : Own w B (.slice (some ⟨g, 0, none⟩) l.length cap) l := by
  obtain ⟨rest, hb, hl⟩ := h
  refine ⟨by simp, .inr ⟨g, cap, _, rfl, hB, hb, by omega, hm, by simp; omega, ?_⟩⟩
  simp

set_option maxHeartbeats 1000000 in
theorem hpush_any (wb x B : Nat) (K : Nat → Cm) (arr : Array Value) (qv : Value) (l : List Nat) (w : World) (hb : Blk w wb 85 arr) (ha : arr.size = 6) (h2 : arr[2]? = some qv) (hown : Own w B qv l) (hB : B ≤ w.heap.size) (hlen : l.length ≤ 999999)
    (hn : Nodes w K l) (hx : IsNode w x (K x)) (hh : HeapN (ltK K) l l.length) :
    Calls Try.prog 56 #[.iface 99 (.pointer (some ⟨wb, 2, none⟩)), .iface 62 (ptr x)] w fun e w' => e = .returned (.tuple #[]) ∧ ∃ g cap l', l'.Perm (l ++ [x]) ∧ HeapN (ltK K) l' l'.length ∧ (qv.ownBlock = some g ∨ w.heap.size ≤ g) ∧ Own w' B (.slice (some ⟨g, 0, none⟩) l'.length cap) l' ∧
      Blk w' wb 85 (arr.setIfInBounds 2 (.slice (some ⟨g, 0, none⟩) l'.length cap)) ∧ Keeps w w' (fun k => k = wb ∨ qv.ownBlock = some k) := by
  have hm := mPush ⟨wb, 2, none⟩ w
  have HB := hide hb
  have HO := hide hown
  have HN := hide hn
  have HX := hide hx
  have HH := hide hh
  have H2 := hide h2
  have HA := hide ha
  clear hb hown hn hx hh h2 ha
  go_enter Try.func56, Try.ntmps56
  go_wp2_with fail
  refine (pushM_any wb x B arr qv l w HB.out H2.out HO.out hB hlen).mono ?_
  rintro e w1 ⟨rfl, g, cap, hat, hown1, hb1, hk1⟩
  obtain ⟨hnl, hrow1, hcap, hBg⟩ := hown1.row
  have hbw : ¬ qv.ownBlock = some wb := by
    intro e
    obtain ⟨cur, hcur, _⟩ := ownBlock_blk HO.out e
    exact HB.out.ne hcur (by decide) rfl
  have hc1 : w1.cell? ⟨wb, 2, none⟩ = some (.slice (some ⟨g, 0, none⟩) (l.length + 1) cap) := by
    rw [hb1.cell]
    have := HA.out
    simp [this]
  have hns : ∀ b c, IsNode w b c → IsNode w1 b c := fun b c h => h.kept hk1 (by
    obtain ⟨p, q, hbn⟩ := h
    rintro (e | e)
    · exact hbn.ne HB.out (by decide) e
    · obtain ⟨cur, hcur, _⟩ := ownBlock_blk HO.out e
      exact hbn.ne hcur (by decide) rfl)
  have hq1 : QS w1 wb g cap K (l ++ [x]) := by
    refine ⟨⟨_, hb1, ?_⟩, hrow1, fun b hb' => ?_⟩
    · have := HA.out
      simp [this]
    · rcases List.mem_append.1 hb' with h | h
      · exact hns _ _ (HN.out b h)
      · simp at h
        subst h
        exact hns _ _ HX.out
  have HQ1 := hide hq1
  have HP := hide (And.intro hat (And.intro hb1 (And.intro hk1 (And.intro hcap hBg))))
  have hmL := mLen ⟨wb, 2, none⟩ _ w1 hc1
  clear hown1 hrow1 hb1 hk1 hat hnl hcap hBg hq1 hbw hns hc1
  go_wp2_with (go_at_call 77; refine (len_any _ _ _ _).mono ?_; rintro e w2 ⟨rfl, rfl⟩)
  refine (up_any wb g cap l.length K (l ++ [x]) w1 HQ1.out (by simp; omega) (by simp) (push_inv HH.out x)).mono ?_
  rintro e w2 ⟨rfl, l', hp, hh', hq2, hk2⟩
  have HE : Hid (∃ g cap l', l'.Perm (l ++ [x]) ∧ HeapN (ltK K) l' l'.length ∧ (qv.ownBlock = some g ∨ w.heap.size ≤ g) ∧ Own w2 B (.slice (some ⟨g, 0, none⟩) l'.length cap) l' ∧
      Blk w2 wb 85 (arr.setIfInBounds 2 (.slice (some ⟨g, 0, none⟩) l'.length cap)) ∧ Keeps w w2 (fun k => k = wb ∨ qv.ownBlock = some k)) := hide <| by
    obtain ⟨hat, hb1, hk1, hcap, hBg⟩ := HP.out
    have hll : l'.length = l.length + 1 := by rw [hp.length_eq]; simp
    refine ⟨g, cap, l', hp, hh', hat, hq2.row.own hcap hBg, ?_, hk1.then hk2 ?_⟩
    · rw [hll]
      exact hb1.kept hk2 (HQ1.out.row.ne hb1 (by decide))
    · intro k hk e
      rcases hat with h | h
      · exact .inr (e ▸ h)
      · omega
  clear hp hh' hq2 hk2
  go_wp2_with fail
  go_end0
  exact ⟨rfl, HE.out⟩

end Go.Proofs.Qxb6605835a
