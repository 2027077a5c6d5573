import Derived.Test.Qxb6605835aStepC
import Derived.Carry
namespace Go.Proofs.Qxb6605835a
open Go.ChangeShapes Go.WideShapes Go.ChangeAt Go.RowKit
set_option linter.unusedVariables false

theorem queue_any (wb : Nat) (v : Value) (w : World) (h : w.cell? ⟨wb, 2, none⟩ = some v) : Calls Try.prog 25 #[ptr wb] w fun e w' => e = .returned v ∧ w = w' := by
  go_enter Try.func25, Try.ntmps25
  go_wp2
  go_ret
  exact ⟨rfl, rfl⟩
theorem unmarked_any (wb : Nat) (v : Value) (w : World) (h : w.cell? ⟨wb, 3, none⟩ = some v) : Calls Try.prog 26 #[ptr wb] w fun e w' => e = .returned v ∧ w = w' := by
  go_enter Try.func26, Try.ntmps26
  go_wp2
  go_ret
  exact ⟨rfl, rfl⟩
theorem ungraded_any (wb : Nat) (v : Value) (w : World) (h : w.cell? ⟨wb, 5, none⟩ = some v) : Calls Try.prog 17 #[ptr wb] w fun e w' => e = .returned v ∧ w = w' := by
  go_enter Try.func17, Try.ntmps17
  go_wp2
  go_ret
  exact ⟨rfl, rfl⟩
theorem candidates_any (wb : Nat) (v : Value) (w : World) (h : w.cell? ⟨wb, 4, none⟩ = some v) : Calls Try.prog 18 #[ptr wb] w fun e w' => e = .returned v ∧ w = w' := by
  go_enter Try.func18, Try.ntmps18
  go_wp2
  go_ret
  exact ⟨rfl, rfl⟩
theorem nodePaint_any (b : Nat) (v : Value) (w : World) (h : w.cell? ⟨b, 8, none⟩ = some v) : Calls Try.prog 33 #[ptr b] w fun e w' => e = .returned v ∧ w = w' := by
  go_enter Try.func33, Try.ntmps33
  go_wp2
  go_ret
  exact ⟨rfl, rfl⟩
theorem nodeQueued_any (b : Nat) (v : Value) (w : World) (h : w.cell? ⟨b, 9, none⟩ = some v) : Calls Try.prog 31 #[ptr b] w fun e w' => e = .returned v ∧ w = w' := by
  go_enter Try.func31, Try.ntmps31
  go_wp2
  go_ret
  exact ⟨rfl, rfl⟩

/-- A return of a struct that lies in block b. -/
theorem ret29 {Q : Ending → World → Prop} {W' : World} {b : Nat} {tm : Array Value} (c : Cm) (h4 : tm[2]?.getD undef = .pointer (some ⟨b, 0, none⟩))
    (hb : Blk W' b 39 #[.string c.id, .slice c.pa c.pn c.pc, .string c.com, .string c.msg, .int .i64 c.cr, .map none, .string c.mr, .int .i64 c.gen]) (hQ : Q (.returned (cval c)) W') :
    bodyPost Try.prog Try.f29 Q Exit.ret { tmps := tm, defers := [] } W' := by
  obtain ⟨⟨r0, r1, r2, r3, r4, r5, r6, r7⟩, -⟩ := cells8 hb
  exact bodyPost_ret (v := cval c) (by simp [results, Try.results29, go_sem, h4, r0, r1, r2, r3, r4, r5, r6, r7]) rfl hQ

theorem below8 {w w1 : World} {b : Nat} (h : Below w.heap.size w w1) (hb : w.heap.size ≤ b) (v0 v1 v2 v3 v4 v5 v6 v7 : Value) :
    Below w.heap.size w ((((((((w1.setCell ⟨b, 0, none⟩ v0).setCell ⟨b, 1, none⟩ v1).setCell ⟨b, 2, none⟩ v2).setCell ⟨b, 3, none⟩ v3).setCell ⟨b, 4, none⟩ v4).setCell ⟨b, 5, none⟩ v5).setCell ⟨b, 6, none⟩ v6).setCell ⟨b, 7, none⟩ v7) :=
  (((((((h.setCell hb _).setCell hb _).setCell hb _).setCell hb _).setCell hb _).setCell hb _).setCell hb _).setCell hb _

set_option maxHeartbeats 1000000 in
theorem nodeCommit_any (b : Nat) (c : Cm) (w : World) (h : IsNode w b c) : Calls Try.prog 29 #[ptr b] w fun e w' => e = .returned (cval c) ∧ Below w.heap.size w w' := by
  obtain ⟨x0, x1, x2, x3, x4, x5, x6, x7⟩ := (h.below ((Below.refl _ _).alloc (Nat.le_refl _) (.cells zeroC 39))).cells
  clear h
  go_enter Try.func29, Try.ntmps29
  go_wp2
  exact ret29 c rfl (Blk.new w 39 _) ⟨rfl, (Below.refl _ _).alloc (Nat.le_refl _) _⟩

set_option maxHeartbeats 1000000 in
theorem nodeOf_hit (wb mb : Nat) (K : Nat → Cm) (N : List Nd) (s : ByteArray) (x : Nd) (w : World) (h1 : w.cell? ⟨wb, 1, none⟩ = some (.map (some mb))) (hm : IsMap w mb K N) (hx : x ∈ N) (hs : (K x.b).id = s) (hu : ∀ y ∈ N, (K y.b).id = s → y.b = x.b) :
    Calls Try.prog 42 #[ptr wb, .string s] w fun e w' => e = .returned (.tuple #[ptr x.b, .bool true]) ∧ Below w.heap.size w w' := by
  have hlk := lookup_hit w mb K N s hm x hx hs hu
  clear hm hx hs hu
  go_enter Try.func42, Try.ntmps42
  go_wp2
  refine bodyPost_ret (v := .tuple #[ptr x.b, .bool true]) (by simp [results, Try.results42, go_sem]) rfl ⟨rfl, ?_⟩
  exact Below.refl _ _

set_option maxHeartbeats 1000000 in
theorem nodeOf_miss (wb mb : Nat) (K : Nat → Cm) (N : List Nd) (s : ByteArray) (w : World) (h1 : w.cell? ⟨wb, 1, none⟩ = some (.map (some mb))) (hm : IsMap w mb K N) (hn : ∀ x ∈ N, (K x.b).id ≠ s) :
    Calls Try.prog 42 #[ptr wb, .string s] w fun e w' => e = .returned (.tuple #[.pointer none, .bool false]) ∧ Below w.heap.size w w' := by
  have hlk := lookup_miss w mb K N s hm hn
  clear hm hn
  go_enter Try.func42, Try.ntmps42
  go_wp2
  refine bodyPost_ret (v := .tuple #[.pointer none, .bool false]) (by simp [results, Try.results42, go_sem]) rfl ⟨rfl, ?_⟩
  exact Below.refl _ _

theorem ents_len (K : Nat → Cm) : ∀ (N : List Nd) (i : Nat), (ents K i N).length = N.length
  | [], _ => rfl
  | x :: r, i => by simp [ents, ents_len K r]

set_option maxHeartbeats 1000000 in
theorem nodeCount_any (wb mb : Nat) (K : Nat → Cm) (N : List Nd) (w : World) (h1 : w.cell? ⟨wb, 1, none⟩ = some (.map (some mb))) (hm : IsMap w mb K N) :
    Calls Try.prog 43 #[ptr wb] w fun e w' => e = .returned (.int .i64 N.length) ∧ w = w' := by
  have hl : ∀ ty, (Builtin.len_ #[82] ty #[.map (some mb)]).run Try.prog w = .ok (.int .i64 N.length) w := fun ty => by
    simp [Builtin.len_, run_underlying Try.underlying82, MapKept.run_getObj_map hm, ents_len, goInt]
  clear hm
  go_enter Try.func43, Try.ntmps43
  go_wp2
  go_ret
  exact ⟨rfl, rfl⟩

set_option maxHeartbeats 400000 in
theorem key_any (c : Cm) (w : World) :
    Calls Try.prog 28 #[cval c] w fun e w' => e = .returned (.int .i64 c.key) ∧ Below w.heap.size w w' := by
  obtain ⟨id, pa, pn, pc, ps, com, msg, cr, mr, gen⟩ := c
  by_cases h : gen = 0
  · subst h
    have HK : Hid (Cm.key ⟨id, pa, pn, pc, ps, com, msg, cr, mr, 0⟩ = cr) := rfl
    go_enter Try.func28, Try.ntmps28
    go_wp2
    go_ret
    exact ⟨ret_int HK.out.symm, (Below.refl _ _).alloc (Nat.le_refl _) _⟩
  · have HK : Hid (Cm.key ⟨id, pa, pn, pc, ps, com, msg, cr, mr, gen⟩ = gen) := if_neg h
    have hn : (gen != 0) = true := by simpa using h
    clear h
    go_enter Try.func28, Try.ntmps28
    go_wp2
    go_ret
    exact ⟨ret_int HK.out.symm, (Below.refl _ _).alloc (Nat.le_refl _) _⟩

/-- The candidates not marked. -/
def ucand (N : List Nd) (C : List Nat) : Nat := (C.filter (fun b => N.any (fun x => x.b == b && (x.p &&& 4 == 0)))).length

theorem Own.cell {w : World} {B g n cap : Nat} {l : List Nat} (h : Own w B (.slice (some ⟨g, 0, none⟩) n cap) l) (i : Nat) (hi : i < l.length) : w.cell? ⟨g, i, none⟩ = some (ptr l[i]) := by
  obtain ⟨hn, ⟨rest, hb, hr⟩, _⟩ := h.row
  rw [Blk.cell hb i]
  simp [hi, List.getElem?_append_left]

/-- Where a node lies. -/
theorem MS.at {w : World} {B : Nat → Prop} {wb mb : Nat} {fnv qv cv : Value} {K : Nat → Cm} {N : List Nd} {Q C : List Nat} {u : Int} {ung : Bool} (h : MS w B wb mb fnv K N qv cv Q C u ung) {x : Nd} (hx : x ∈ N) : IsNode w x.b (K x.b) ∧ w.cell? ⟨x.b, 8, none⟩ = some (.int .i64 x.p) ∧ w.cell? ⟨x.b, 9, none⟩ = some (.bool x.q) :=
  ⟨⟨_, _, h.nd x hx⟩, (h.nd x hx).cell 8, (h.nd x hx).cell 9⟩

theorem ucand_snoc {N : List Nd} (hn : (N.map (·.b)).Nodup) {x : Nd} (hx : x ∈ N) (l : List Nat) : ucand N (l ++ [x.b]) = ucand N l + (x.p &&& 4 == 0).toNat := by
  have h : N.any (fun y => y.b == x.b && (y.p &&& 4 == 0)) = (x.p &&& 4 == 0) := by
    cases e : (x.p &&& 4 == 0) with
    | true => rw [List.any_eq_true]; exact ⟨x, hx, by simp only [beq_self_eq_true, Bool.true_and]; exact e⟩
    | false =>
      rw [List.any_eq_false]
      intro y hy h
      rw [Bool.and_eq_true, beq_iff_eq] at h
      have : y = x := by
        obtain ⟨i, hi, rfl⟩ := List.mem_iff_getElem.1 hx
        obtain ⟨j, hj, rfl⟩ := List.mem_iff_getElem.1 hy
        have := (List.getElem_inj (h₀ := by simpa using hj) (h₁ := by simpa using hi) hn).1 (by simpa using h.1)
        subst this
        rfl
      rw [this, e] at h
      exact absurd h.2 (by decide)
  unfold ucand
  rw [List.filter_append, List.length_append]
  congr 1
  simp only [List.filter_cons, List.filter_nil, h]
  cases (x.p &&& 4 == 0) <;> rfl

theorem ucand_le (N : List Nd) (l : List Nat) : ucand N l ≤ l.length := List.length_filter_le _ _

set_option maxHeartbeats 1000000 in
theorem ucand_some {w : World} {B : Nat → Prop} {wb mb g cap : Nat} {fnv qv : Value} {K : Nat → Cm} {N : List Nd} {Q C : List Nat} {u : Int} {ung : Bool} (h : MS w B wb mb fnv K N qv (.slice (some ⟨g, 0, none⟩) C.length cap) Q C u ung) (hc : ∀ b ∈ C, ∃ x ∈ N, x.b = b) (hl : C.length ≤ 900000) :
    Calls Try.prog 54 #[ptr wb] w fun e w' => e = .returned (.int .i64 (ucand N C)) ∧ w = w' := by
  obtain ⟨-, -, -, -, q4, -⟩ := h.cells
  have HS := hide h
  have HC := hide hc
  clear h hc
  obtain ⟨n, hn⟩ : ∃ n, n = C.length := ⟨_, rfl⟩
  rw [← hn] at q4 hl
  have HN := hide hn
  have HZ : Hid (ucand N (C.take 0) = 0) := rfl
  clear hn
  go_enter Try.func54, Try.ntmps54
  go_wp2
  go_loop [3, 11] (fun s i => ∃ k : Nat, k ≤ n ∧ i = .int .i64 k ∧ ∃ t : Nat, s = .int .i64 t ∧ t ≤ k ∧ Hid (t = ucand N (C.take k))) (fun _ i => n - (intOf i).toNat)
  case atStart => exact ⟨0, Nat.zero_le _, rfl, 0, rfl, Nat.le_refl _, HZ.out.symm⟩
  case round =>
    obtain ⟨k, hk, rfl, t, rfl, htk, HT⟩ := hrel
    by_cases hlt : k < n
    · have hkC : k < C.length := by have := HN.out; omega
      obtain ⟨x, hx, hxb⟩ := HC.out C[k] (List.getElem_mem hkC)
      have c1 := HS.out.cown.cell k hkC
      rw [← hxb] at c1
      obtain ⟨-, c8, -⟩ := HS.out.at hx
      have hp8 := HS.out.p8 x hx
      have ha4 : bits BinOp.and IntKind.i64 (x.p : Int) 4 = ((x.p &&& 4 : Nat) : Int) := and_i64 x.p 4 hp8 (by decide)
      have HT' : Hid (ucand N (C.take (k + 1)) = t + (x.p &&& 4 == 0).toNat) := hide (by
        rw [List.take_succ_eq_append_getElem hkC, ← hxb, ucand_snoc HS.out.nodup hx, ← HT.out])
      clear hx hxb
      by_cases h4 : x.p &&& 4 = 0
      · have z4 : (((x.p &&& 4 : Nat) : Int) == 0) = true := by rw [h4]; rfl
        have HT2 : Hid (t + 1 = ucand N (C.take (k + 1))) := hide (by rw [HT'.out, h4]; rfl)
        clear h4 HT' HT
        go_wp2
        go_round
        case rel => exact ⟨k + 1, by omega, by go_num, t + 1, by go_num, by omega, HT2.out⟩
        case measure => simp [intOf]; omega
      · have z4 : (((x.p &&& 4 : Nat) : Int) == 0) = false := by rw [beq_eq_false_iff_ne]; omega
        have HT2 : Hid (t = ucand N (C.take (k + 1))) := hide (by
          have : (x.p &&& 4 == 0) = false := by rw [beq_eq_false_iff_ne]; exact h4
          rw [HT'.out, this]; rfl)
        clear h4 HT' HT
        go_wp2
        go_round
        case rel => exact ⟨k + 1, by omega, by go_num, t, by go_num, by omega, HT2.out⟩
        case measure => simp [intOf]; omega
    · have HE : Hid (t = ucand N C) := hide (by
        rw [HT.out, List.take_of_length_le (by have := HN.out; omega)])
      go_wp2
      go_ret
      exact ⟨ret_int (by rw [HE.out]), rfl⟩

set_option maxHeartbeats 1000000 in
theorem ucand_nil (wb : Nat) (N : List Nd) (w : World) (h : w.cell? ⟨wb, 4, none⟩ = some (.slice none 0 0)) :
    Calls Try.prog 54 #[ptr wb] w fun e w' => e = .returned (.int .i64 (ucand N [])) ∧ w = w' := by
  have HE : Hid (ucand N [] = 0) := rfl
  go_enter Try.func54, Try.ntmps54
  go_wp2
  refine wp_loop_rounds 1 ?_
  rw [rounds_succ]
  go_wp2
  go_ret
  exact ⟨ret_int (by rw [HE.out]; rfl), rfl⟩

theorem ucand54 {w : World} {B : Nat → Prop} {wb mb : Nat} {fnv qv cv : Value} {K : Nat → Cm} {N : List Nd} {Q C : List Nat} {u : Int} {ung : Bool} (h : MS w B wb mb fnv K N qv cv Q C u ung) (hc : ∀ b ∈ C, ∃ x ∈ N, x.b = b) (hl : C.length ≤ 900000) :
    Calls Try.prog 54 #[ptr wb] w fun e w' => e = .returned (.int .i64 (ucand N C)) ∧ w = w' := by
  rcases h.cown.2 with ⟨hv, h0⟩ | ⟨g, cap, cur, hv, _⟩
  · subst hv
    cases C with
    | nil => exact ucand_nil wb N w h.cells.2.2.2.2.1
    | cons a l => simp at h0
  · subst hv
    exact ucand_some h hc hl

set_option maxHeartbeats 1000000 in
theorem ucand_any {w : World} {B : Nat → Prop} {wb mb : Nat} {fnv qv cv : Value} {K : Nat → Cm} {N : List Nd} {Q C : List Nat} {u : Int} {ung : Bool} (h : MS w B wb mb fnv K N qv cv Q C u ung) (hc : ∀ b ∈ C, ∃ x ∈ N, x.b = b) (hl : C.length ≤ 900000) :
    Calls Try.prog 44 #[ptr wb] w fun e w' => e = .returned (.int .i64 (ucand N C)) ∧ w = w' := by
  have HC := hide (ucand54 h hc hl)
  clear h hc hl
  go_enter Try.func44, Try.ntmps44
  go_wp2_with fail
  refine HC.out.mono ?_
  rintro e w1 ⟨rfl, rfl⟩
  go_wp2_with fail
  go_ret
  exact ⟨rfl, rfl⟩
end Go.Proofs.Qxb6605835a
