import Derived.Test.Qxb6605835aShims
namespace Go.Proofs.Qxb6605835a
open Go.ChangeShapes Go.WideShapes Go.ChangeAt Go.RowKit
set_option linter.unusedVariables false

/-- Whether the walk goes on. -/
def goesOn (N : List Nd) (C : List Nat) (ung : Bool) : Bool := decide (0 < unmk N) || (ung && decide (0 < (qd N).length) && decide (1 < ucand N C))

set_option maxHeartbeats 1000000 in
theorem goesOn_any {w : World} {B : Nat → Prop} {wb mb : Nat} {fnv qv cv : Value} {K : Nat → Cm} {N : List Nd} {Q C : List Nat} {ung : Bool} (h : WS w B wb mb fnv K N qv cv Q C ung) (hc : ∀ b ∈ C, ∃ x ∈ N, x.b = b) (hl : C.length ≤ 900000) :
    Calls Try.prog 20 #[ptr wb] w fun e w' => e = .returned (.bool (goesOn N C ung)) ∧ w = w' := by
  obtain ⟨-, -, q2, q3, q4, q5⟩ := h.ms.cells
  obtain ⟨qa, qc, hqv⟩ : ∃ qa qc, qv = .slice qa Q.length qc := by
    rcases h.ms.qown.2 with ⟨hv, h0⟩ | ⟨g, cap, cur, hv, _⟩
    · exact ⟨none, 0, by rw [hv, h0]⟩
    · exact ⟨_, cap, hv⟩
  subst hqv
  have HU := hide (unmarked_any wb _ w q3)
  have HG := hide (ungraded_any wb _ w q5)
  have HQ := hide (queue_any wb _ w q2)
  have HUC := hide (ucand_any h.ms hc hl)
  have HL : Hid ((qd N).length = Q.length) := h.qperm.length_eq.symm
  clear h hc q2 q3 q4 q5
  by_cases hu : 0 < unmk N
  · have d1 : decide ((0 : Int) < ((unmk N : Nat) : Int)) = true := by simp; omega
    have HR : Hid (goesOn N C ung = true) := hide (by unfold goesOn; simp [hu])
    go_enter Try.func20, Try.ntmps20
    go_wp2_with fail
    refine HU.out.mono ?_
    rintro e w1 ⟨rfl, rfl⟩
    go_wp2_with fail
    go_ret
    exact ⟨ret_bool HR.out.symm, rfl⟩
  · have d1 : decide ((0 : Int) < ((unmk N : Nat) : Int)) = false := by simp; omega
    have HR : Hid (goesOn N C ung = (ung && decide (0 < (qd N).length) && decide (1 < ucand N C))) := hide (by unfold goesOn; simp [hu])
    cases ung with
    | false =>
      go_enter Try.func20, Try.ntmps20
      go_wp2_with fail
      refine HU.out.mono ?_
      rintro e w1 ⟨rfl, rfl⟩
      go_wp2_with fail
      refine HG.out.mono ?_
      rintro e w1 ⟨rfl, rfl⟩
      go_wp2_with fail
      go_ret
      exact ⟨ret_bool (by rw [HR.out]; rfl), rfl⟩
    | true =>
      by_cases hq : 0 < Q.length
      · have d2 : decide ((0 : Int) < ((Q.length : Nat) : Int)) = true := by simp; omega
        have HR2 : Hid (goesOn N C true = decide ((1 : Int) < ((ucand N C : Nat) : Int))) := hide (by rw [HR.out, HL.out]; simp [hq]; omega)
        go_enter Try.func20, Try.ntmps20
        go_wp2_with fail
        refine HU.out.mono ?_
        rintro e w1 ⟨rfl, rfl⟩
        go_wp2_with fail
        refine HG.out.mono ?_
        rintro e w1 ⟨rfl, rfl⟩
        go_wp2_with fail
        refine HQ.out.mono ?_
        rintro e w1 ⟨rfl, rfl⟩
        go_wp2_with fail
        refine HUC.out.mono ?_
        rintro e w1 ⟨rfl, rfl⟩
        go_wp2_with fail
        go_ret
        exact ⟨ret_bool (by rw [HR2.out]), rfl⟩
      · have d2 : decide ((0 : Int) < ((Q.length : Nat) : Int)) = false := decide_eq_false (by omega)
        have HR2 : Hid (goesOn N C true = false) := hide (by rw [HR.out, HL.out, show decide (0 < Q.length) = false from decide_eq_false hq]; rfl)
        go_enter Try.func20, Try.ntmps20
        go_wp2_with fail
        refine HU.out.mono ?_
        rintro e w1 ⟨rfl, rfl⟩
        go_wp2_with fail
        refine HG.out.mono ?_
        rintro e w1 ⟨rfl, rfl⟩
        go_wp2_with fail
        refine HQ.out.mono ?_
        rintro e w1 ⟨rfl, rfl⟩
        go_wp2_with fail
        go_ret
        exact ⟨ret_bool (by rw [HR2.out]), rfl⟩

theorem stepZ_any (w0 : World) (B : Nat → Prop) (wb mb sb tc : Nat) (ta : Option Addr) (qv cv : Value) (K : Nat → Cm) (N : List Nd) (Q C : List Nat) (ung : Bool) (T : List Cm) (x : Nd) (w : World)
    (hs : WS w B wb mb (.func (.func 39) #[.pointer (some ⟨sb, 0, none⟩)] #[]) K N qv cv Q C ung) (hBM : ∀ k, B k → w0.heap.size ≤ k) (hb0 : Below w0.heap.size w0 w) (hst : Store w0 sb ta tc T) (hpT : ∀ c ∈ T, Par w0 c) (hpN : ∀ y ∈ N, Par w0 (K y.b))
    (hl : 0 < Q.length) (hx : x ∈ N) (hxb : x.b = nth Q 0) (hxq : x.q = true) (hlen : N.length + (K x.b).ps.length ≤ 900000) (hC : C.length ≤ 900000) :
    Calls Try.prog 30 #[.pointer (some ⟨wb, 0, none⟩)] w fun e w' => e = .returned .nilIface ∧ StepPost w0 w B wb mb (.func (.func 39) #[.pointer (some ⟨sb, 0, none⟩)] #[]) K N C ung T x w' := by
  have HC := hide (step_any w0 B wb mb sb tc ta qv cv K N Q C ung T x w hs hBM hb0 hst hpT hpN hl hx hxb hxq hlen hC)
  clear hs hBM hb0 hst hpT hpN hl hx hxb hxq hlen hC
  go_enter Try.func30, Try.ntmps30
  go_wp2_with fail
  refine HC.out.mono ?_
  rintro e w1 ⟨rfl, h⟩
  go_wp2_with fail
  go_ret
  exact ⟨rfl, h⟩

theorem paintZ_any (B : Nat → Prop) (wb mb : Nat) (fnv qv cv : Value) (K : Nat → Cm) (N : List Nd) (Q C : List Nat) (ung : Bool) (x : Nd) (pt : Nat) (w : World) (hs : WS w B wb mb fnv K N qv cv Q C ung) (hx : x ∈ N) (hpt : pt < 8) (hlen : N.length ≤ 900000) :
    Calls Try.prog 40 #[.pointer (some ⟨wb, 0, none⟩), ptr x.b, .int .i64 pt] w fun e w' => e = .returned (.tuple #[]) ∧ PaintPost w B wb mb fnv cv K N C ung x.b pt w' := by
  have HC := hide (paint_any B wb mb fnv qv cv K N Q C ung x pt w hs hx hpt hlen)
  clear hs hx hpt hlen
  go_enter Try.func40, Try.ntmps40
  go_wp2_with fail
  refine HC.out.mono ?_
  rintro e w1 ⟨rfl, h⟩
  go_wp2_with fail
  go_end0
  exact ⟨rfl, h⟩

set_option maxHeartbeats 1000000 in
theorem nodeZ_hit (B : Nat → Prop) (wb mb : Nat) (fnv qv cv : Value) (K : Nat → Cm) (N : List Nd) (Q C : List Nat) (u : Int) (ung : Bool) (c : Cm) (x : Nd) (w : World) (hs : MS w B wb mb fnv K N qv cv Q C u ung) (hx : x ∈ N) (hid : (K x.b).id = c.id) :
    Calls Try.prog 41 #[.pointer (some ⟨wb, 0, none⟩), cval c] w fun e w' => e = .returned (ptr x.b) ∧ Below w.heap.size w w' := by
  have hb6 : Below w.heap.size w (w.alloc (boxed c)) := (Below.refl _ _).alloc (Nat.le_refl _) _
  have HC := hide (node_hit B wb mb fnv qv cv K N Q C u ung c x _ (hs.below hb6) hx hid)
  have HB := hide hb6
  clear hs hx hid hb6
  go_enter Try.func41, Try.ntmps41
  go_wp2_with fail
  refine HC.out.mono ?_
  rintro e w1 ⟨rfl, h⟩
  go_wp2_with fail
  go_ret
  exact ⟨rfl, after HB.out h⟩

set_option maxHeartbeats 1000000 in
theorem nodeZ_miss (B : Nat → Prop) (wb mb : Nat) (fnv qv cv : Value) (K : Nat → Cm) (N : List Nd) (Q C : List Nat) (u : Int) (ung : Bool) (c : Cm) (w : World) (hs : MS w B wb mb fnv K N qv cv Q C u ung) (hno : ∀ x ∈ N, (K x.b).id ≠ c.id) :
    Calls Try.prog 41 #[.pointer (some ⟨wb, 0, none⟩), cval c] w fun e w' => e = .returned (ptr (w.heap.size + 2)) ∧
      MS w' B wb mb fnv (upd K (w.heap.size + 2) c) (N ++ [⟨w.heap.size + 2, 0, false⟩]) qv cv Q C u (ung || decide (c.gen = 0)) ∧ Keeps w w' B := by
  have hb6 : Below w.heap.size w (w.alloc (boxed c)) := (Below.refl _ _).alloc (Nat.le_refl _) _
  have hm6 := hs.below hb6
  have HC := hide (node_miss B wb mb fnv qv cv K N Q C u ung c _ hm6 hno)
  rw [World.size_alloc] at HC
  have HB : Hid (∀ w', Keeps (w.alloc (boxed c)) w' (fun k => k = wb ∨ k = mb) → Keeps w w' B) := hide fun w' hk => (Keeps.of_below hb6 B).trans (hm6.belowB hk (fun k e => by
    rcases e with e | e
    · exact e ▸ hs.bw
    · exact e ▸ hs.bm))
  clear hs hno hb6 hm6
  go_enter Try.func41, Try.ntmps41
  go_wp2_with fail
  refine HC.out.mono ?_
  rintro e w1 ⟨rfl, h, hk⟩
  have HK := hide (And.intro h (HB.out _ hk))
  clear h hk
  go_wp2_with fail
  go_ret
  exact ⟨rfl, HK.out⟩

set_option maxHeartbeats 1000000 in
theorem newWalk_any (sb : Nat) (K : Nat → Cm) (w : World) :
    Calls Try.prog 38 #[.func (.func 39) #[.pointer (some ⟨sb, 0, none⟩)] #[]] w fun e w' => e = .returned (ptr (w.heap.size + 1)) ∧ WS w' (fun k => w.heap.size ≤ k) (w.heap.size + 1) w.heap.size (.func (.func 39) #[.pointer (some ⟨sb, 0, none⟩)] #[]) K [] (.slice none 0 0) (.slice none 0 0) [] [] false ∧ Below w.heap.size w w' := by
  have hmm := @run_makeMap Try.prog
  have HE : Hid (∀ w', w' = ((w.alloc (.map #[] 0)).alloc (.cells #[.func (.func 39) #[.pointer (some ⟨sb, 0, none⟩)] #[], .map (some w.heap.size), .slice none 0 0, .int .i64 0, .slice none 0 0, .bool false] 85)) → WS w' (fun k => w.heap.size ≤ k) (w.heap.size + 1) w.heap.size (.func (.func 39) #[.pointer (some ⟨sb, 0, none⟩)] #[]) K [] (.slice none 0 0) (.slice none 0 0) [] [] false ∧ Below w.heap.size w w') := hide (by
    rintro w' rfl
    have hb := Blk.new (w.alloc (.map #[] 0)) 85 #[.func (.func 39) #[.pointer (some ⟨sb, 0, none⟩)] #[], .map (some w.heap.size), .slice none 0 0, .int .i64 0, .slice none 0 0, .bool false]
    rw [World.size_alloc] at hb
    refine ⟨⟨⟨hb, ?_, fun x hx => by simp at hx, Own.nil _ _, Own.nil _ _, fun g hg => by simp [Value.ownBlock] at hg, fun i h0 h1 => by simp at h1, by simp, fun x hx => by simp at hx, fun b hb => by simp at hb, fun x hx => by simp at hx, Nat.le_succ _, Nat.le_refl _, fun x hx => by simp at hx, fun k hk => by simp only [World.size_alloc] at hk; omega, fun g hg => by simp [Value.ownBlock] at hg, fun g hg => by simp [Value.ownBlock] at hg⟩, by simp [qd]⟩, ((Below.refl _ _).alloc (Nat.le_refl _) _).alloc (by simp only [World.size_alloc]; omega) _⟩
    unfold IsMap
    rw [Below.heap_alloc _ _ _ (by simp only [World.size_alloc]; omega)]
    show (w.heap.push (.map #[] 0))[w.heap.size]? = _
    simp [ents])
  go_enter Try.func38, Try.ntmps38
  go_wp2
  go_ret
  exact ⟨rfl, HE.out _ rfl⟩
end Go.Proofs.Qxb6605835a
