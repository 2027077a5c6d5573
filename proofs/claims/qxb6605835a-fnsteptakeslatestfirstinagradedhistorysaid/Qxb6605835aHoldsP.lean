import Derived.Test.Qxb6605835aHolds
import Derived.Deep.DeepCutAuto
import Derived.Deep.CutRange
namespace Go.Proofs.Qxb6605835a
open Go.ChangeShapes Go.WideShapes Go.ChangeAt Go.RowKit
set_option linter.unusedVariables false

/-- A step reaches the commit s newly, and it has no Generation. -/
def newU (K : Nat → Cm) (N : List Nd) (ps : List ByteArray) (T : List Cm) (s : ByteArray) : Bool := (nodeFor K N s).isNone && (hasId ps s && decide ((resolveC T s).gen = 0))

section
variable {T : List Cm} {K K' : Nat → Cm} {N M : List Nd} {ung ung' : Bool} {x : Nd} {l : List ByteArray}

theorem ung_end (hp : PInv T (passed x.p) K (setNd N x.b (offNd x)) ung (K x.b).ps K' M ung') (hin : ∀ p ∈ (K x.b).ps, p ∈ l) : ung' = (ung || l.any (newU K N (K x.b).ps T)) := by
  rw [hp.ung]
  congr 1
  rw [Bool.eq_iff_iff, List.any_eq_true, List.any_eq_true]
  constructor
  · rintro ⟨z, hz, hg⟩
    obtain ⟨_, _, h3, h4, h5⟩ := hp.fresh z hz
    refine ⟨(K' z.b).id, hin _ (hasId_iff.1 h3), ?_⟩
    unfold newU
    have hno : nodeFor K N (K' z.b).id = none := nodeFor_none.2 fun y hy e => by
      obtain ⟨y', hy', e'⟩ := setNd_ids.2 ⟨y, hy, e⟩
      exact h5 y' hy' e'
    rw [hno, h3, ← h4]
    simpa using hg
  · rintro ⟨s, hs, hu⟩
    unfold newU at hu
    simp only [Bool.and_eq_true, Option.isNone_iff_eq_none, decide_eq_true_eq] at hu
    obtain ⟨h1, h2, h3⟩ := hu
    rcases hp.all s h2 with h | ⟨z, hz, e⟩
    · obtain ⟨y, hy, e⟩ := setNd_ids.1 h
      exact absurd e (nodeFor_none.1 h1 y hy)
    · refine ⟨z, hz, ?_⟩
      have := (hp.fresh z hz).2.2.2.1
      rw [this, e]
      simpa using h3

theorem any_take_succ {α : Type} {f : α → Bool} {l : List α} {k : Nat} (hk : k < l.length) : (l.take (k + 1)).any f = ((l.take k).any f || f l[k]) := by
  rw [List.take_succ_eq_append_getElem hk, List.any_append]
  simp

/-- The node of an ID that had one, behind the step. -/
theorem at_some (hp : PInv T (passed x.p) K (setNd N x.b (offNd x)) ung (K x.b).ps K' M ung') (hok : NOk K' (stepN K N x M)) (hk : NOk K N) (hx : x ∈ N) {y : Nd} {s : ByteArray} (hy : nodeFor K N s = some y) :
    ∃ y', nodeFor K' (stepN K N x M) s = some y' ∧ y'.b = y.b ∧ K' y.b = K y.b ∧ (hasId (K x.b).ps s = true → y'.p = y.p ||| passed x.p) ∧ (hasId (K x.b).ps s = false → y'.p = y.p) ∧ y'.q = ((y.q && decide (y.b ≠ x.b)) || decide (y'.p ≠ y.p)) := by
  obtain ⟨hm, hi⟩ := nodeFor_mem hy
  have h := ent_some hp hok hm
  rw [hi] at h
  refine ⟨_, h, after1_b _ _ _, step_keep hp hm, ?_, ?_, ?_⟩
  · intro hh
    unfold after1
    rw [hi, hh]
    simp only [if_true, paintNd_p]
    by_cases e : y.b = x.b
    · have := hk.uniq hm hx e
      subst this
      simp [offNd]
    · simp [e]
  · intro hh
    unfold after1
    rw [hi, hh]
    by_cases e : y.b = x.b
    · have := hk.uniq hm hx e
      subst this
      simp [offNd]
    · simp [e]
  · unfold after1
    rw [hi]
    by_cases e : y.b = x.b
    · have := hk.uniq hm hx e
      subst this
      cases hasId (K y.b).ps s
      · simp [offNd]
      · simp [offNd, paintNd_q, paintNd_p]
    · cases hasId (K x.b).ps s
      · simp [e]
      · simp [e, paintNd_q, paintNd_p]

theorem at_new (hp : PInv T (passed x.p) K (setNd N x.b (offNd x)) ung (K x.b).ps K' M ung') (hok : NOk K' (stepN K N x M)) {s : ByteArray} (h0 : nodeFor K N s = none) (hh : hasId (K x.b).ps s = true) :
    ∃ y', nodeFor K' (stepN K N x M) s = some y' ∧ K' y'.b = resolveC T s ∧ y'.p = passed x.p ∧ y'.q = decide (passed x.p ≠ 0) := by
  obtain ⟨z, hz, h1, h2, h3, h4⟩ := ent_new hp hok h0 hh
  refine ⟨_, h1, by rw [paintNd_b]; exact h4, ?_, ?_⟩
  · rw [paintNd_p, h2]; simp
  · rw [paintNd_q, h2, h3]; simp

/-- The index of a node's ID. -/
theorem it_iff (hk : NOk K N) (hl : l.Nodup) (hx : x ∈ N) {y : Nd} {i it : Nat} (hi : i < l.length) (hit : it < l.length) (ex : l[it] = (K x.b).id) (hy : nodeFor K N l[i] = some y) : y.b = x.b ↔ i = it := by
  obtain ⟨hm, e⟩ := nodeFor_mem hy
  constructor
  · intro h
    have := hk.uniq hm hx h
    subst this
    exact (List.getElem_inj hl).1 (e.symm.trans ex.symm)
  · intro h
    subst h
    exact hk.2 y hm x hx (e.trans ex)
end

theorem passed_lt {p : Nat} (h : p < 8) : passed p < 8 := by
  have : ∀ p : Fin 8, passed p.val < 8 := by decide
  exact this ⟨p, h⟩

theorem bits_sub (a b : Nat) (ha : a < 8) (hb : b < 8) : bits BinOp.and IntKind.i64 ((a ||| b : Nat) : Int) (a : Int) = (a : Int) ∧ bits BinOp.and IntKind.i64 ((a ||| b : Nat) : Int) (b : Int) = (b : Int) ∧ bits BinOp.or IntKind.i64 (a : Int) (b : Int) = ((a ||| b : Nat) : Int) ∧ bits BinOp.andNot IntKind.i64 ((a ||| b : Nat) : Int) ((a ||| b : Nat) : Int) = 0 := by
  have : ∀ a b : Fin 8, bits BinOp.and IntKind.i64 ((a.val ||| b.val : Nat) : Int) ((a.val : Nat) : Int) = ((a.val : Nat) : Int) ∧ bits BinOp.and IntKind.i64 ((a.val ||| b.val : Nat) : Int) ((b.val : Nat) : Int) = ((b.val : Nat) : Int) ∧ bits BinOp.or IntKind.i64 ((a.val : Nat) : Int) ((b.val : Nat) : Int) = ((a.val ||| b.val : Nat) : Int) ∧ bits BinOp.andNot IntKind.i64 ((a.val ||| b.val : Nat) : Int) ((a.val ||| b.val : Nat) : Int) = 0 := by decide +kernel
  exact this ⟨a, ha⟩ ⟨b, hb⟩

theorem bits_self (a : Nat) (ha : a < 8) : bits BinOp.and IntKind.i64 (a : Int) (a : Int) = (a : Int) := by
  have := and_i64 a a ha ha
  rw [this, Nat.and_self]

theorem neqSelf (w : World) (a : Nat) : (binOp .neq 62 (ptr a) (ptr a)).run Try.prog w = .ok (.bool false) w := by
  obtain ⟨j, hj, hs⟩ := Option.map_eq_some_iff.1 info92
  have h : ∀ d : Nat, (Op.equalIn (d + 1) 62 (ptr a) (ptr a)).run Try.prog w = .ok true w := fun d => by
    simp [Op.equalIn, run_underlying Try.underlying62, sizeOf, typeInfo, hj, run_sameAddr_same]
  simp only [binOp]
  simp [Op.equal, Op.maxDepth, h 9999]

/-- A commit's eight cells at offset o of block b. -/
def CAt (w : World) (b o : Nat) (c : Cm) : Prop :=
  w.cell? ⟨b, o, none⟩ = some (.string c.id) ∧ w.cell? ⟨b, o + 1, none⟩ = some (.slice c.pa c.pn c.pc) ∧ w.cell? ⟨b, o + 2, none⟩ = some (.string c.com) ∧ w.cell? ⟨b, o + 3, none⟩ = some (.string c.msg) ∧ w.cell? ⟨b, o + 4, none⟩ = some (.int .i64 c.cr) ∧ w.cell? ⟨b, o + 5, none⟩ = some (.map none) ∧ w.cell? ⟨b, o + 6, none⟩ = some (.string c.mr) ∧ w.cell? ⟨b, o + 7, none⟩ = some (.int .i64 c.gen)

theorem CAt.below {w w' : World} {b o : Nat} {c : Cm} (h : CAt w b o c) (hb : Below w.heap.size w w') : CAt w' b o c := by
  obtain ⟨h0, h1, h2, h3, h4, h5, h6, h7⟩ := h
  exact ⟨cell_below hb h0, cell_below hb h1, cell_below hb h2, cell_below hb h3, cell_below hb h4, cell_below hb h5, cell_below hb h6, cell_below hb h7⟩

/-- What a walk reads of a snapshot at index k. -/
theorem Rows5.at {w : World} {n k : Nat} {E : Nat → Option Nd} {K : Nat → Cm} {g0 g1 g2 g3 g4 : Nat} {A0 A1 A2 A3 A4 : Array Value} (h : Rows5 w n E K g0 g1 g2 g3 g4 A0 A1 A2 A3 A4) (hk : k < n) {o : Option Nd} (ho : E k = o) :
    w.cell? ⟨g0, k, none⟩ = some (exV o) ∧ w.cell? ⟨g1, k, none⟩ = some (ndV o) ∧ w.cell? ⟨g2, k, none⟩ = some (.int .i64 (ptN o)) ∧ w.cell? ⟨g3, k, none⟩ = some (.bool (quV o)) ∧ CAt w g4 (k * 8) (cmC K o) := by
  subst ho
  refine ⟨(h.b0.cell k).trans (h.v0 k hk), (h.b1.cell k).trans (h.v1 k hk), (h.b2.cell k).trans (h.v2 k hk), (h.b3.cell k).trans (h.v3 k hk), ?_⟩
  obtain ⟨c0, c1, c2, c3, c4, c5, c6, c7⟩ := h.v4 k hk
  exact ⟨(h.b4.cell _).trans c0, (h.b4.cell _).trans c1, (h.b4.cell _).trans c2, (h.b4.cell _).trans c3, (h.b4.cell _).trans c4, (h.b4.cell _).trans c5, (h.b4.cell _).trans c6, (h.b4.cell _).trans c7⟩

/-- What the walk of zzStepHolds has in memory behind the step. -/
structure HFacts (W : World) (bt bp bq kb n : Nat) (x : Nd) (K K' : Nat → Cm) (N N' : List Nd) (T : List Cm) (l : List ByteArray) (ta : Option Addr) (g0 g1 g2 g3 g4 h0 h1 h2 h3 h4 : Nat) (A0 A1 A2 A3 A4 D0 D1 D2 D3 D4 : Array Value) : Prop where
  tcB : Blk W bt 39 #[.string (K x.b).id, .slice (K x.b).pa (K x.b).pn (K x.b).pc, .string (K x.b).com, .string (K x.b).msg, .int .i64 (K x.b).cr, .map none, .string (K x.b).mr, .int .i64 (K x.b).gen]
  preB : Blk W bp 49 #[sl g0 n, sl g1 n, sl g2 n, sl g3 n, sl g4 n]
  preR : Rows5 W n (fun i => nodeFor K N (l.getD i ⟨#[]⟩)) K g0 g1 g2 g3 g4 A0 A1 A2 A3 A4
  postB : Blk W bq 49 #[sl h0 n, sl h1 n, sl h2 n, sl h3 n, sl h4 n]
  postR : Rows5 W n (fun i => nodeFor K' N' (l.getD i ⟨#[]⟩)) K' h0 h1 h2 h3 h4 D0 D1 D2 D3 D4
  kc : ∀ i (hi : i < l.length), W.cell? ⟨kb, i, none⟩ = some (.string l[i])
  par : Par W (K x.b)
  parN : ∀ y ∈ N, Par W (K y.b)
  parT : ∀ c ∈ T, Par W c
  tab : Tab W ta T

theorem Par.below {w w' : World} {c : Cm} (h : Par w c) (hb : Below w.heap.size w w') : Par w' c := h.kept (Keeps.of_below hb (fun _ => False)) (fun _ _ => id)

theorem HFacts.below {W W' : World} {bt bp bq kb n : Nat} {x : Nd} {K K' : Nat → Cm} {N N' : List Nd} {T : List Cm} {l : List ByteArray} {ta : Option Addr} {g0 g1 g2 g3 g4 h0 h1 h2 h3 h4 : Nat} {A0 A1 A2 A3 A4 D0 D1 D2 D3 D4 : Array Value} (h : HFacts W bt bp bq kb n x K K' N N' T l ta g0 g1 g2 g3 g4 h0 h1 h2 h3 h4 A0 A1 A2 A3 A4 D0 D1 D2 D3 D4) (hb : Below W.heap.size W W') :
    HFacts W' bt bp bq kb n x K K' N N' T l ta g0 g1 g2 g3 g4 h0 h1 h2 h3 h4 A0 A1 A2 A3 A4 D0 D1 D2 D3 D4 :=
  ⟨h.tcB.below hb h.tcB.lt, h.preB.below hb h.preB.lt, h.preR.below hb, h.postB.below hb h.postB.lt, h.postR.below hb, fun i hi => cell_below hb (h.kc i hi), h.par.below hb, fun y hy => (h.parN y hy).below hb, fun c hc => (h.parT c hc).below hb, h.tab.below hb⟩

theorem Blk.cells5 {W : World} {b : Nat} {t : TypeId} {v0 v1 v2 v3 v4 : Value} (h : Blk W b t #[v0, v1, v2, v3, v4]) : W.cell? ⟨b, 0, none⟩ = some v0 ∧ W.cell? ⟨b, 1, none⟩ = some v1 ∧ W.cell? ⟨b, 2, none⟩ = some v2 ∧ W.cell? ⟨b, 3, none⟩ = some v3 ∧ W.cell? ⟨b, 4, none⟩ = some v4 :=
  ⟨h.cell 0, h.cell 1, h.cell 2, h.cell 3, h.cell 4⟩
end Go.Proofs.Qxb6605835a
