import Derived.Test.Qxb6605835aPop
import Derived.MapKept
namespace Go.Proofs.Qxb6605835a
open Go.ChangeShapes Go.WideShapes Go.ChangeAt Go.RowKit
set_option linter.unusedVariables false

/-- A node of the walk: its block, its paint, whether it is queued. -/
structure Nd where
  b : Nat
  p : Nat
  q : Bool

/-- The entries of the walk's map: one a node, in the order in which they were made. -/
def ents (K : Nat → Cm) : Nat → List Nd → List MapEntry
  | _, [] => []
  | i, x :: r => ⟨.string (K x.b).id, ptr x.b, i⟩ :: ents K (i + 1) r

theorem bytes_ne {a b : ByteArray} (h : a ≠ b) : (a == b) = false := by
  cases e : (a == b)
  · rfl
  · exact absurd ((MapKept.bytes_beq a b).1 e) h

theorem find_none (K : Nat → Cm) (s : ByteArray) : ∀ (N : List Nd) (i j : Nat), (∀ x ∈ N, (K x.b).id ≠ s) → Instr.findNow .string (.string s) (ents K i N) j = some none
  | [], _, _, _ => rfl
  | x :: r, i, j, h => by
    have hx : (s == (K x.b).id) = false := bytes_ne (fun e => h x (by simp) e.symm)
    simp only [ents, Instr.findNow, Instr.sameNow, hx]
    exact find_none K s r _ _ (fun y hy => h y (by simp [hy]))

theorem find_some (K : Nat → Cm) (s : ByteArray) : ∀ (N : List Nd) (i j : Nat) (x : Nd), x ∈ N → (K x.b).id = s → (∀ y ∈ N, (K y.b).id = s → y.b = x.b) → ∃ k, Instr.findNow .string (.string s) (ents K i N) j = some (some (k, ptr x.b))
  | [], _, _, _, h, _, _ => by simp at h
  | y :: r, i, j, x, h, hx, hu => by
    by_cases e : (K y.b).id = s
    · have hy : (s == (K y.b).id) = true := (MapKept.bytes_beq _ _).2 e.symm
      refine ⟨j, ?_⟩
      simp only [ents, Instr.findNow, Instr.sameNow, hy]
      rw [hu y (by simp) e]
    · have hy : (s == (K y.b).id) = false := bytes_ne (fun h => e h.symm)
      simp only [ents, Instr.findNow, Instr.sameNow, hy]
      rcases List.mem_cons.1 h with rfl | h
      · exact absurd hx e
      · exact find_some K s r _ _ x h hx (fun z hz => hu z (by simp [hz]))

/-- Block mb of w is the map of the nodes N. -/
def IsMap (w : World) (mb : Nat) (K : Nat → Cm) (N : List Nd) : Prop := w.heap[mb]? = some (.map (ents K 0 N).toArray N.length)

theorem check9 (w : World) (e : Bool) (s : ByteArray) : (Instr.checkKey e 10000 9 (.string s)).run Try.prog w = .ok () w := MapKept.run_checkKey Try.underlying9 (by simp [MapKept.IsKey]) e 9999

theorem lookup_miss (w : World) (mb : Nat) (K : Nat → Cm) (N : List Nd) (s : ByteArray) (h : IsMap w mb K N) (hn : ∀ x ∈ N, (K x.b).id ≠ s) :
    (Instr.lookup 82 (.map (some mb)) (.string s) true).run Try.prog w = .ok (.tuple #[.pointer none, .bool false]) w := by
  have hf := MapKept.run_findKey (P := Try.prog) (w := w) Try.underlying9 (find_none K s N 0 0 hn)
  simp [Instr.lookup, run_underlying Try.underlying82, MapKept.run_getObj_map h, check9, hf]

theorem lookup_hit (w : World) (mb : Nat) (K : Nat → Cm) (N : List Nd) (s : ByteArray) (h : IsMap w mb K N) (x : Nd) (hx : x ∈ N) (hs : (K x.b).id = s) (hu : ∀ y ∈ N, (K y.b).id = s → y.b = x.b) :
    (Instr.lookup 82 (.map (some mb)) (.string s) true).run Try.prog w = .ok (.tuple #[ptr x.b, .bool true]) w := by
  obtain ⟨k, hk⟩ := find_some K s N 0 0 x hx hs hu
  have hf := MapKept.run_findKey (P := Try.prog) (w := w) Try.underlying9 hk
  simp [Instr.lookup, run_underlying Try.underlying82, MapKept.run_getObj_map h, check9, hf]

/-- The world behind a store of a new key. -/
def putMap (w : World) (mb : Nat) (es : List MapEntry) (n : Nat) : World := { w with heap := w.heap.setIfInBounds mb (.map es.toArray n) }

theorem update_new (w : World) (mb : Nat) (K : Nat → Cm) (N : List Nd) (s : ByteArray) (v : Value) (h : IsMap w mb K N) (hn : ∀ x ∈ N, (K x.b).id ≠ s) :
    (Instr.mapUpdate 82 (.map (some mb)) (.string s) v).run Try.prog w = .ok () (putMap w mb (ents K 0 N ++ [⟨.string s, v, N.length⟩]) (N.length + 1)) := by
  have hf := MapKept.run_findKey (P := Try.prog) (w := w) Try.underlying9 (find_none K s N 0 0 hn)
  simp [Instr.mapUpdate, run_underlying Try.underlying82, MapKept.run_getObj_map h, check9, hf, MapKept.run_setObj_map _ h, putMap]

theorem ents_snoc (K : Nat → Cm) : ∀ (N : List Nd) (i : Nat) (x : Nd), ents K i (N ++ [x]) = ents K i N ++ [⟨.string (K x.b).id, ptr x.b, i + N.length⟩]
  | [], i, x => by simp [ents]
  | y :: r, i, x => by
    simp only [List.cons_append, ents, ents_snoc K r (i + 1) x, List.length_cons]
    congr 4
    omega

theorem ents_congr {K K' : Nat → Cm} : ∀ (N : List Nd) (i : Nat), (∀ x ∈ N, K x.b = K' x.b) → ents K i N = ents K' i N
  | [], _, _ => rfl
  | y :: r, i, h => by
    simp only [ents]
    rw [h y (by simp), ents_congr r (i + 1) (fun x hx => h x (by simp [hx]))]

/-- The entries do not hang on the paint. -/
theorem ents_paint {K : Nat → Cm} (f : Nd → Nd) (hf : ∀ x, (f x).b = x.b) : ∀ (N : List Nd) (i : Nat), ents K i (N.map f) = ents K i N
  | [], _ => rfl
  | y :: r, i => by
    simp only [List.map_cons, ents, hf, ents_paint f hf r (i + 1)]

theorem putMap_heap (w : World) (mb : Nat) (es : List MapEntry) (n : Nat) (hlt : mb < w.heap.size) : (putMap w mb es n).heap[mb]? = some (.map es.toArray n) := by
  simp [putMap, hlt]

theorem putMap_other (w : World) (mb : Nat) (es : List MapEntry) (n : Nat) (k : Nat) (h : k ≠ mb) : (putMap w mb es n).heap[k]? = w.heap[k]? := by
  have h' : ¬ mb = k := fun e => h e.symm
  simp [putMap, h']

theorem putMap_keeps (w : World) (mb : Nat) (es : List MapEntry) (n : Nat) : Keeps w (putMap w mb es n) (· = mb) :=
  ⟨rfl, rfl, rfl, by simp [putMap], fun k _ hs => putMap_other w mb es n k hs⟩

theorem IsMap.lt {w : World} {mb : Nat} {K : Nat → Cm} {N : List Nd} (h : IsMap w mb K N) : mb < w.heap.size := (Array.getElem?_eq_some_iff.1 h).1

theorem IsMap.kept {w w' : World} {mb : Nat} {K : Nat → Cm} {N : List Nd} {S : Nat → Prop} (h : IsMap w mb K N) (hk : Keeps w w' S) (hs : ¬ S mb) : IsMap w' mb K N := (hk.block mb h.lt hs).trans h

theorem IsMap.ne {w : World} {mb b : Nat} {K : Nat → Cm} {N : List Nd} {t : TypeId} {arr : Array Value} (h : IsMap w mb K N) (hb : Blk w b t arr) : b ≠ mb := by
  intro e
  subst e
  unfold IsMap at h
  unfold Blk at hb
  rw [h] at hb
  cases hb
end Go.Proofs.Qxb6605835a
