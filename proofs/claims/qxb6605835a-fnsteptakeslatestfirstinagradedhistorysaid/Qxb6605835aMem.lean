import Derived.Test.Qxb6605835aRows
import Derived.Test.Qxb6605835aPlain
import Derived.WalkKit
import Derived.ProofKit
import Derived.Outline
import Derived.RegionTactic
import Derived.ChangeAlike
import Derived.ChangeKeysEq
import Derived.Deep.OwnRows
import Derived.Deep.QuietTactic
import Derived.BigQuiet
import Derived.Deep.RegionWith
import Derived.Lib.SliceRun
namespace Go.Proofs.Qxb6605835a
open Go.ChangeShapes Go.WideShapes Go.ChangeAt Go.RowKit
set_option linter.unusedVariables false

theorem hide {p : Prop} (h : p) : Hid p := h
theorem ret_bool {a b : Bool} (h : a = b) : Ending.returned (.bool a) = .returned (.bool b) := by rw [h]
theorem ret_int {k : IntKind} {a b : Int} (h : a = b) : Ending.returned (.int k a) = .returned (.int k b) := by rw [h]

/-- A pointer to the head of block b. -/
abbrev ptr (b : Nat) : Value := .pointer (some ⟨b, 0, none⟩)

/-- Block b of w holds the cells arr, of type t, none frozen. -/
def Blk (w : World) (b : Nat) (t : TypeId) (arr : Array Value) : Prop := w.heap[b]? = some (.cells arr t (0, 0))

theorem Blk.lt {w : World} {b : Nat} {t : TypeId} {arr : Array Value} (h : Blk w b t arr) : b < w.heap.size := (Array.getElem?_eq_some_iff.1 h).1

theorem Blk.cell {w : World} {b : Nat} {t : TypeId} {arr : Array Value} (h : Blk w b t arr) (j : Nat) : w.cell? ⟨b, j, none⟩ = arr[j]? := by
  unfold Blk at h
  simp [World.cell?, h]

theorem Blk.free {w : World} {b : Nat} {t : TypeId} {arr : Array Value} (h : Blk w b t arr) (j : Nat) : w.frozen? ⟨b, j, none⟩ = false := by
  unfold Blk at h
  simp [World.frozen?, h]

theorem Blk.of_heap {w w' : World} {b : Nat} {t : TypeId} {arr : Array Value} (h : Blk w b t arr) (hb : w'.heap[b]? = w.heap[b]?) : Blk w' b t arr := hb.trans h

theorem Blk.alloc {w : World} {b : Nat} {t : TypeId} {arr : Array Value} (h : Blk w b t arr) (o : Obj) : Blk (w.alloc o) b t arr := h.of_heap (Below.heap_alloc w o b h.lt)

theorem Blk.new (w : World) (t : TypeId) (arr : Array Value) : Blk (w.alloc (.cells arr t)) w.heap.size t arr := by
  unfold Blk
  show (w.heap.push (.cells arr t))[w.heap.size]? = _
  simp

theorem Blk.below {w w' : World} {b B : Nat} {t : TypeId} {arr : Array Value} (h : Blk w b t arr) (hb : Below B w w') (hlt : b < B) : Blk w' b t arr := h.of_heap (hb.block b hlt)

theorem Blk.set {w : World} {b : Nat} {t : TypeId} {arr : Array Value} (h : Blk w b t arr) (j : Nat) (v : Value) : Blk (w.setCell ⟨b, j, none⟩ v) b t (arr.setIfInBounds j v) := by
  unfold Blk at h ⊢
  have hlt := (Array.getElem?_eq_some_iff.1 h).1
  have hget := (Array.getElem?_eq_some_iff.1 h).2
  simp [World.setCell, hlt]
  rw [Array.getElem_modify_self, hget]

theorem Blk.set_other {w : World} {b b' : Nat} {t : TypeId} {arr : Array Value} (h : Blk w b t arr) (j : Nat) (v : Value) (hne : b ≠ b') : Blk (w.setCell ⟨b', j, none⟩ v) b t arr :=
  h.of_heap (Below.heap_setCell w ⟨b', j, none⟩ v b hne)

theorem Blk.ne {w : World} {b b' : Nat} {t t' : TypeId} {arr arr' : Array Value} (h : Blk w b t arr) (h' : Blk w b' t' arr') (ht : t ≠ t') : b ≠ b' := by
  intro e
  subst e
  unfold Blk at h h'
  rw [h] at h'
  simp at h'
  exact ht h'.2

/-- The blocks outside S are as they were; there may be new ones. -/
structure Keeps (w w' : World) (S : Nat → Prop) : Prop where
  os : w'.os = w.os
  tape : w'.tape = w.tape
  output : w'.output = w.output
  size : w.heap.size ≤ w'.heap.size
  block : ∀ k, k < w.heap.size → ¬ S k → w'.heap[k]? = w.heap[k]?

theorem Keeps.refl (w : World) (S : Nat → Prop) : Keeps w w S := ⟨rfl, rfl, rfl, Nat.le_refl _, fun _ _ _ => rfl⟩

theorem Keeps.trans {a b c : World} {S : Nat → Prop} (h : Keeps a b S) (k : Keeps b c S) : Keeps a c S :=
  ⟨k.os.trans h.os, k.tape.trans h.tape, k.output.trans h.output, Nat.le_trans h.size k.size, fun x hx hs => (k.block x (Nat.lt_of_lt_of_le hx h.size) hs).trans (h.block x hx hs)⟩

/-- What the second step writes besides lies in new blocks. -/
theorem Keeps.then {a b c : World} {S T : Nat → Prop} (h : Keeps a b S) (k : Keeps b c T) (hs : ∀ x, x < a.heap.size → T x → S x) : Keeps a c S :=
  ⟨k.os.trans h.os, k.tape.trans h.tape, k.output.trans h.output, Nat.le_trans h.size k.size, fun x hx hn => (k.block x (Nat.lt_of_lt_of_le hx h.size) (fun t => hn (hs x hx t))).trans (h.block x hx hn)⟩

theorem Keeps.mono {a b : World} {S T : Nat → Prop} (h : Keeps a b S) (hs : ∀ k, k < a.heap.size → S k → T k) : Keeps a b T :=
  ⟨h.os, h.tape, h.output, h.size, fun k hk ht => h.block k hk (fun s => ht (hs k hk s))⟩

theorem Keeps.of_below {a b : World} (h : Below a.heap.size a b) (S : Nat → Prop) : Keeps a b S := ⟨h.os, h.tape, h.output, h.size, fun k hk _ => h.block k hk⟩

theorem Keeps.below {a b : World} {S : Nat → Prop} {B : Nat} (h : Keeps a b S) (hB : B ≤ a.heap.size) (hs : ∀ k, S k → B ≤ k) : Below B a b :=
  ⟨h.os, h.tape, h.output, h.size, fun k hk => h.block k (Nat.lt_of_lt_of_le hk hB) (fun s => absurd (hs k s) (by omega))⟩

theorem Keeps.drew {a b : World} {S : Nat → Prop} (h : Keeps a b S) : Keeps a b.drew S := ⟨h.os, h.tape, h.output, h.size, h.block⟩

theorem Keeps.drewN {a b : World} {S : Nat → Prop} (h : Keeps a b S) (n : Nat) : Keeps a (b.drewN n) S := ⟨h.os, h.tape, h.output, h.size, h.block⟩

theorem Keeps.alloc {a b : World} {S : Nat → Prop} (h : Keeps a b S) (o : Obj) : Keeps a (b.alloc o) S :=
  h.trans (Keeps.of_below ((Below.refl _ _).alloc (Nat.le_refl _) o) S)

theorem Keeps.set {a b : World} {S : Nat → Prop} (h : Keeps a b S) (g j : Nat) (v : Value) (hg : S g ∨ a.heap.size ≤ g) : Keeps a (b.setCell ⟨g, j, none⟩ v) S :=
  ⟨h.os, h.tape, h.output, by rw [World.size_setCell]; exact h.size, fun k hk hs => by
    have hne : k ≠ g := by
      intro e
      rcases hg with hg | hg
      · exact hs (e ▸ hg)
      · omega
    rw [Below.heap_setCell b ⟨g, j, none⟩ v k hne]
    exact h.block k hk hs⟩

theorem Blk.kept {w w' : World} {b : Nat} {t : TypeId} {arr : Array Value} {S : Nat → Prop} (h : Blk w b t arr) (hk : Keeps w w' S) (hs : ¬ S b) : Blk w' b t arr := h.of_heap (hk.block b h.lt hs)

/-- Behind a contract that ends in 'Below': all old cells and marks read as before. -/
theorem bcell {W w1 : World} (hb : Below W.heap.size W w1) : (∀ b o, b < W.heap.size → w1.cell? ⟨b, o, none⟩ = W.cell? ⟨b, o, none⟩) ∧ (∀ b o, b < W.heap.size → w1.frozen? ⟨b, o, none⟩ = W.frozen? ⟨b, o, none⟩) :=
  ⟨fun b o h => hb.cell (p := ⟨b, o, none⟩) h, fun b o h => hb.frozen (p := ⟨b, o, none⟩) h⟩

/-! ### The blocks of the walk -/

/-- A node's ten cells. -/
def nodeArr (c : Cm) (p : Int) (q : Bool) : Array Value :=
  #[.string c.id, .slice c.pa c.pn c.pc, .string c.com, .string c.msg, .int .i64 c.cr, .map none, .string c.mr, .int .i64 c.gen, .int .i64 p, .bool q]

/-- Block b of w is the node of commit c. -/
def IsNode (w : World) (b : Nat) (c : Cm) : Prop := ∃ p q, Blk w b 92 (nodeArr c p q)

theorem IsNode.kept {w w' : World} {b : Nat} {c : Cm} {S : Nat → Prop} (h : IsNode w b c) (hk : Keeps w w' S) (hs : ¬ S b) : IsNode w' b c := by
  obtain ⟨p, q, h⟩ := h
  exact ⟨p, q, h.kept hk hs⟩

theorem IsNode.lt {w : World} {b : Nat} {c : Cm} (h : IsNode w b c) : b < w.heap.size := by
  obtain ⟨p, q, h⟩ := h
  exact h.lt

theorem IsNode.below {w w' : World} {b : Nat} {c : Cm} (h : IsNode w b c) (hb : Below w.heap.size w w') : IsNode w' b c := by
  obtain ⟨p, q, h⟩ := h
  exact ⟨p, q, h.below hb h.lt⟩

theorem after {w a b : World} (h : Below w.heap.size w a) (k : Below a.heap.size a b) : Below w.heap.size w b := h.trans (k.mono h.size)

theorem below_drewN {B : Nat} {a w : World} (h : Below B a w) (q : Nat) : Below B a (w.drewN q) := ⟨h.os, h.tape, h.output, h.size, h.block⟩

/-- The chain of 'Below', under 'Hid'. -/
theorem chain {w a b : World} (h : Hid (Below w.heap.size w a)) (k : Below a.heap.size a b) : Hid (Below w.heap.size w b) := after h.out k

theorem cell_below {w w' : World} {a : Addr} {v : Value} (hb : Below w.heap.size w w') (h : w.cell? a = some v) : w'.cell? a = some v := (hb.cell (World.block_lt_of_cell? w a h)).trans h

/-- What a walk reads of a node's commit. -/
theorem IsNode.cells {w : World} {b : Nat} {c : Cm} (h : IsNode w b c) :
    w.cell? ⟨b, 0, none⟩ = some (.string c.id) ∧ w.cell? ⟨b, 1, none⟩ = some (.slice c.pa c.pn c.pc) ∧ w.cell? ⟨b, 2, none⟩ = some (.string c.com) ∧ w.cell? ⟨b, 3, none⟩ = some (.string c.msg) ∧ w.cell? ⟨b, 4, none⟩ = some (.int .i64 c.cr) ∧ w.cell? ⟨b, 5, none⟩ = some (.map none) ∧ w.cell? ⟨b, 6, none⟩ = some (.string c.mr) ∧ w.cell? ⟨b, 7, none⟩ = some (.int .i64 c.gen) := by
  obtain ⟨p, q, h⟩ := h
  exact ⟨h.cell 0, h.cell 1, h.cell 2, h.cell 3, h.cell 4, h.cell 5, h.cell 6, h.cell 7⟩

/-! ### Which function a call through heap.Interface is -/
theorem nilchk {P : Program} (w : World) (t : TypeId) (a : Addr) (s s' : String) : (Builtin.ssaWrapNilChk_ #[t] t #[.pointer (some a), strVal s, strVal s']).run P w = .ok (.pointer (some a)) w := rfl

theorem method_deref {P : Program} (w : World) (t e : TypeId) (name : String) (a : Addr) (v : Value) (fuel f : Nat) (i : TypeInfo) (m : Method) (hi : P.info? t = some i) (hm : i.methods.find? (·.name == name) = some m) (hp : m.path = #[]) (hf : m.func = some (f, false)) (hu : P.underlying t = some (.pointer e)) (hload : (loadVar e a).run P w = .ok v w) : (method (fuel + 1) t (.pointer (some a)) name).run P w = .ok (f, v) w := by
  have h1 := run_typeInfo (P := P) (w := w) hi
  unfold method
  simp [h1, hm, hp, hf, follow, receiverAt, Place.get, run_underlying hu, hload, asAddr, nilchk]

theorem method_ptr {P : Program} (w : World) (t e : TypeId) (name : String) (a : Addr) (fuel f : Nat) (i : TypeInfo) (m : Method) (hi : P.info? t = some i) (hm : i.methods.find? (·.name == name) = some m) (hp : m.path = #[]) (hf : m.func = some (f, true)) (hu : P.underlying t = some (.pointer e)) : (method (fuel + 1) t (.pointer (some a)) name).run P w = .ok (f, .pointer (some a)) w := by
  have h1 := run_typeInfo (P := P) (w := w) hi
  unfold method
  simp [h1, hm, hp, hf, follow, receiverAt, Place.get, run_underlying hu]

theorem row_of {P : Program} {t : TypeId} {name : String} {f : FuncId × Bool} (h : ((P.info? t).bind fun i => (i.methods.find? (·.name == name)).map fun m => (m.path.size, m.func)) = some (0, some f)) :
    ∃ i m, P.info? t = some i ∧ i.methods.find? (·.name == name) = some m ∧ m.path = #[] ∧ m.func = some f := by
  obtain ⟨i, hi, h⟩ := Option.bind_eq_some_iff.1 h
  obtain ⟨m, hm, h⟩ := Option.map_eq_some_iff.1 h
  simp only [Prod.mk.injEq] at h
  exact ⟨i, m, hi, hm, Array.eq_empty_of_size_eq_zero h.1, h.2⟩

theorem rowLen : ((Try.prog.info? 99).bind fun i => (i.methods.find? (·.name == "Len")).map fun m => (m.path.size, m.func)) = some (0, some (77, false)) := by kernel_rfl
theorem rowLess : ((Try.prog.info? 99).bind fun i => (i.methods.find? (·.name == "Less")).map fun m => (m.path.size, m.func)) = some (0, some (78, false)) := by kernel_rfl
theorem rowSwap : ((Try.prog.info? 99).bind fun i => (i.methods.find? (·.name == "Swap")).map fun m => (m.path.size, m.func)) = some (0, some (79, false)) := by kernel_rfl
theorem rowPush : ((Try.prog.info? 99).bind fun i => (i.methods.find? (·.name == "Push")).map fun m => (m.path.size, m.func)) = some (0, some (83, true)) := by kernel_rfl
theorem rowPop : ((Try.prog.info? 99).bind fun i => (i.methods.find? (·.name == "Pop")).map fun m => (m.path.size, m.func)) = some (0, some (82, true)) := by kernel_rfl

theorem load83 (a : Addr) (v : Value) (w : World) (h : w.cell? a = some v) : (loadVar 83 a).run Try.prog w = .ok v w := by
  simp [go_sem, h]

theorem mLen (a : Addr) (v : Value) (w : World) (h : w.cell? a = some v) (fuel : Nat) : (method (fuel + 1) 99 (.pointer (some a)) "Len").run Try.prog w = .ok (77, v) w := by
  obtain ⟨i, m, hi, hm, hp, hf⟩ := row_of rowLen
  exact method_deref w 99 83 "Len" a v fuel 77 i m hi hm hp hf Try.underlying99 (load83 a v w h)
theorem mLess (a : Addr) (v : Value) (w : World) (h : w.cell? a = some v) (fuel : Nat) : (method (fuel + 1) 99 (.pointer (some a)) "Less").run Try.prog w = .ok (78, v) w := by
  obtain ⟨i, m, hi, hm, hp, hf⟩ := row_of rowLess
  exact method_deref w 99 83 "Less" a v fuel 78 i m hi hm hp hf Try.underlying99 (load83 a v w h)
theorem mSwap (a : Addr) (v : Value) (w : World) (h : w.cell? a = some v) (fuel : Nat) : (method (fuel + 1) 99 (.pointer (some a)) "Swap").run Try.prog w = .ok (79, v) w := by
  obtain ⟨i, m, hi, hm, hp, hf⟩ := row_of rowSwap
  exact method_deref w 99 83 "Swap" a v fuel 79 i m hi hm hp hf Try.underlying99 (load83 a v w h)
theorem mPush (a : Addr) (w : World) (fuel : Nat) : (method (fuel + 1) 99 (.pointer (some a)) "Push").run Try.prog w = .ok (83, .pointer (some a)) w := by
  obtain ⟨i, m, hi, hm, hp, hf⟩ := row_of rowPush
  exact method_ptr w 99 83 "Push" a fuel 83 i m hi hm hp hf Try.underlying99
theorem mPop (a : Addr) (w : World) (fuel : Nat) : (method (fuel + 1) 99 (.pointer (some a)) "Pop").run Try.prog w = .ok (82, .pointer (some a)) w := by
  obtain ⟨i, m, hi, hm, hp, hf⟩ := row_of rowPop
  exact method_ptr w 99 83 "Pop" a fuel 82 i m hi hm hp hf Try.underlying99

end Go.Proofs.Qxb6605835a
