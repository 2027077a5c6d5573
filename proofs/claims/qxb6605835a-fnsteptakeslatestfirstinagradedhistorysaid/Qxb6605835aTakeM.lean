import Derived.Test.Qxb6605835aTakeR
namespace Go.Proofs.Qxb6605835a
open Go.ChangeShapes Go.WideShapes Go.ChangeAt Go.RowKit
set_option linter.unusedVariables false

theorem info4 : (Try.prog.info? 4).map (fun i => (i.zero, i.size, i.bytes)) = some (some (.bool false), 1, 1) := by kernel_rfl
theorem info3 : (Try.prog.info? 3).map (fun i => (i.zero, i.size, i.bytes)) = some (some (.int .i64 0), 1, 8) := by kernel_rfl
theorem info39 : (Try.prog.info? 39).map (fun i => (i.zero, i.size, i.bytes)) = some (some (.agg zeroC), 8, 112) := by kernel_rfl

theorem make44 (n : Nat) (hn : n ≤ 1000000) (w : World) : (Instr.makeSlice 44 (.int .i64 n) (.int .i64 n)).run Try.prog w = .ok (.slice (some ⟨w.heap.size, 0, none⟩) n n) (w.alloc (.cells (madeCells #[.bool false] n) 4)) := by
  obtain ⟨i0, hi, hz0, hz1, hz2⟩ := info_parts info4
  have := run_make (P := Try.prog) (w := w) 44 4 i0 (.bool false) Try.underlying44 hi hz0 .i64 .i64 (n : Int) (n : Int) (by omega) (Int.le_refl _) (by rw [hz2]; omega) (by omega)
  rw [hz1] at this
  simpa [Value.cells] using this
theorem make46 (n : Nat) (hn : n ≤ 1000000) (w : World) : (Instr.makeSlice 46 (.int .i64 n) (.int .i64 n)).run Try.prog w = .ok (.slice (some ⟨w.heap.size, 0, none⟩) n n) (w.alloc (.cells (madeCells #[.int .i64 0] n) 3)) := by
  obtain ⟨i0, hi, hz0, hz1, hz2⟩ := info_parts info3
  have := run_make (P := Try.prog) (w := w) 46 3 i0 (.int .i64 0) Try.underlying46 hi hz0 .i64 .i64 (n : Int) (n : Int) (by omega) (Int.le_refl _) (by rw [hz2]; omega) (by omega)
  rw [hz1] at this
  simpa [Value.cells] using this
theorem make47 (n : Nat) (hn : n ≤ 1000000) (w : World) : (Instr.makeSlice 47 (.int .i64 n) (.int .i64 n)).run Try.prog w = .ok (.slice (some ⟨w.heap.size, 0, none⟩) n n) (w.alloc (.cells (madeCells zeroC (n * 8)) 39)) := by
  obtain ⟨i0, hi, hz0, hz1, hz2⟩ := info_parts info39
  have := run_make (P := Try.prog) (w := w) 47 39 i0 (.agg zeroC) Try.underlying47 hi hz0 .i64 .i64 (n : Int) (n : Int) (by omega) (Int.le_refl _) (by rw [hz2]; omega) (by omega)
  rw [hz1] at this
  simpa [Value.cells] using this

abbrev zero5 : Array Value := #[.slice none 0 0, .slice none 0 0, .slice none 0 0, .slice none 0 0, .slice none 0 0]

theorem alloc49 (w : World) : (Instr.alloc 49 true (.tuple #[])).run Try.prog w = .ok (ptr w.heap.size) (w.alloc (.cells zero5 49)) := by
  simp [go_sem]

theorem build49 (x0 x1 x2 x3 x4 : Value) (w : World) (h : ∀ x ∈ [x0, x1, x2, x3, x4], ∃ g n, x = .slice (some ⟨g, 0, none⟩) n n) : (Instr.build 49 #[(0, x0), (1, x1), (2, x2), (3, x3), (4, x4)]).run Try.prog w = .ok (.agg #[x0, x1, x2, x3, x4]) w := by
  obtain ⟨g0, n0, rfl⟩ := h x0 (by simp)
  obtain ⟨g1, n1, rfl⟩ := h x1 (by simp)
  obtain ⟨g2, n2, rfl⟩ := h x2 (by simp)
  obtain ⟨g3, n3, rfl⟩ := h x3 (by simp)
  obtain ⟨g4, n4, rfl⟩ := h x4 (by simp)
  simp [go_sem]

theorem store49 (b : Nat) (x0 x1 x2 x3 x4 : Value) (w : World) (hb : Blk w b 49 zero5) (h : ∀ x ∈ [x0, x1, x2, x3, x4], ∃ g n, x = .slice (some ⟨g, 0, none⟩) n n) :
    (Instr.storeAt 49 (ptr b) (.agg #[x0, x1, x2, x3, x4])).run Try.prog w = .ok () (((((w.setCell ⟨b, 0, none⟩ x0).setCell ⟨b, 1, none⟩ x1).setCell ⟨b, 2, none⟩ x2).setCell ⟨b, 3, none⟩ x3).setCell ⟨b, 4, none⟩ x4) := by
  obtain ⟨g0, n0, rfl⟩ := h x0 (by simp)
  obtain ⟨g1, n1, rfl⟩ := h x1 (by simp)
  obtain ⟨g2, n2, rfl⟩ := h x2 (by simp)
  obtain ⟨g3, n3, rfl⟩ := h x3 (by simp)
  obtain ⟨g4, n4, rfl⟩ := h x4 (by simp)
  have c0 : w.cell? ⟨b, 0, none⟩ = some (.slice none 0 0) := hb.cell 0
  have c1 : w.cell? ⟨b, 1, none⟩ = some (.slice none 0 0) := hb.cell 1
  have c2 : w.cell? ⟨b, 2, none⟩ = some (.slice none 0 0) := hb.cell 2
  have c3 : w.cell? ⟨b, 3, none⟩ = some (.slice none 0 0) := hb.cell 3
  have c4 : w.cell? ⟨b, 4, none⟩ = some (.slice none 0 0) := hb.cell 4
  have f0 := hb.free 0
  have f1 := hb.free 1
  have f2 := hb.free 2
  have f3 := hb.free 3
  have f4 := hb.free 4
  simp [go_sem, c0, c1, c2, c3, c4, f0, f1, f2, f3, f4]

/-- A slice of n elements that 'make' has laid: its cells are C. -/
def Md (w : World) (B n : Nat) (x : Value) (t : TypeId) (C : Array Value) : Prop := ∃ g, x = .slice (some ⟨g, 0, none⟩) n n ∧ B ≤ g ∧ Blk w g t C

theorem Md.alloc {w : World} {B n : Nat} {x : Value} {t : TypeId} {C : Array Value} (h : Md w B n x t C) (o : Obj) : Md (w.alloc o) B n x t C := by
  obtain ⟨g, h1, h2, h3⟩ := h
  exact ⟨g, h1, h2, h3.alloc o⟩

theorem Md.new (w : World) (B n : Nat) (t : TypeId) (C : Array Value) (hB : B ≤ w.heap.size) : Md (w.alloc (.cells C t)) B n (.slice (some ⟨w.heap.size, 0, none⟩) n n) t C := ⟨_, rfl, hB, Blk.new w t C⟩

theorem Md.form {w : World} {B n : Nat} {x : Value} {t : TypeId} {C : Array Value} (h : Md w B n x t C) : ∃ g n', x = .slice (some ⟨g, 0, none⟩) n' n' := by
  obtain ⟨g, h1, _, _⟩ := h
  exact ⟨g, n, h1⟩

theorem Md.fresh {w : World} {B n : Nat} {x : Value} {t : TypeId} {C : Array Value} (h : Md w B n x t C) : x ≠ .slice (some ⟨w.heap.size, 0, none⟩) n n := by
  obtain ⟨g, h1, _, h3⟩ := h
  rintro rfl
  simp at h1
  have := h3.lt
  omega

theorem Md.kept {w w' : World} {B n : Nat} {x : Value} {t : TypeId} {C : Array Value} {S : Nat → Prop} (h : Md w B n x t C) (hk : Keeps w w' S) (hs : ∀ g, Blk w g t C → ¬ S g) : Md w' B n x t C := by
  obtain ⟨g, h1, h2, h3⟩ := h
  exact ⟨g, h1, h2, h3.kept hk (hs g h3)⟩

/-- What holds when the operations p are done. -/
structure TX (w0 : World) (n : Nat) (p : Nat → Bool) (w : World) (x6 x12 x13 x14 x15 x16 x17 x18 x19 x20 x21 x22 : Value) : Prop where
  c0 : p 0 = true → x12 = .int .i64 n
  c2 : p 2 = true → x14 = .int .i64 n
  c4 : p 4 = true → x16 = .int .i64 n
  c6 : p 6 = true → x18 = .int .i64 n
  c8 : p 8 = true → x20 = .int .i64 n
  m1 : p 1 = true → Md w w0.heap.size n x13 4 (madeCells #[.bool false] n)
  m3 : p 3 = true → Md w w0.heap.size n x15 62 (madeCells #[.pointer none] n)
  m5 : p 5 = true → Md w w0.heap.size n x17 3 (madeCells #[.int .i64 0] n)
  m7 : p 7 = true → Md w w0.heap.size n x19 4 (madeCells #[.bool false] n)
  m9 : p 9 = true → Md w w0.heap.size n x21 39 (madeCells zeroC (n * 8))
  d : p 1 = true → p 7 = true → x13 ≠ x19
  b10 : p 10 = true → x22 = .agg #[x13, x15, x17, x19, x21] ∧ p 1 = true ∧ p 3 = true ∧ p 5 = true ∧ p 7 = true ∧ p 9 = true
  a11 : p 11 = true → ∃ b, x6 = ptr b ∧ w0.heap.size ≤ b ∧ Blk w b 49 (if p 12 = true then #[x13, x15, x17, x19, x21] else zero5)
  e12 : p 12 = true → p 10 = true ∧ p 11 = true
  bel : Below w0.heap.size w0 w

/-- The operations before. -/
def depT (p : Nat → Bool) : Nat → Bool
  | 1 => p 0
  | 3 => p 2
  | 5 => p 4
  | 7 => p 6
  | 9 => p 8
  | 10 => p 1 && p 3 && p 5 && p 7 && p 9
  | 12 => p 10 && p 11 && p 0 && p 1 && p 2 && p 3 && p 4 && p 5 && p 6 && p 7 && p 8 && p 9
  | _ => true

def opT : Nat → Op
  | 0 => .move (.tmp 5)
  | 1 => .makeSlice 44 (.tmp 12) (.tmp 12)
  | 2 => .move (.tmp 5)
  | 3 => .makeSlice 45 (.tmp 14) (.tmp 14)
  | 4 => .move (.tmp 5)
  | 5 => .makeSlice 46 (.tmp 16) (.tmp 16)
  | 6 => .move (.tmp 5)
  | 7 => .makeSlice 44 (.tmp 18) (.tmp 18)
  | 8 => .move (.tmp 5)
  | 9 => .makeSlice 47 (.tmp 20) (.tmp 20)
  | 10 => .build 49 #[(0, .tmp 13), (1, .tmp 15), (2, .tmp 17), (3, .tmp 19), (4, .tmp 21)]
  | 11 => .alloc 49
  | _ => .store 49 (.tmp 6) (.tmp 22)

def dstT : Nat → Option Tmp
  | 0 => some 12
  | 1 => some 13
  | 2 => some 14
  | 3 => some 15
  | 4 => some 16
  | 5 => some 17
  | 6 => some 18
  | 7 => some 19
  | 8 => some 20
  | 9 => some 21
  | 10 => some 22
  | 11 => some 6
  | _ => none

/-- The region's operations. -/
structure TakeOps (ops : Array Oper) : Prop where
  sz : ops.size = 13
  o : ∀ i, i < 13 → ∃ o, ops[i]? = some o ∧ o.guard = none ∧ o.op = opT i ∧ o.dst = dstT i ∧ ∀ listed : Array Bool, (o.after.all fun e => !Region.binds .any e || listed.getD e.on false) = depT (fun j => listed.getD j false) i
end Go.Proofs.Qxb6605835a
