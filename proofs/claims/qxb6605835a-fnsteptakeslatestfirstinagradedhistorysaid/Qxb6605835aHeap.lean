import Derived.Test.Qxb6605835aMem
import Derived.Deep.RegionHeld2
import Derived.Deep.DeepCutAuto
namespace Go.Proofs.Qxb6605835a
open Go.ChangeShapes Go.WideShapes Go.ChangeAt Go.RowKit
set_option linter.unusedVariables false

set_option maxHeartbeats 400000 in
theorem order_any (c : Cm) (w : World) :
    Calls Try.prog 80 #[.agg #[.string c.id, .slice c.pa c.pn c.pc, .string c.com, .string c.msg, .int .i64 c.cr, .map none, .string c.mr, .int .i64 c.gen]] w fun e w' => e = .returned (.int .i64 c.key) ∧ Below w.heap.size w w' := by
  obtain ⟨id, pa, pn, pc, ps, com, msg, cr, mr, gen⟩ := c
  by_cases h : gen = 0
  · subst h
    have HK : Hid (Cm.key ⟨id, pa, pn, pc, ps, com, msg, cr, mr, 0⟩ = cr) := rfl
    go_enter Try.func80, Try.ntmps80
    go_wp2
    go_ret
    exact ⟨ret_int HK.out.symm, (Below.refl _ _).alloc (Nat.le_refl _) _⟩
  · have HK : Hid (Cm.key ⟨id, pa, pn, pc, ps, com, msg, cr, mr, gen⟩ = gen) := if_neg h
    have hn : (gen != 0) = true := by simpa using h
    clear h
    go_enter Try.func80, Try.ntmps80
    go_wp2
    go_ret
    exact ⟨ret_int HK.out.symm, (Below.refl _ _).alloc (Nat.le_refl _) _⟩

/-- What the region of Less reads. -/
abbrev LessS (w : World) (g i j x y : Nat) (cx cy : Cm) (w' : World) : Prop :=
  w'.cell? ⟨g, i, none⟩ = some (ptr x) ∧ w'.cell? ⟨g, j, none⟩ = some (ptr y) ∧
  w'.cell? ⟨x, 0, none⟩ = some (.string cx.id) ∧ w'.cell? ⟨x, 1, none⟩ = some (.slice cx.pa cx.pn cx.pc) ∧ w'.cell? ⟨x, 2, none⟩ = some (.string cx.com) ∧ w'.cell? ⟨x, 3, none⟩ = some (.string cx.msg) ∧ w'.cell? ⟨x, 4, none⟩ = some (.int .i64 cx.cr) ∧ w'.cell? ⟨x, 5, none⟩ = some (.map none) ∧ w'.cell? ⟨x, 6, none⟩ = some (.string cx.mr) ∧ w'.cell? ⟨x, 7, none⟩ = some (.int .i64 cx.gen) ∧
  w'.cell? ⟨y, 0, none⟩ = some (.string cy.id) ∧ w'.cell? ⟨y, 1, none⟩ = some (.slice cy.pa cy.pn cy.pc) ∧ w'.cell? ⟨y, 2, none⟩ = some (.string cy.com) ∧ w'.cell? ⟨y, 3, none⟩ = some (.string cy.msg) ∧ w'.cell? ⟨y, 4, none⟩ = some (.int .i64 cy.cr) ∧ w'.cell? ⟨y, 5, none⟩ = some (.map none) ∧ w'.cell? ⟨y, 6, none⟩ = some (.string cy.mr) ∧ w'.cell? ⟨y, 7, none⟩ = some (.int .i64 cy.gen) ∧ Hid (Below w.heap.size w w')

theorem LessS.of {w w' : World} {g i j x y : Nat} {cx cy : Cm} (hx : w.cell? ⟨g, i, none⟩ = some (ptr x)) (hy : w.cell? ⟨g, j, none⟩ = some (ptr y)) (nx : IsNode w x cx) (ny : IsNode w y cy) (hb : Below w.heap.size w w') : LessS w g i j x y cx cy w' := by
  obtain ⟨x0, x1, x2, x3, x4, x5, x6, x7⟩ := (nx.below hb).cells
  obtain ⟨y0, y1, y2, y3, y4, y5, y6, y7⟩ := (ny.below hb).cells
  exact ⟨cell_below hb hx, cell_below hb hy, x0, x1, x2, x3, x4, x5, x6, x7, y0, y1, y2, y3, y4, y5, y6, y7, hb⟩

set_option maxHeartbeats 1000000 in
theorem less_any (g n cap i j x y : Nat) (cx cy : Cm) (w : World) (hi : i < n) (hj : j < n) (hn : n ≤ 1000000)
    (hx : w.cell? ⟨g, i, none⟩ = some (ptr x)) (hy : w.cell? ⟨g, j, none⟩ = some (ptr y)) (nx : IsNode w x cx) (ny : IsNode w y cy) :
    Calls Try.prog 78 #[.slice (some ⟨g, 0, none⟩) n cap, .int .i64 i, .int .i64 j] w fun e w' => e = .returned (.bool (cx.less cy)) ∧ Below w.heap.size w w' := by
  have HX := hide nx
  have HY := hide ny
  have HQX := hide hx
  have HQY := hide hy
  have HB : Hid (Below w.heap.size w w.drew) := (Below.refl _ _).drew
  clear nx ny hx hy
  go_enter Try.func78, Try.ntmps78
  go_wp2
  go_region_held2 (fun w' => LessS w g i j x y cx cy w') (exact LessS.of HQX.out HQY.out HX.out HY.out HB.out) ((go_at_call 80; refine (order_any _ _).mono ?_; rintro e w' ⟨rfl, hb⟩; have HB := chain (by assumption) hb; clear hb))
  have HL : Hid (cx.less cy = (decide (cy.key < cx.key) || (decide (cx.key = cy.key) && Op.bytesLess cx.id.toList cy.id.toList))) := rfl
  obtain ⟨q0, q1, x0, x1, x2, x3, x4, x5, x6, x7, y0, y1, y2, y3, y4, y5, y6, y7, HB'⟩ := LessS.of HQX.out HQY.out HX.out HY.out HB.out
  clear x1 x2 x3 x4 x5 x6 x7 y1 y2 y3 y4 y5 y6 y7 HX HY HQX HQY HB'
  generalize cx.key = kx at *
  generalize cy.key = ky at *
  by_cases h1 : ky < kx
  · have d1 : decide (ky < kx) = true := by simpa using h1
    go_wp2
    go_quiet (fail)
    go_wp2
    go_ret
    exact ⟨ret_bool (by rw [HL.out, d1]; rfl), below_drewN HB.out _⟩
  · have d1 : decide (ky < kx) = false := by simpa using h1
    by_cases h2 : kx = ky
    · subst h2
      have d2 : (kx == kx) = true := by simp
      go_wp2
      go_quiet (fail)
      go_wp2
      go_ret
      exact ⟨ret_bool (by rw [HL.out, d1]; simp), below_drewN HB.out _⟩
    · have d2 : (kx == ky) = false := by simpa using h2
      go_wp2
      go_quiet (fail)
      go_wp2
      go_ret
      exact ⟨ret_bool (by rw [HL.out, d1]; simp [h2]), below_drewN HB.out _⟩

set_option maxHeartbeats 400000 in
theorem swap_any (g n cap i j : Nat) (w : World) (hi : i < n) (hj : j < n) (hn : n ≤ 1000000) (x y : Nat) (hx : w.cell? ⟨g, i, none⟩ = some (ptr x)) (hy : w.cell? ⟨g, j, none⟩ = some (ptr y)) (hfx : w.frozen? ⟨g, i, none⟩ = false) (hfy : w.frozen? ⟨g, j, none⟩ = false) :
    Calls Try.prog 79 #[.slice (some ⟨g, 0, none⟩) n cap, .int .i64 i, .int .i64 j] w fun e w' => e = .returned (.tuple #[]) ∧ w' = ((w.setCell ⟨g, i, none⟩ (ptr y)).setCell ⟨g, j, none⟩ (ptr x)).drew := by
  obtain ⟨v', hy'⟩ := cell?_setCell_some (w := w) (p := ⟨g, i, none⟩) (x := ptr y) (q := ⟨g, j, none⟩) hy
  obtain ⟨v'', hx'⟩ := cell?_setCell_some (w := w) (p := ⟨g, j, none⟩) (x := ptr x) (q := ⟨g, i, none⟩) hx
  go_enter Try.func79, Try.ntmps79
  go_wp2
  go_region
  all_goals (go_end0; exact ⟨rfl, rfl⟩)

theorem len_any (a : Option Addr) (n cap : Nat) (w : World) :
    Calls Try.prog 77 #[.slice a n cap] w fun e w' => e = .returned (.int .i64 n) ∧ w = w' := by
  go_enter Try.func77, Try.ntmps77
  go_wp2
  go_ret
  exact ⟨rfl, rfl⟩

end Go.Proofs.Qxb6605835a
