import Derived.Test.Qxb6605835aLaw
namespace Go.Proofs.Qxb6605835a
open Go.ChangeShapes Go.WideShapes Go.ChangeAt Go.RowKit
set_option linter.unusedVariables false

section
variable {w w1 : World} {B : Nat → Prop} {wb mb : Nat} {fnv qv cv : Value} {K : Nat → Cm} {N : List Nd} {Q C : List Nat} {ung : Bool}

/-- A block of another type than the walk's is not the walk's. -/
theorem not_mine (h : WS w B wb mb fnv K N qv cv Q C ung) {b : Nat} {t : TypeId} {arr : Array Value} (hb : Blk w b t arr) (h1 : t ≠ 85) (h2 : t ≠ 92) (h3 : t ≠ 62) : ¬ mine w wb mb N qv cv b := by
  rintro (e | e | ⟨x, hx, e⟩ | e | e | e)
  · exact hb.ne h.ms.blk h1 e
  · exact h.ms.map.ne hb e
  · exact hb.ne (h.ms.nd x hx) h2 e.symm
  · obtain ⟨cur, hcur, _⟩ := ownBlock_blk h.ms.qown e
    exact hb.ne hcur h3 rfl
  · obtain ⟨cur, hcur, _⟩ := ownBlock_blk h.ms.cown e
    exact hb.ne hcur h3 rfl
  · have := hb.lt
    omega

/-- Nor is one that was made when the walk's were there. -/
theorem not_mine_new (h : WS w B wb mb fnv K N qv cv Q C ung) (h1 : WS w1 B wb mb fnv K N qv cv Q C ung) {b : Nat} (hl : w1.heap.size ≤ b) (hlt : b < w.heap.size) : ¬ mine w wb mb N qv cv b := by
  rintro (e | e | ⟨x, hx, e⟩ | e | e | e)
  · have := h1.ms.blk.lt; omega
  · have := h1.ms.map.lt; omega
  · have := (h1.ms.nd x hx).lt; omega
  · obtain ⟨cur, hcur, _⟩ := ownBlock_blk h1.ms.qown e
    have := hcur.lt; omega
  · obtain ⟨cur, hcur, _⟩ := ownBlock_blk h1.ms.cown e
    have := hcur.lt; omega
  · omega
end

theorem neqPtr (w : World) (a b : Nat) {ca cb : Array Value} (ha : Blk w a 92 ca) (hb : Blk w b 92 cb) : (binOp .neq 62 (ptr a) (ptr b)).run Try.prog w = .ok (.bool (decide (a ≠ b))) w := by
  obtain ⟨j, hj, hs⟩ := Option.map_eq_some_iff.1 info92
  have h : ∀ d : Nat, (Op.equalIn (d + 1) 62 (ptr a) (ptr b)).run Try.prog w = .ok (decide (a = b)) w := fun d => by
    by_cases e : a = b
    · subst e
      simp [Op.equalIn, run_underlying Try.underlying62, sizeOf, typeInfo, hj, run_sameAddr_same]
    · have hz : j.size ≠ 0 := by rw [hs]; decide
      simp [Op.equalIn, run_underlying Try.underlying62, sizeOf, typeInfo, hj, hz, e, run_sameAddr_other w (a := ⟨a, 0, none⟩) (b := ⟨b, 0, none⟩) (fun h => e (congrArg Addr.block h)) ha hb]
  simp only [binOp]
  simp [Op.equal, Op.maxDepth, h 9999]
end Go.Proofs.Qxb6605835a
