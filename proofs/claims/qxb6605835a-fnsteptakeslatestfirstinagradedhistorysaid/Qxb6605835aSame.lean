import Derived.Test.Qxb6605835aKnown
namespace Go.Proofs.Qxb6605835a
open Go.ChangeShapes Go.WideShapes Go.ChangeAt Go.RowKit
set_option linter.unusedVariables false

set_option maxHeartbeats 4000000 in
set_option maxRecDepth 8000 in
/-- A commit is the same as itself. -/
theorem same_any (c : Cm) (w : World) (hp : Par w c) :
    Calls Try.prog 16 #[cval c, cval c] w fun e w' => e = .returned (.bool true) ∧ Below w.heap.size w w' := by
  have HB : Hid (Below w.heap.size w ((w.alloc (boxed c)).alloc (boxed c))) := ((Below.refl _ _).alloc (Nat.le_refl _) _).alloc (by simp only [World.size_alloc]; omega) _
  have q22 : ∀ (w : World) (a : Option Addr) (n c n' c' : Nat), (binOp .eql 22 (.slice a n c) (.slice none n' c')).run Try.prog w = .ok (.bool a.isNone) w := fun w a n c n' c' => Lib.run_eql_slice_nil w _ _ a n c n' c' Try.underlying22
  have q37 : ∀ (w : World), (binOp .eql 37 (.map none) (.map none)).run Try.prog w = .ok (.bool true) w := fun w => run_eql_map_nil w _ _ _ none Try.underlying37
  have hpn := hp.2.1
  have HBC : Hid (∀ n : Nat, ∃ m : Nat, m = n) := fun n => ⟨n, rfl⟩
  have HP := hide (hp.kept (Keeps.of_below HB.out (fun _ => False)) (fun _ _ => id))
  clear hp
  obtain ⟨id, pa, pn, pc, ps, com, msg, cr, mr, gen⟩ := c
  simp only at HP HB hpn ⊢
  have b1 : (id.toList != id.toList) = false := by simp
  have b2 : (com.toList != com.toList) = false := by simp
  have b3 : (msg.toList != msg.toList) = false := by simp
  have b4 : (cr != cr) = false := by simp
  have b5 : (mr.toList != mr.toList) = false := by simp
  have b6 : (gen != gen) = false := by simp
  have b7 : (pa.isNone != pa.isNone) = false := by simp
  have b8 : ((pn : Int) != (pn : Int)) = false := by simp
  go_enter Try.func16, Try.ntmps16
  go_wp2_with fail
  go_loopw [5] (fun i wr => ∃ k : Nat, k ≤ pn ∧ i = .int .i64 k ∧ Hid (Below w.heap.size w wr ∧ Below ((w.alloc (boxed ⟨id, pa, pn, pc, ps, com, msg, cr, mr, gen⟩)).alloc (boxed ⟨id, pa, pn, pc, ps, com, msg, cr, mr, gen⟩)).heap.size ((w.alloc (boxed ⟨id, pa, pn, pc, ps, com, msg, cr, mr, gen⟩)).alloc (boxed ⟨id, pa, pn, pc, ps, com, msg, cr, mr, gen⟩)) wr)) (fun i _ => pn - (intOf i).toNat)
  case atStart => exact ⟨0, Nat.zero_le _, rfl, HB.out, Below.refl _ _⟩
  case round =>
    obtain ⟨k, hk, rfl, HR⟩ := hrel
    have x1 : wr.cell? ⟨w.heap.size, 1, none⟩ = some (.slice pa pn pc) := (((Blk.new w 39 _).alloc _).below HR.out.2 (by simp only [World.size_alloc]; omega)).cell 1
    have y1 : wr.cell? ⟨w.heap.size + 1, 1, none⟩ = some (.slice pa pn pc) := by
      have := Blk.new (w.alloc (boxed ⟨id, pa, pn, pc, ps, com, msg, cr, mr, gen⟩)) 39 #[.string id, .slice pa pn pc, .string com, .string msg, .int .i64 cr, .map none, .string mr, .int .i64 gen]
      rw [World.size_alloc] at this
      exact (this.below HR.out.2 (by simp only [World.size_alloc]; omega)).cell 1
    have x5 : wr.cell? ⟨w.heap.size, 5, none⟩ = some (.map none) := (((Blk.new w 39 _).alloc _).below HR.out.2 (by simp only [World.size_alloc]; omega)).cell 5
    have y5 : wr.cell? ⟨w.heap.size + 1, 5, none⟩ = some (.map none) := by
      have := Blk.new (w.alloc (boxed ⟨id, pa, pn, pc, ps, com, msg, cr, mr, gen⟩)) 39 #[.string id, .slice pa pn pc, .string com, .string msg, .int .i64 cr, .map none, .string mr, .int .i64 gen]
      rw [World.size_alloc] at this
      exact (this.below HR.out.2 (by simp only [World.size_alloc]; omega)).cell 5
    by_cases hlt : k < pn
    · obtain ⟨pb, off, hpa, hj, rk⟩ := HP.out.row HR.out.2 k hlt
      simp only at hpa hj rk
      have bs : (ps[k].toList != ps[k].toList) = false := by simp
      generalize ps[k] = s at *
      clear hj
      subst hpa
      go_wp2_with fail
      go_quiet (fail)
      go_wp2_with fail
      go_roundw
      case rel => exact ⟨k + 1, by omega, by go_num, below_drewN HR.out.1 _, below_drewN HR.out.2 _⟩
      case measure => simp [intOf]; omega
    · go_wp2_with fail
      go_ret
      exact ⟨rfl, HR.out.1⟩

set_option maxHeartbeats 2000000 in
theorem hasParent_any (c : Cm) (s : ByteArray) (w : World) (hp : Par w c) :
    Calls Try.prog 46 #[cval c, .string s] w fun e w' => e = .returned (.bool (hasId c.ps s)) ∧ Below w.heap.size w w' := by
  have HB : Hid (Below w.heap.size w (w.alloc (boxed c))) := (Below.refl _ _).alloc (Nat.le_refl _) _
  have hpn := hp.2.1
  have HP := hide (hp.kept (Keeps.of_below HB.out (fun _ => False)) (fun _ _ => id))
  clear hp
  obtain ⟨id, pa, pn, pc, ps, com, msg, cr, mr, gen⟩ := c
  simp only at HP HB hpn ⊢
  have HL : Hid (pn = ps.length) := HP.out.1
  go_enter Try.func46, Try.ntmps46
  go_wp2_with fail
  go_loop [5] (fun i => ∃ k : Nat, k ≤ pn ∧ i = .int .i64 k ∧ Hid (∀ j (hj : j < ps.length), j < k → (ps[j].toList == s.toList) = false)) (fun i => pn - (intOf i).toNat)
  case atStart => exact ⟨0, Nat.zero_le _, rfl, fun j _ h => by omega⟩
  case round =>
    obtain ⟨k, hk, rfl, HF⟩ := hrel
    by_cases hlt : k < pn
    · obtain ⟨pb, off, hpa, hj, rk⟩ := HP.out.row (Below.refl _ _) k hlt
      simp only at hpa hj rk
      have HR : Hid ((ps[k].toList == s.toList) = true → hasId ps s = true) := hide fun h => by
        unfold hasId
        rw [List.any_eq_true]
        exact ⟨_, List.getElem_mem hj, h⟩
      have HF' : Hid ((ps[k].toList == s.toList) = false → ∀ j (hj : j < ps.length), j < k + 1 → (ps[j].toList == s.toList) = false) := hide fun h j hj hjk => by
        by_cases e : j = k
        · subst e; exact h
        · exact HF.out j hj (by omega)
      generalize ps[k] = t at *
      clear hj
      subst hpa
      cases hb : (t.toList == s.toList) with
      | true =>
        have HRR := hide (HR.out hb)
        go_wp2_with fail
        go_ret
        exact ⟨ret_bool HRR.out.symm, HB.out⟩
      | false =>
        have HFF := hide (HF'.out hb)
        go_wp2_with fail
        go_round
        case rel => exact ⟨k + 1, by omega, by go_num, HFF.out⟩
        case measure => simp [intOf]; omega
    · have HR : Hid (hasId ps s = false) := hide (by
        unfold hasId
        rw [List.any_eq_false]
        intro x hx
        obtain ⟨j, hj, rfl⟩ := List.mem_iff_getElem.1 hx
        rw [HF.out j hj (by have := HL.out; omega)]
        decide)
      go_wp2_with fail
      go_ret
      exact ⟨ret_bool HR.out.symm, HB.out⟩

theorem size62 : (Try.prog.info? 62).map (·.size) = some 1 := by kernel_rfl

theorem make45 (n : Nat) (hn : n ≤ 1000000) (w : World) : (Instr.makeSlice 45 (.int .i64 n) (.int .i64 n)).run Try.prog w = .ok (.slice (some ⟨w.heap.size, 0, none⟩) n n) (w.alloc (.cells (madeCells #[.pointer none] n) 62)) := by
  obtain ⟨i0, hi, hz0, hz1, hz2⟩ := info_parts info62
  have := run_make (P := Try.prog) (w := w) 45 62 i0 (.pointer none) Try.underlying45 hi hz0 .i64 .i64 (n : Int) (n : Int) (by omega) (Int.le_refl _) (by rw [hz2]; omega) (by omega)
  rw [hz1] at this
  simpa [Value.cells] using this

set_option maxHeartbeats 2000000 in
theorem cloneNodes_any {w : World} {B : Nat} {sp : Option Addr} {n cap : Nat} {l : List Nat} (h : Own w B (.slice sp n cap) l) (hl : l.length ≤ 1000000) :
    Calls Try.prog 45 #[.slice sp n cap] w fun e w' => ∃ g, e = .returned (.slice (some ⟨g, 0, none⟩) l.length l.length) ∧ Blk w' g 62 (l.map ptr).toArray ∧ w.heap.size ≤ g ∧ Below w.heap.size w w' := by
  have hn : n = l.length := by
    rcases h.2 with ⟨hv, h0⟩ | ⟨g, cap, cur, hv, _⟩
    · simp at hv; omega
    · simp at hv; exact hv.2.1
  have hsrc : l.length = 0 ∨ ∃ b off, sp = some ⟨b, off, none⟩ ∧ ∀ j (hj : j < (l.map ptr).length), (w.alloc (.cells (madeCells #[.pointer none] l.length) 62)).cell? ⟨b, off + j, none⟩ = some (l.map ptr)[j] := by
    rcases h.2 with ⟨hv, h0⟩ | ⟨g, cap', cur, hv, _⟩
    · exact .inl h0
    · simp at hv
      obtain ⟨rfl, rfl, rfl⟩ := hv
      refine .inr ⟨g, 0, rfl, fun j hj => ?_⟩
      have hj' : j < l.length := by simpa using hj
      rw [Nat.zero_add, cell_below ((Below.refl _ _).alloc (Nat.le_refl _) _) (h.cell j hj')]
      simp
  have hsz : (madeCells #[Value.pointer none] l.length).toList.length = l.length := by simp [madeCells]
  obtain ⟨w2, hcp, hg, hk⟩ := copy_run 45 62 (w1 := w.alloc (.cells (madeCells #[.pointer none] l.length) 62)) (g := w.heap.size) (n := l.length) (cap := cap) (sp := sp) (X := l.map ptr) (xs := (madeCells #[.pointer none] l.length).toList) Try.underlying45 size62 (by
    have := Blk.new w 62 (madeCells #[.pointer none] l.length)
    unfold Blk at this
    rw [this]) hsz (by simp) hsrc (by intro v hv; obtain ⟨s, _, rfl⟩ := List.mem_map.1 hv; rfl)
  have HE := hide (And.intro hg hk)
  have m45 := make45 l.length hl
  clear h hsrc hsz hg hk
  subst hn
  go_enter Try.func45, Try.ntmps45
  go_wp2
  go_ret
  refine ⟨w.heap.size, rfl, HE.out.1, Nat.le_refl _, ?_⟩
  exact ((Below.refl _ _).alloc (Nat.le_refl _) _).trans (HE.out.2.below (by simp only [World.size_alloc]; omega) (fun k e => by omega))
end Go.Proofs.Qxb6605835a
