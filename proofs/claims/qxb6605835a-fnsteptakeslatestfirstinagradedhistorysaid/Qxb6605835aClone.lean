import Derived.Test.Qxb6605835aSum
import Derived.Laws.CopyOwn
import Derived.OwnWalk
import Derived.WalkSpells
namespace Go.Proofs.Qxb6605835a
open Go.ChangeShapes Go.WideShapes Go.ChangeAt Go.RowKit
set_option linter.unusedVariables false

theorem info9 : (Try.prog.info? 9).map (fun i => (i.zero, i.size, i.bytes)) = some (some (.string ⟨#[]⟩), 1, 16) := by kernel_rfl
theorem size9 : (Try.prog.info? 9).map (·.size) = some 1 := by kernel_rfl

/-- What 'make' of n elements lays. -/
theorem own_full {w : World} {B g n size : Nat} {e : TypeId} {xs : List Value} (h : w.ownsRow B e size (.slice (some ⟨g, 0, none⟩) n n) n xs) : w.heap[g]? = some (.cells xs.toArray e (0, 0)) ∧ xs.length = n * size := by
  refine ⟨?_, h.1⟩
  rcases h.2 with ⟨hv, _⟩ | ⟨g', cap, cur, hv, hb, hh, hn, hm, hs, ht⟩
  · simp at hv
  · simp at hv
    obtain ⟨rfl, rfl⟩ := hv
    have : cur.toList = xs := by
      rw [← ht, List.take_of_length_le]
      simp [hs]
    rw [hh, ← this]

theorem grown_below {w w' : World} (h : w.grownBy w' none) : Below w.heap.size w w' := ⟨h.os, h.tape, h.output, h.size, fun k hk => h.block k hk (by simp)⟩

/-- 'copy' of a whole row into a row of the same length. -/
theorem copy_run (T elem : TypeId) {w1 : World} {g n cap : Nat} {sp : Option Addr} {X xs : List Value} (hu : Try.prog.underlying T = some (.slice elem)) (hs : (Try.prog.info? elem).map (·.size) = some 1)
    (hg : w1.heap[g]? = some (.cells xs.toArray elem (0, 0))) (hxs : xs.length = n) (hX : X.length = n) (hsrc : n = 0 ∨ ∃ b off, sp = some ⟨b, off, none⟩ ∧ ∀ j (h : j < X.length), w1.cell? ⟨b, off + j, none⟩ = some X[j]) (h1 : ∀ v ∈ X, v.oneCell' = true) :
    ∃ w2, (∀ ty, (Builtin.copy_ #[T, T] ty #[.slice (some ⟨g, 0, none⟩) n n, .slice sp n cap]).run Try.prog w1 = .ok (goInt n) w2) ∧ w2.heap[g]? = some (.cells X.toArray elem (0, 0)) ∧ Keeps w1 w2 (· = g) := by
  by_cases h0 : n = 0
  · subst h0
    refine ⟨w1, fun ty => ?_, ?_, Keeps.refl _ _⟩
    · exact run_copy_none w1 T T ty elem _ _ _ _ _ _ hu hs (by simp)
    · rw [hg, List.eq_nil_of_length_eq_zero hxs, List.eq_nil_of_length_eq_zero hX]
  · rcases hsrc with h | ⟨b, off, rfl, hc⟩
    · exact absurd h h0
    refine ⟨w1.setRow g X.toArray, fun ty => ?_, setRow_heap w1 g _ _ elem _ hg, ⟨rfl, rfl, rfl, by simp [World.setRow], fun k _ hk => setRow_other w1 g k _ hk⟩⟩
    have := run_copy_row (P := Try.prog) w1 T T ty elem g 0 n n ⟨b, off, none⟩ n cap xs.toArray elem X hu hs hg (by rw [hX]; simp) (fun j v hj => by
      obtain ⟨hj', e⟩ := List.getElem?_eq_some_iff.1 hj
      rw [Addr.add_lit, hc j hj', e]) (by simp; omega) h1
    rw [this, hX]
    simp [List.drop_of_length_le, hxs]

set_option maxHeartbeats 2000000 in
set_option maxRecDepth 8000 in
theorem cloneStrings_some (c : Cm) (pb : Addr) (w : World) (hp : ParA w c) (hpa : c.pa = some pb) (hl : c.pn ≤ 1000000) :
    Calls Try.prog 36 #[.slice (some pb) c.pn c.pc] w fun e w' => ∃ pa' pc', e = .returned (.slice pa' c.pn pc') ∧ Below w.heap.size w w' ∧ Par w' { c with pa := pa', pc := pc' } ∧ ∀ a, pa' = some a → w.heap.size ≤ a.block := by
  obtain ⟨i0, hi, hz0, hz1, hz2⟩ := info_parts info9
  have HI := hide (And.intro hi (And.intro hz0 (And.intro hz1 hz2)))
  clear hi hz0 hz1 hz2
  have q22 : ∀ (w : World) (a : Option Addr) (n c n' c' : Nat), (binOp .eql 22 (.slice a n c) (.slice none n' c')).run Try.prog w = .ok (.bool a.isNone) w := fun w a n c n' c' => Lib.run_eql_slice_nil w _ _ a n c n' c' Try.underlying22
  obtain ⟨n, hn⟩ : ∃ n, n = c.pn := ⟨_, rfl⟩
  rw [← hn] at hl ⊢
  have HC : Hid (∀ (w1 : World) xs, w1.heap[w.heap.size]? = some (.cells (List.toArray xs) 9 (0, 0)) → xs.length = n → Below w.heap.size w w1 →
      ∃ w2, (∀ ty, (Builtin.copy_ #[22, 22] ty #[.slice (some ⟨w.heap.size, 0, none⟩) n n, .slice (some pb) n c.pc]).run Try.prog w1 = .ok (goInt n) w2) ∧ Hid (Below w.heap.size w w2 ∧ Par w2 { c with pa := some ⟨w.heap.size, 0, none⟩, pc := n })) := hide (fun w1 xs h hx hb => by
    obtain ⟨h1, h2, h3, h4⟩ := hp
    have hX : (c.ps.map (fun s => Value.string s)).length = n := by rw [List.length_map, hn, h1]
    obtain ⟨w2, hr, hg, hk⟩ := copy_run 22 9 (cap := c.pc) (sp := some pb) (X := c.ps.map (fun s => Value.string s)) Try.underlying22 size9 h hx hX (by
      rcases h4 with h4 | ⟨b, off, e, hc⟩
      · exact .inl (hn.trans h4)
      · refine .inr ⟨b, off, hpa.symm.trans e, fun j hj => ?_⟩
        have hj' : j < c.ps.length := by simpa using hj
        rw [cell_below hb (hc j hj')]
        simp) (by intro v hv; obtain ⟨s, _, rfl⟩ := List.mem_map.1 hv; rfl)
    refine ⟨w2, hr, hb.trans (hk.below hb.size (fun k e => by omega)), h1, by show c.pn ≤ _; omega, .inr ⟨w.heap.size, 0, rfl, fun j hj => ?_⟩⟩
    have hj' : j < c.ps.length := hj
    have := Blk.cell (w := w2) (t := 9) hg (0 + j)
    rw [this, Nat.zero_add]
    simp [hj'])
  have HN := hide hn
  clear hp hpa hn
  go_enter Try.func36, Try.ntmps36
  go_wp2_with ((at_make; refine wpList_make_full _ rfl _ _ 22 rfl w.heap.size 9 i0 (.string ⟨#[]⟩) 1 Try.underlying22 HI.out.1 HI.out.2.1 HI.out.2.2.1 _ _ _ _ n rfl rfl rfl rfl (by rw [HI.out.2.2.2]; omega) (by unfold maxLen; omega) (Nat.le_refl _) ?_; intro w1 hown hgrow; have hf := own_full hown; obtain ⟨w2, hcp, HW2⟩ := HC.out w1 _ hf.1 (by rw [hf.2, Nat.mul_one]) (grown_below hgrow); clear hown hgrow hf))
  go_ret
  exact ⟨_, _, rfl, HW2.out.1, by rw [HN.out]; exact HW2.out.2, fun a ha => by cases ha; exact Nat.le_refl _⟩

set_option maxHeartbeats 2000000 in
theorem cloneStrings_nil (pc : Nat) (w : World) :
    Calls Try.prog 36 #[.slice none 0 pc] w fun e w' => e = .returned (.slice none 0 0) ∧ Below w.heap.size w w' := by
  have q22 : ∀ (w : World) (a : Option Addr) (n c n' c' : Nat), (binOp .eql 22 (.slice a n c) (.slice none n' c')).run Try.prog w = .ok (.bool a.isNone) w := fun w a n c n' c' => Lib.run_eql_slice_nil w _ _ a n c n' c' Try.underlying22
  go_enter Try.func36, Try.ntmps36
  go_wp2
  go_ret
  exact ⟨rfl, Below.refl _ _⟩

theorem cloneStrings_any (c : Cm) (w : World) (hp : ParA w c) (hl : c.pn ≤ 1000000) :
    Calls Try.prog 36 #[.slice c.pa c.pn c.pc] w fun e w' => ∃ pa' pc', e = .returned (.slice pa' c.pn pc') ∧ Below w.heap.size w w' ∧ Par w' { c with pa := pa', pc := pc' } ∧ ∀ a, pa' = some a → w.heap.size ≤ a.block := by
  cases hpa : c.pa with
  | some pb => exact cloneStrings_some c pb w hp hpa hl
  | none =>
    have h0 := hp.2.2.1 hpa
    have h1 := hp.1
    rw [h0]
    refine (cloneStrings_nil c.pc w).mono ?_
    rintro e w' ⟨rfl, hb⟩
    exact ⟨none, 0, rfl, hb, ⟨by rw [h0] at h1; exact h1, Nat.zero_le _, .inl rfl⟩, fun a ha => by cases ha⟩

abbrev zeroZ : Array Value := #[.string ⟨#[]⟩, .slice none 0 0, .string ⟨#[]⟩, .string ⟨#[]⟩, .int .i64 0, .string ⟨#[]⟩, .int .i64 0]
abbrev zarr (c : Cm) : Array Value := #[.string c.id, .slice c.pa c.pn c.pc, .string c.com, .string c.msg, .int .i64 c.cr, .string c.mr, .int .i64 c.gen]

theorem cells7 {w : World} {b : Nat} {t : TypeId} {a0 a1 a2 a3 a4 a5 a6 : Value} (h : Blk w b t #[a0, a1, a2, a3, a4, a5, a6]) :
    (w.cell? ⟨b, 0, none⟩ = some a0 ∧ w.cell? ⟨b, 1, none⟩ = some a1 ∧ w.cell? ⟨b, 2, none⟩ = some a2 ∧ w.cell? ⟨b, 3, none⟩ = some a3 ∧ w.cell? ⟨b, 4, none⟩ = some a4 ∧ w.cell? ⟨b, 5, none⟩ = some a5 ∧ w.cell? ⟨b, 6, none⟩ = some a6) ∧
    (w.frozen? ⟨b, 0, none⟩ = false ∧ w.frozen? ⟨b, 1, none⟩ = false ∧ w.frozen? ⟨b, 2, none⟩ = false ∧ w.frozen? ⟨b, 3, none⟩ = false ∧ w.frozen? ⟨b, 4, none⟩ = false ∧ w.frozen? ⟨b, 5, none⟩ = false ∧ w.frozen? ⟨b, 6, none⟩ = false) :=
  ⟨⟨h.cell 0, h.cell 1, h.cell 2, h.cell 3, h.cell 4, h.cell 5, h.cell 6⟩, ⟨h.free 0, h.free 1, h.free 2, h.free 3, h.free 4, h.free 5, h.free 6⟩⟩

/-- Seven cells stored from offset o on. -/
def set7 (w : World) (b o : Nat) (v0 v1 v2 v3 v4 v5 v6 : Value) : World :=
  ((((((w.setCell ⟨b, o, none⟩ v0).setCell ⟨b, o + 1, none⟩ v1).setCell ⟨b, o + 2, none⟩ v2).setCell ⟨b, o + 3, none⟩ v3).setCell ⟨b, o + 4, none⟩ v4).setCell ⟨b, o + 5, none⟩ v5).setCell ⟨b, o + 6, none⟩ v6

theorem store7 {w1 : World} {b : Nat} (h : Blk w1 b 24 zeroZ) (v0 v1 v2 v3 v4 v5 v6 : Value) : Blk (set7 w1 b 0 v0 v1 v2 v3 v4 v5 v6) b 24 #[v0, v1, v2, v3, v4, v5, v6] := by
  have h0 : Blk _ b 24 #[v0, .slice none 0 0, .string ⟨#[]⟩, .string ⟨#[]⟩, .int .i64 0, .string ⟨#[]⟩, .int .i64 0] := h.set 0 v0
  have h1 : Blk _ b 24 #[v0, v1, .string ⟨#[]⟩, .string ⟨#[]⟩, .int .i64 0, .string ⟨#[]⟩, .int .i64 0] := h0.set 1 v1
  have h2 : Blk _ b 24 #[v0, v1, v2, .string ⟨#[]⟩, .int .i64 0, .string ⟨#[]⟩, .int .i64 0] := h1.set 2 v2
  have h3 : Blk _ b 24 #[v0, v1, v2, v3, .int .i64 0, .string ⟨#[]⟩, .int .i64 0] := h2.set 3 v3
  have h4 : Blk _ b 24 #[v0, v1, v2, v3, v4, .string ⟨#[]⟩, .int .i64 0] := h3.set 4 v4
  have h5 : Blk _ b 24 #[v0, v1, v2, v3, v4, v5, .int .i64 0] := h4.set 5 v5
  exact h5.set 6 v6

theorem keeps7 {w w1 : World} {S : Nat → Prop} (h : Keeps w w1 S) {b : Nat} (o : Nat) (hb : S b ∨ w.heap.size ≤ b) (v0 v1 v2 v3 v4 v5 v6 : Value) : Keeps w (set7 w1 b o v0 v1 v2 v3 v4 v5 v6) S :=
  ((((((h.set b _ _ hb).set b _ _ hb).set b _ _ hb).set b _ _ hb).set b _ _ hb).set b _ _ hb).set b _ _ hb

theorem Par.kept {w w' : World} {c : Cm} {S : Nat → Prop} (h : Par w c) (hk : Keeps w w' S) (hs : ∀ a, c.pa = some a → ¬ S a.block) : Par w' c := by
  obtain ⟨h1, h2, h3⟩ := h
  refine ⟨h1, h2, ?_⟩
  rcases h3 with h3 | ⟨b, off, e, hc⟩
  · exact .inl h3
  · refine .inr ⟨b, off, e, fun j hj => ?_⟩
    have := hc j hj
    have hlt := World.block_lt_of_cell? w _ this
    rw [World.cell?_of_block (hk.block b hlt (hs _ e))]
    exact this

theorem ret9 {Q : Ending → World → Prop} {W' : World} {b : Nat} {tm : Array Value} (c : Cm) (h4 : tm[2]?.getD undef = .pointer (some ⟨b, 0, none⟩))
    (hb : Blk W' b 24 (zarr c)) (hQ : Q (.returned (zval c)) W') : bodyPost Try.prog Try.f9 Q Exit.ret { tmps := tm, defers := [] } W' := by
  obtain ⟨⟨r0, r1, r2, r3, r4, r5, r6⟩, -⟩ := cells7 hb
  exact bodyPost_ret (v := zval c) (by simp [results, Try.results9, go_sem, h4, r0, r1, r2, r3, r4, r5, r6]) rfl hQ

/-- A clone: the same but for where the parents lie. -/
def CloneOf (w w' : World) (c c' : Cm) : Prop := c'.id = c.id ∧ c'.pn = c.pn ∧ c'.gen = c.gen ∧ Par w' c' ∧ ∀ a, c'.pa = some a → w.heap.size ≤ a.block

set_option maxHeartbeats 2000000 in
theorem cloneZ_any (c : Cm) (w : World) (hp : ParA w c) (hl : c.pn ≤ 1000000) :
    Calls Try.prog 9 #[zval c] w fun e w' => ∃ c', e = .returned (zval c') ∧ Below w.heap.size w w' ∧ CloneOf w w' c c' := by
  have hb0 : Below w.heap.size w ((w.alloc (.cells (zarr c) 24)).alloc (.cells zeroZ 24)) := ((Below.refl _ _).alloc (Nat.le_refl _) _).alloc (by simp only [World.size_alloc]; omega) _
  have HC := hide (cloneStrings_any c _ (hp.below hb0) hl)
  have HB0 := hide hb0
  have HX := hide ((Blk.new w 24 (zarr c)).alloc (.cells zeroZ 24))
  have hy := Blk.new (w.alloc (.cells (zarr c) 24)) 24 zeroZ
  rw [World.size_alloc] at hy
  have HY := hide hy
  clear hp hb0 hy
  go_enter Try.func9, Try.ntmps9
  go_wp2_with fail
  refine HC.out.mono ?_
  rintro e w1 ⟨pa', pc', rfl, hb1, hpar, hfr⟩
  have hx1 : Blk w1 w.heap.size 24 (zarr c) := HX.out.below hb1 (by simp only [World.size_alloc]; omega)
  have hy1 : Blk w1 (w.heap.size + 1) 24 zeroZ := HY.out.below hb1 (by simp only [World.size_alloc]; omega)
  obtain ⟨⟨x0, x1, x2, x3, x4, x5, x6⟩, ⟨f0, f1, f2, f3, f4, f5, f6⟩⟩ := cells7 hx1
  obtain ⟨⟨y0, y1, y2, y3, y4, y5, y6⟩, ⟨g0, g1, g2, g3, g4, g5, g6⟩⟩ := cells7 hy1
  have HB1 : Hid (Below w.heap.size w w1) := after HB0.out hb1
  have HE : Hid (∀ w', w' = set7 (w1.setCell ⟨w.heap.size, 1, none⟩ (.slice pa' c.pn pc')) (w.heap.size + 1) 0 (.string c.id) (.slice pa' c.pn pc') (.string c.com) (.string c.msg) (.int .i64 c.cr) (.string c.mr) (.int .i64 c.gen) →
      Below w.heap.size w w' ∧ Blk w' (w.heap.size + 1) 24 (zarr { c with pa := pa', pc := pc' }) ∧ CloneOf w w' c { c with pa := pa', pc := pc' }) := hide (by
    rintro w' rfl
    have hk1 : Keeps w1 (w1.setCell ⟨w.heap.size, 1, none⟩ (.slice pa' c.pn pc')) (fun k => k = w.heap.size ∨ k = w.heap.size + 1) := (Keeps.refl _ _).set _ _ _ (.inl (.inl rfl))
    have hk := keeps7 hk1 (b := w.heap.size + 1) 0 (.inl (.inr rfl)) (.string c.id) (.slice pa' c.pn pc') (.string c.com) (.string c.msg) (.int .i64 c.cr) (.string c.mr) (.int .i64 c.gen)
    have hsz : ((w.alloc (.cells (zarr c) 24)).alloc (.cells zeroZ 24)).heap.size = w.heap.size + 2 := by simp only [World.size_alloc]
    refine ⟨HB1.out.trans (hk.below HB1.out.size (fun k e => by omega)), store7 (hy1.set_other 1 _ (by omega)) _ _ _ _ _ _ _, rfl, rfl, rfl, hpar.kept hk (fun a ha => ?_), fun a ha => ?_⟩
    · have := hfr a ha
      omega
    · have := hfr a ha
      omega)
  clear hb1 hpar hfr hx1 hy1 HX HY
  go_wp2_with fail
  obtain ⟨h1, h2, h3⟩ := HE.out _ rfl
  exact ret9 { c with pa := pa', pc := pc' } rfl h2 ⟨_, rfl, h1, h3⟩
end Go.Proofs.Qxb6605835a
