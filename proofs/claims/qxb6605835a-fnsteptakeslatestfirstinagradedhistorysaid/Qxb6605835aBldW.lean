import Derived.Test.Qxb6605835aBldQ
import Derived.Deep.RegionLaw
import Derived.Deep.AppendLies
namespace Go.Proofs.Qxb6605835a
open Go.ChangeShapes Go.WideShapes Go.ChangeAt Go.RowKit
set_option linter.unusedVariables false

/-- What zzBuildGraph promises. -/
def BuildPost (w : World) (a b : Cm) (T : List Cm) (M : List ByteArray) (e : Ending) (w' : World) : Prop :=
  ∃ (ng nc pg pc : Nat) (G : List Cm) (PI : List (List Nat)) (bi : Nat), e = .returned (.agg #[.slice (some ⟨ng, 0, none⟩) G.length nc, .slice (some ⟨pg, 0, none⟩) PI.length pc, .int .i64 bi]) ∧ BG a b T G PI bi ∧ PB w a b T M G ∧
    (∀ i (h : i < G.length), CAt w' ng (i * 8) G[i]) ∧ (∀ i (h : i < PI.length), ∃ rb, w'.cell? ⟨pg, i, none⟩ = some (.slice (some ⟨rb, 0, none⟩) PI[i].length PI[i].length) ∧ ∀ j (hj : j < PI[i].length), w'.cell? ⟨rb, j, none⟩ = some (.int .i64 PI[i][j])) ∧ Below w.heap.size w w'

/-- What the outer loop keeps. -/
def BO (w wr : World) (a b : Cm) (T : List Cm) (M : List ByteArray) (g6 g7 bi i : Nat) : Prop :=
  ∃ nv pv G PI R, BN w wr g7 nv pv bi G ∧ BR w wr pv PI R ∧ PB w a b T M G ∧ rowsOk G PI ∧ PI.length = i ∧ Blk wr g6 58 #[.slice none 0 0, .slice none 0 0, .int .i64 0]

theorem BR.form {w W : World} {pv : Value} {PI : List (List Nat)} {R : List Nat} (h : BR w W pv PI R) (hp : 0 < PI.length) : ∃ pg pc, pv = .slice (some ⟨pg, 0, none⟩) PI.length pc ∧ ∀ i (hi : i < PI.length) (hi' : i < R.length), W.cell? ⟨pg, i, none⟩ = some (.slice (some ⟨R[i], 0, none⟩) PI[i].length PI[i].length) := by
  rcases h.own.2 with ⟨hv, h0⟩ | ⟨g, cap, cur, hv, hb, hh, hn, hm, hs, ht⟩
  · omega
  · refine ⟨g, cap, hv, fun i hi hi' => ?_⟩
    have hc := Blk.cell (w := W) (t := 46) hh i
    rw [hc]
    have h1 : (cur.toList.take (PI.length * 1))[i]? = some (.slice (some ⟨R[i], 0, none⟩) PI[i].length PI[i].length) := by
      rw [ht, List.getElem?_zipWith, List.getElem?_eq_getElem hi', List.getElem?_eq_getElem hi]
    rw [List.getElem?_take_of_lt (by omega)] at h1
    simpa using h1

theorem ret23 {Q : Ending → World → Prop} {W' : World} {b : Nat} {tm : Array Value} {v0 v1 v2 : Value} (h6 : tm[6]?.getD undef = .pointer (some ⟨b, 0, none⟩)) (hb : Blk W' b 58 #[v0, v1, v2]) (hQ : Q (.returned (.agg #[v0, v1, v2])) W') :
    bodyPost Try.prog Try.f23 Q Exit.ret { tmps := tm, defers := [] } W' := by
  have r0 : W'.cell? ⟨b, 0, none⟩ = some v0 := hb.cell 0
  have r1 : W'.cell? ⟨b, 1, none⟩ = some v1 := hb.cell 1
  have r2 : W'.cell? ⟨b, 2, none⟩ = some v2 := hb.cell 2
  exact bodyPost_ret (v := .agg #[v0, v1, v2]) (by simp [results, Try.results23, go_sem, h6, r0, r1, r2]) rfl hQ

theorem info46 : (Try.prog.info? 46).map (fun i => (i.zero, i.size, i.bytes)) = some (some (.slice none 0 0), 1, 24) := by kernel_rfl

/-- The row in hand is done. -/
theorem BI.finish {w wr w6 : World} {a b : Cm} {T : List Cm} {M : List ByteArray} {g6 g7 bi i x m g4 cap4 : Nat} {c : Cm} {nv pv : Value} {G : List Cm} {PI : List (List Nat)} {R X : List Nat} {o : Obj} (h : BI w wr a b T M g6 g7 bi i x c nv pv G PI R X)
    (h1 : w6.ownsRow w.heap.size 46 1 (.slice (some ⟨g4, 0, none⟩) (PI.length + 1) cap4) (PI.length + 1) (List.zipWith (fun (r : Nat) (l : List Nat) => Value.slice (some ⟨r, 0, none⟩) l.length l.length) R PI ++ [.slice (some ⟨x, 0, none⟩) m m])) (h2 : (wr.alloc o).grownBy w6 pv.ownBlock) (hX : X.length = m) (hm : m = c.ps.length) (h67 : g6 ≠ g7) :
    (w6.cell? ⟨g7, 1, none⟩ = some pv ∧ w6.frozen? ⟨g7, 1, none⟩ = false) ∧ BO w (w6.setCell ⟨g7, 1, none⟩ (.slice (some ⟨g4, 0, none⟩) (PI.length + 1) cap4)) a b T M g6 g7 bi (i + 1) := by
  have hS : ∀ k t ar, Blk wr k t ar → t ≠ 46 → ¬ (pv.ownBlock = some k) := fun k t ar hb n1 e => by
    obtain ⟨cur, hc, _⟩ := h.br.blk e
    exact hb.ne hc n1 rfl
  have hk6 : Keeps wr w6 (fun k => pv.ownBlock = some k) := ((Keeps.refl wr _).alloc o).trans (Keeps.of_grown h2)
  have hb6 := h.bn.blk.kept hk6 (hS _ _ _ h.bn.blk (by decide))
  have hks : Keeps w6 (w6.setCell ⟨g7, 1, none⟩ (.slice (some ⟨g4, 0, none⟩) (PI.length + 1) cap4)) (· = g7) := (Keeps.refl w6 _).set g7 1 _ (.inl rfl)
  have hk : Keeps wr (w6.setCell ⟨g7, 1, none⟩ (.slice (some ⟨g4, 0, none⟩) (PI.length + 1) cap4)) (fun k => k = g7 ∨ pv.ownBlock = some k) := (hk6.mono (fun k _ e => .inr e)).trans (hks.mono (fun k _ e => .inl e))
  obtain ⟨arr, a1, a2, a3⟩ := h.arr
  have hN : ∀ k t ar, Blk wr k t ar → t ≠ 46 → t ≠ 58 → ¬ (k = g7 ∨ pv.ownBlock = some k) := fun k t ar hb n1 n2 e => by
    rcases e with e | e
    · subst e; exact hb.ne h.bn.blk n2 rfl
    · exact hS k t ar hb n1 e
  have hat := h.at_
  rw [List.getElem?_eq_some_iff] at hat
  obtain ⟨hiG, hci⟩ := hat
  have hl := h.len
  subst hl
  refine ⟨⟨hb6.cell 1, hb6.free 1⟩, nv, _, G, PI ++ [X], R ++ [x], ⟨hb6.set 1 _, h.bn.own.kept hk (fun q hq => ?_), h.bn.bel.trans (hk.below h.bn.bel.size (fun k e => ?_)), h.bn.g7l⟩, ⟨by simp [h.br.len], ?_, fun t ht ht' => ?_⟩, h.pb, h.rows.snoc hiG (by rw [hX, hm, hci]) (by rw [hci]; exact h.row), by simp, h.six.kept hk (fun e => ?_)⟩
  · obtain ⟨cur, hc, _⟩ := h.bn.own.blk hq
    exact hN q 39 cur hc (by decide) (by decide)
  · rcases e with e | e
    · have := h.bn.g7l; omega
    · obtain ⟨_, _, hB⟩ := h.br.blk e
      exact hB
  · have hz : List.zipWith (fun (r : Nat) (l : List Nat) => Value.slice (some ⟨r, 0, none⟩) l.length l.length) (R ++ [x]) (PI ++ [X]) = List.zipWith (fun (r : Nat) (l : List Nat) => Value.slice (some ⟨r, 0, none⟩) l.length l.length) R PI ++ [.slice (some ⟨x, 0, none⟩) m m] := by
      rw [List.zipWith_append h.br.len]
      simp [hX]
    rw [hz, List.length_append]
    refine ⟨h1.1, ?_⟩
    rcases h1.2 with ⟨hv, _⟩ | ⟨g, cap, cur, hv, hb, hh, hr⟩
    · simp at hv
    · refine .inr ⟨g, cap, cur, hv, hb, ?_, hr⟩
      exact Blk.kept (t := 46) hh hks (fun e => (Blk.ne (t := 46) hh hb6 (by decide)) e)
  · by_cases hlt : t < R.length
    · simp only [List.getElem_append_left hlt, List.getElem_append_left (show t < PI.length by have := h.br.len; omega)]
      have hr := h.br.row t hlt (by have := h.br.len; omega)
      exact hr.kept hk (hN _ 3 _ hr (by decide) (by decide))
    · have e1 : t = R.length := by simp at ht; omega
      have e2 : t = PI.length := by have := h.br.len; omega
      have x1 : (R ++ [x])[t] = x := by simp [e1]
      have x2 : (PI ++ [X])[t] = X := by simp [e2]
      rw [x1, x2]
      have harr : arr = (X.map (fun k : Nat => Value.int .i64 (k : Int))).toArray := by
        apply Array.ext_getElem?
        intro j
        by_cases hj : j < X.length
        · rw [a3 j hj]
          simp [hj]
        · rw [Array.getElem?_eq_none (by omega), Array.getElem?_eq_none (by simp; omega)]
      rw [← harr]
      exact a1.kept hk (hN x 3 arr a1 (by decide) (by decide))
  · rcases e with e | e
    · exact h67 e
    · exact hS g6 58 _ h.six (by decide) e

set_option maxHeartbeats 8000000 in
set_option maxRecDepth 8000 in
theorem build_any (a b : Cm) (ta : Option Addr) (tc : Nat) (T : List Cm) (M : List ByteArray) (w : World) (hpa : Par w a ∧ (∀ p ∈ a.ps, p ∈ M) ∧ a.ps.length ≤ 9000) (hpb : Par w b ∧ (∀ p ∈ b.ps, p ∈ M) ∧ b.ps.length ≤ 9000) (hpT : ∀ c ∈ T, Par w c ∧ (∀ p ∈ c.ps, p ∈ M) ∧ c.ps.length ≤ 9000) (htab : Tab w ta T) (hTl : T.length ≤ 1048576) (haM : a.id ∈ M) (hbM : b.id ∈ M) (hM : M.length ≤ 90000) :
    Calls Try.prog 23 #[zval a, zval b, .slice ta T.length tc] w fun e w' => BuildPost w a b T M e w' := by
  have HPA := hide hpa
  have HPB := hide hpb
  have HPT := hide hpT
  have HTAB := hide htab
  have HAM := hide haM
  have HBM := hide hbM
  clear hpa hpb hpT htab haM hbM
  obtain ⟨i1, hi, hz0, hz1, hz2⟩ := info_parts info39
  have HI2 := hide (And.intro hi (And.intro hz0 (And.intro hz1 hz2)))
  clear hi hz0 hz1 hz2
  obtain ⟨i2, hi, hz0, hz1, hz2⟩ := info_parts info46
  have HI3 := hide (And.intro hi (And.intro hz0 (And.intro hz1 hz2)))
  clear hi hz0 hz1 hz2
  go_enter Try.func23, Try.ntmps23
  go_upto_region 2 with fail
  obtain ⟨W2, hW2⟩ : ∃ W2, W2 = (((w.alloc (.cells (zarr a) 24)).alloc (.cells (zarr b) 24)).alloc (.cells #[.slice none 0 0, .slice none 0 0, .int .i64 0] 58)).alloc (.cells #[.slice none 0 0, .slice none 0 0, .int .i64 0] 58) := ⟨_, rfl⟩
  rw [← hW2]
  have HXA : Hid (Blk W2 w.heap.size 24 (zarr a)) := hide (by rw [hW2]; exact (((Blk.new w 24 (zarr a)).alloc _).alloc _).alloc _)
  have HXB : Hid (Blk W2 (w.heap.size + 1) 24 (zarr b)) := hide (by
    have := Blk.new (w.alloc (.cells (zarr a) 24)) 24 (zarr b)
    rw [World.size_alloc] at this
    rw [hW2]
    exact (this.alloc _).alloc _)
  have HX6 : Hid (Blk W2 (w.heap.size + 2) 58 #[.slice none 0 0, .slice none 0 0, .int .i64 0]) := hide (by
    have := Blk.new ((w.alloc (.cells (zarr a) 24)).alloc (.cells (zarr b) 24)) 58 #[.slice none 0 0, .slice none 0 0, .int .i64 0]
    simp only [World.size_alloc] at this
    rw [hW2]
    exact this.alloc _)
  have HBN : Hid (BN w W2 (w.heap.size + 3) (.slice none 0 0) (.slice none 0 0) 0 []) := hide (by
    have := Blk.new (((w.alloc (.cells (zarr a) 24)).alloc (.cells (zarr b) 24)).alloc (.cells #[.slice none 0 0, .slice none 0 0, .int .i64 0] 58)) 58 #[.slice none 0 0, .slice none 0 0, .int .i64 0]
    simp only [World.size_alloc] at this
    refine ⟨by rw [hW2]; exact this, OwnC.nil _ _, ?_, by omega⟩
    rw [hW2]
    exact ((((Below.refl _ _).alloc (Nat.le_refl _) _).alloc (by simp only [World.size_alloc]; omega) _).alloc (by simp only [World.size_alloc]; omega) _).alloc (by simp only [World.size_alloc]; omega) _)
  obtain ⟨ba, hba⟩ : ∃ ba, ba = w.heap.size := ⟨_, rfl⟩
  obtain ⟨bb, hbb⟩ : ∃ bb, bb = w.heap.size + 1 := ⟨_, rfl⟩
  obtain ⟨g6, hg6⟩ : ∃ g6, g6 = w.heap.size + 2 := ⟨_, rfl⟩
  obtain ⟨g7, hg7⟩ : ∃ g7, g7 = w.heap.size + 3 := ⟨_, rfl⟩
  rw [← hba] at HXA
  rw [← hbb] at HXB
  rw [← hg6] at HX6
  rw [← hg7] at HBN
  rw [← hg7]
  rw [← hg6]
  rw [← hbb]
  rw [← hba]
  have HBA : Hid (ba = w.heap.size ∧ bb = w.heap.size + 1 ∧ g6 = w.heap.size + 2 ∧ g7 = w.heap.size + 3) := hide ⟨hba, hbb, hg6, hg7⟩
  clear hW2 hba hbb hg6 hg7
  have HBN2 := hide (HBN.out.below (W' := W2.drew) (Below.refl _ _).drew)
  obtain ⟨x0, x1, x2, x3, x4, x5, x6⟩ := (cells7 (HXA.out.below (w' := W2.drew) (Below.refl _ _).drew HXA.out.lt)).1
  have n0 : W2.drew.cell? ⟨g7, 0, none⟩ = some (.slice none 0 0) := HBN2.out.blk.cell 0
  have hwz : w.heap.size ≤ W2.heap.size := HBN.out.bel.size
  have HCT := hide (toCommit_any a W2.drew)
  go_cut [18] from 13 to 19 (fun s wx => ∃ g cap, Hid (BN w wx g7 (.slice (some ⟨g, 0, none⟩) 1 cap) (.slice none 0 0) 0 [a] ∧ Keeps W2 wx (fun k => k = g7)))
  case first =>
    go_region_law ((first | (refine step_append_lies _ rfl (.tmp 14) (.tmp 17) 47 rfl w.heap.size 39 i1 (.agg zeroC) 8 112 Try.underlying47 HI2.out.1 HI2.out.2.1 HI2.out.2.2.1 HI2.out.2.2.2 rfl (by decide) (.slice none 0 0) 0 [] rfl (OwnC.nil (w5.alloc (.cells (carr a).toArray 39)) w.heap.size) ⟨w5.heap.size, 0, none⟩ 1 1 (carr a) rfl rfl (World.news_of_block (Blk.new w5 39 (carr a).toArray)) (by simp [carr, Value.oneCell']) (by decide) (by decide) (by decide) (by simp only [World.size_alloc]; omega) (w5.heap.size + 1) (by simp only [World.size_alloc]) ?_; intro g4 cap4 w6 hown hgrow hat hlt4; have hb6 := HBN5.out.grown hgrow; have m0 : w6.cell? ⟨g7, 0, none⟩ = some (.slice none 0 0) := hb6.cell 0; have m1 := hb6.free 0; have HP6 := hide (HBN5.out.push (G := []) hown hgrow); clear hown hgrow hat hlt4 hb6) | (rw [if_pos (by rfl)]; go_simp; go_at_call 12; refine HCT.out.mono ?_; rintro e w5 ⟨rfl, hb5⟩; dsimp only; have HB5 := hide hb5; have HBN5 := hide (HBN2.out.below hb5); have n5 : w5.cell? ⟨g7, 0, none⟩ = some (.slice none 0 0) := HBN5.out.blk.cell 0; have n6 : (w5.alloc (.cells #[.string a.id, .slice a.pa a.pn a.pc, .string a.com, .string a.msg, .int .i64 a.cr, .map none, .string a.mr, .int .i64 a.gen] 39)).cell? ⟨g7, 0, none⟩ = some (.slice none 0 0) := (HBN5.out.blk.alloc _).cell 0; have hw5 : w.heap.size ≤ w5.heap.size := HBN5.out.bel.size; clear hb5)))
    all_goals go_wp2_with fail
    all_goals go_meet
    all_goals exact ⟨g4, cap4, hide ⟨HP6.out.1, ((Keeps.of_below (after ((Below.refl _ _).drew) HB5.out) _).trans (HP6.out.2.mono (fun k _ e => by
      rcases e with e | e
      · exact e
      · simp [Value.ownBlock] at e)))⟩⟩
  case rest =>
    obtain ⟨ng, nc, HB⟩ := hcut
    obtain ⟨W3, hW3⟩ : ∃ W3, W3 = wc := ⟨_, rfl⟩
    subst hW3
    clear x0 x1 x2 x3 x4 x5 x6 n0 HCT HBN2
    have hne1 : ba ≠ g7 ∧ bb ≠ g7 ∧ g6 ≠ g7 := by have := HBA.out; omega
    have HXA3 := hide (HXA.out.kept HB.out.2 hne1.1)
    have HXB3 := hide (HXB.out.kept HB.out.2 hne1.2.1)
    have HX63 := hide (HX6.out.kept HB.out.2 hne1.2.2)
    have HBN3 := hide HB.out.1
    clear HB HBN HXA HXB HX6 hwz
    have x0 : W3.cell? ⟨ba, 0, none⟩ = some (.string a.id) := HXA3.out.cell 0
    have y0 : W3.cell? ⟨bb, 0, none⟩ = some (.string b.id) := HXB3.out.cell 0
    obtain ⟨bt, hbt⟩ : ∃ bt, bt = !(b.id.toList == a.id.toList) := ⟨_, rfl⟩
    have HBT := hide hbt
    clear hbt
    go_upto_region 3 with fail
    go_cut [24] from 20 to 23 (fun s wx => s = .bool bt ∧ wx = W3)
    case first =>
      go_wp2_with fail
      go_meet
      exact ⟨by rw [HBT.out], rfl⟩
    case rest =>
    obtain ⟨rfl, rfl⟩ := hcut
    obtain ⟨W3, hW3⟩ : ∃ W3, W3 = wc := ⟨_, rfl⟩
    subst hW3
    go_upto_if 24 with fail
    go_cut [8] from 25 to 32 (fun s wx => Hid (∃ nv bi G, BN w wx g7 nv (.slice none 0 0) bi G ∧ ((a.id = b.id ∧ bi = 0 ∧ G = [a]) ∨ (a.id ≠ b.id ∧ bi = 1 ∧ G = [a, b])) ∧ Keeps W3 wx (fun k => k = g7 ∨ k = ng)))
    case first =>
      cases bt with
      | false =>
        have HID : Hid (a.id = b.id) := hide (by
          have := HBT.out.symm
          rw [Bool.not_eq_false', beq_iff_eq] at this
          exact (toList_inj this).symm)
        go_wp2_with fail
        go_meet
        exact hide ⟨_, _, _, HBN3.out, .inl ⟨HID.out, rfl, rfl⟩, Keeps.refl _ _⟩
      | true =>
        have HID : Hid (a.id ≠ b.id) := hide (by
          have := HBT.out.symm
          rw [Bool.not_eq_true', beq_eq_false_iff_ne] at this
          exact fun e => this (by rw [e]))
        clear x0 y0
        have HBN2 := hide (HBN3.out.below (W' := W3.drew) (Below.refl _ _).drew)
        obtain ⟨y0, y1, y2, y3, y4, y5, y6⟩ := (cells7 (HXB3.out.below (w' := W3.drew) (Below.refl _ _).drew HXB3.out.lt)).1
        have n0 : W3.drew.cell? ⟨g7, 0, none⟩ = some (.slice (some ⟨ng, 0, none⟩) 1 nc) := HBN2.out.blk.cell 0
        have HCT := hide (toCommit_any b W3.drew)
        go_upto_region 4 with fail
        go_region_law ((first | (refine step_append_lies _ rfl (.tmp 26) (.tmp 29) 47 rfl w.heap.size 39 i1 (.agg zeroC) 8 112 Try.underlying47 HI2.out.1 HI2.out.2.1 HI2.out.2.2.1 HI2.out.2.2.2 rfl (by decide) (.slice (some ⟨ng, 0, none⟩) 1 nc) 1 (carr a) rfl HOA.out ⟨w5.heap.size, 0, none⟩ 1 1 (carr b) rfl rfl (World.news_of_block (Blk.new w5 39 (carr b).toArray)) (by simp [carr, Value.oneCell']) (by decide) (by decide) (by decide) (by simp only [World.size_alloc]; omega) (w5.heap.size + 1) (by simp only [World.size_alloc]) ?_; intro g4 cap4 w6 hown hgrow hat hlt4; have hb6 := HBN5.out.grown hgrow; have m0 : w6.cell? ⟨g7, 0, none⟩ = some (.slice (some ⟨ng, 0, none⟩) 1 nc) := hb6.cell 0; have m1 := hb6.free 0; have m2 : w6.cell? ⟨g7, 2, none⟩ = some (.int .i64 0) := hb6.cell 2; have m3 := hb6.free 2; have HP6 := hide (HBN5.out.push (G := [a]) hown hgrow); have HP7 := hide (HP6.out.1.setBi 1); clear hown hgrow hat hlt4 hb6) | (rw [if_pos (by rfl)]; go_simp; go_at_call 12; refine HCT.out.mono ?_; rintro e w5 ⟨rfl, hb5⟩; dsimp only; have HB5 := hide hb5; have HBN5 := hide (HBN2.out.below hb5); have HOA := hide (HBN5.out.own.below (w' := w5.alloc (.cells (carr b).toArray 39)) ((Below.refl _ _).alloc (Nat.le_refl _) _)); have n5 : w5.cell? ⟨g7, 0, none⟩ = some (.slice (some ⟨ng, 0, none⟩) 1 nc) := HBN5.out.blk.cell 0; have n6 : (w5.alloc (.cells #[.string b.id, .slice b.pa b.pn b.pc, .string b.com, .string b.msg, .int .i64 b.cr, .map none, .string b.mr, .int .i64 b.gen] 39)).cell? ⟨g7, 0, none⟩ = some (.slice (some ⟨ng, 0, none⟩) 1 nc) := (HBN5.out.blk.alloc _).cell 0; have hw5 : w.heap.size ≤ w5.heap.size := HBN5.out.bel.size; clear hb5)))
        all_goals go_wp2_with fail
        all_goals go_meet
        all_goals exact hide ⟨_, 1, _, HP7.out.1, .inr ⟨HID.out, rfl, rfl⟩, ((Keeps.of_below (after ((Below.refl _ _).drew) HB5.out) _).trans (HP6.out.2.mono (fun k _ e => by
          rcases e with e | e
          · exact .inl e
          · simp [Value.ownBlock] at e; exact .inr e.symm))).trans (HP7.out.2.mono (fun k _ e => .inl e))⟩
    case rest =>
      obtain ⟨nv, bi, G0, hbn, hcase, hkp⟩ := hcut.out
      obtain ⟨W5, hW5⟩ : ∃ W5, W5 = wc := ⟨_, rfl⟩
      subst hW5
      have HCASE : Hid ((a.id = b.id ∧ bi = 0) ∨ (a.id ≠ b.id ∧ bi = 1)) := hide (by
        rcases hcase with ⟨h1, h2, _⟩ | ⟨h1, h2, _⟩
        · exact .inl ⟨h1, h2⟩
        · exact .inr ⟨h1, h2⟩)
      have h65 : Blk W5 g6 58 #[.slice none 0 0, .slice none 0 0, .int .i64 0] := HX63.out.kept hkp (fun e => by
        rcases e with e | e
        · exact hne1.2.2 e
        · obtain ⟨cur, hc, _⟩ := HBN3.out.own.blk (g := ng) rfl
          exact (HX63.out.ne hc (by decide)) e)
      have HBO : Hid (BO w W5 a b T M g6 g7 bi 0) := hide (by
        refine ⟨nv, _, G0, [], [], hbn, ⟨rfl, World.ownsRow_nil _ _ 46 1, fun t ht => by simp at ht⟩, ?_, ⟨Nat.zero_le _, fun i hi => by simp at hi⟩, rfl, h65⟩
        rcases hcase with ⟨h1, h2, rfl⟩ | ⟨h1, h2, rfl⟩
        · exact ⟨by simp, rfl, .inl h1, fun c hc h => by simp at hc; subst hc; exact absurd rfl h, fun c hc => by simp at hc; subst hc; exact HAM.out, fun c hc => by simp at hc; subst hc; exact HPA.out⟩
        · refine ⟨by simp [h1], rfl, .inr ⟨h1, rfl⟩, fun c hc ha hb => ?_, fun c hc => ?_, fun c hc => ?_⟩
          all_goals simp only [List.mem_cons, List.not_mem_nil, or_false] at hc
          all_goals rcases hc with rfl | rfl
          · exact absurd rfl ha
          · exact absurd rfl hb
          · exact HAM.out
          · exact HBM.out
          · exact HPA.out
          · exact HPB.out)
      have h67 : Hid (g6 ≠ g7) := hide hne1.2.2
      have HG6 : Hid (w.heap.size ≤ g6) := hide (by have := HBA.out; omega)
      clear hbn hcase hkp h65 hcut HBN3 HXA3 HXB3 HX63 hne1 x0 y0 HBT HBA
      go_wp2_with fail
      go_loopw [8] (fun s wr => ∃ i : Nat, i ≤ M.length ∧ s = .int .i64 i ∧ Hid (BO w wr a b T M g6 g7 bi i)) (fun s _ => M.length - (intOf s).toNat)
      case atStart => exact ⟨0, Nat.zero_le _, rfl, HBO.out⟩
      case round =>
        obtain ⟨i, hiM, rfl, HQ⟩ := hrel
        obtain ⟨nv, pv, G, PI, R, hbn, hbr, hpb, hrows, hpl, h6⟩ := HQ.out
        have hgn := hpb.len
        obtain ⟨ng2, nc2, hnv, -, hcrow⟩ : ∃ ng2 nc2, nv = .slice (some ⟨ng2, 0, none⟩) G.length nc2 ∧ w.heap.size ≤ ng2 ∧ CRow wr ng2 G := by
          rcases hbn.own.form with ⟨_, h0⟩ | h0
          · have := hpb.ha
            rw [h0] at this
            simp at this
          · exact h0
        subst hnv
        have d0 : wr.cell? ⟨g7, 0, none⟩ = some (.slice (some ⟨ng2, 0, none⟩) G.length nc2) := hbn.blk.cell 0
        by_cases hlt : i < G.length
        · obtain ⟨c, hcd⟩ : ∃ c, c = G[i] := ⟨_, rfl⟩
          have hcG : c ∈ G := by rw [hcd]; exact List.getElem_mem hlt
          obtain ⟨hpc, hpM, hp9⟩ := hpb.par c hcG
          have c1 : wr.cell? ⟨ng2, i * 8 + 1, none⟩ = some (.slice c.pa c.pn c.pc) := by rw [hcd]; exact (hcrow.at hlt).2.1
          have hpn := hpc.1
          obtain ⟨m, hm⟩ : ∃ m, m = c.pn := ⟨_, rfl⟩
          obtain ⟨pa, hpa⟩ : ∃ pa, pa = c.pa := ⟨_, rfl⟩
          have hm9 : m ≤ 9000 := by omega
          have m46 := make46 m (by omega)
          have hba : Below wr.heap.size wr (wr.alloc (.cells (madeCells #[.int .i64 0] m) 3)) := (Below.refl _ _).alloc (Nat.le_refl _) _
          have HBI0 : Hid (BI w (wr.alloc (.cells (madeCells #[.int .i64 0] m) 3)) a b T M g6 g7 bi i wr.heap.size c (.slice (some ⟨ng2, 0, none⟩) G.length nc2) pv G PI R []) := hide ⟨hbn.below hba, hbr.below hba, hpb, hrows, hpl, h6.below hba h6.lt, by rw [hcd]; exact List.getElem?_eq_getElem hlt, ⟨Nat.zero_le _, fun j hj => by simp at hj⟩, ⟨_, Blk.new wr 3 _, by rw [madeSize, hm, hpn], fun t ht => by simp at ht⟩, fun hr => by have := hbr.lt _ hr; omega, hbn.bel.size⟩
          rw [← hm, ← hpa] at c1
          have HPC := hide hpc
          have HPM := hide hpM
          have HM2 := hide hm
          have HPA2 := hide hpa
          have hiM2 : i < M.length := by omega
          have HPN := hide hpn
          clear hbn hbr hpb hrows hpl h6 hcrow hcd hcG hpc hpM hpn hm hpa hba HQ
          generalize G.length = n at *
          go_wp2_with fail
          obtain ⟨x, hx⟩ : ∃ x, x = wr.heap.size := ⟨_, rfl⟩
          obtain ⟨W10, hW10⟩ : ∃ W10, W10 = wr.alloc (.cells (madeCells #[.int .i64 0] m) 3) := ⟨_, rfl⟩
          rw [← hW10, ← hx] at HBI0
          rw [← hW10, ← hx]
          clear hW10 hx c1 d0 m46
          have HS10 : Hid (∃ nv G X, BI w W10 a b T M g6 g7 bi i x c nv pv G PI R X ∧ X.length = 0) := hide ⟨_, G, [], HBI0.out, rfl⟩
          clear HBI0
          go_loopw [11] (fun s wr => ∃ q : Nat, q ≤ m ∧ s = .int .i64 q ∧ Hid (∃ nv G X, BI w wr a b T M g6 g7 bi i x c nv pv G PI R X ∧ X.length = q)) (fun s _ => m - (intOf s).toNat)
          case atStart => exact ⟨0, Nat.zero_le _, rfl, HS10.out⟩
          case round =>
            obtain ⟨q, hq, rfl, HQ⟩ := hrel
            obtain ⟨nv, G, X, hbi, hXl⟩ := HQ.out
            by_cases hlq : q < m
            · have hgn := hbi.pb.len
              obtain ⟨ng3, nc3, hnv, -, hcrow⟩ : ∃ ng3 nc3, nv = .slice (some ⟨ng3, 0, none⟩) G.length nc3 ∧ w.heap.size ≤ ng3 ∧ CRow wr ng3 G := by
                rcases hbi.bn.own.form with ⟨_, h0⟩ | h0
                · have := hbi.pb.ha
                  rw [h0] at this
                  simp at this
                · exact h0
              subst hnv
              have d0 : wr.cell? ⟨g7, 0, none⟩ = some (.slice (some ⟨ng3, 0, none⟩) G.length nc3) := hbi.bn.blk.cell 0
              obtain ⟨pb, off, hpa', hqp, c1⟩ := HPC.out.row hbi.bn.bel q (by have := HM2.out; omega)
              have hpa2 : pa = some ⟨pb, off, none⟩ := HPA2.out.trans hpa'
              subst hpa2
              obtain ⟨sid, hsid⟩ : ∃ sid, sid = c.ps[q] := ⟨_, rfl⟩
              rw [← hsid] at c1
              have HSID := hide hsid
              have hsM : sid ∈ M := by rw [hsid]; exact HPM.out _ (List.getElem_mem hqp)
              have HSM := hide hsM
              obtain ⟨z, hz⟩ : ∃ z, z = ixZ (G.map (·.id)) sid := ⟨_, rfl⟩
              have HQ48 : Hid (∀ k, Calls Try.prog 48 #[.slice (some ⟨ng3, 0, none⟩) G.length nc3, .string sid] (wr.drewN k) fun e w'' => e = .returned (.int .i64 z) ∧ ∃ j, w'' = wr.drewN j) := hide fun k => (find_any ng3 nc3 G sid (wr.drewN k) (fun t ht => (hcrow.below (below_drewN (Below.refl _ _) k)).at ht) (by omega)).mono (fun e w' h => ⟨by rw [hz]; exact h.1, k, h.2.symm⟩)
              have HBI := hide hbi
              have HXL := hide hXl
              obtain ⟨arr, ar1, ar2, ar3⟩ := hbi.arr
              have hqa : q < arr.size := by rw [ar2]; exact hqp
              have r0 : wr.cell? ⟨x, q, none⟩ = some arr[q] := by rw [ar1.cell]; exact Array.getElem?_eq_getElem hqa
              have r1 := ar1.free q
              generalize arr[q] = av at *
              have hcase : (∃ k : Nat, ∃ hk : k < G.length, z = (k : Int) ∧ G[k].id = sid) ∨ (z = -1 ∧ sid ∉ G.map (·.id)) := by
                by_cases hf : ix (G.map (·.id)) sid < (G.map (·.id)).length
                · left
                  have hg := ix_get hf
                  have hk : ix (G.map (·.id)) sid < G.length := by simpa using hf
                  refine ⟨ix (G.map (·.id)) sid, hk, by rw [hz]; unfold ixZ; rw [if_pos hf], ?_⟩
                  simpa using hg
                · right
                  refine ⟨by rw [hz]; unfold ixZ; rw [if_neg hf], fun h => hf (ix_lt.2 h)⟩
              clear hbi hXl hcrow hpa' hz ar1 ar2 ar3 hqa HQ hsid hsM
              clear arr
              rcases hcase with ⟨k, hk, rfl, hkid⟩ | ⟨rfl, hnone⟩
              · have HBS : Hid (BI w (wr.setCell ⟨x, q, none⟩ (.int .i64 k)) a b T M g6 g7 bi i x c (.slice (some ⟨ng3, 0, none⟩) G.length nc3) pv G PI R (X ++ [k])) := hide (by
                  have e := HXL.out
                  subst e
                  exact HBI.out.store hk hqp (by rw [hkid, HSID.out]) h67.out)
                have HXS : Hid ((X ++ [k]).length = q + 1) := hide (by rw [List.length_append, HXL.out]; rfl)
                have hkM : k ≤ 90000 := by omega
                clear hkid
                go_wp2_with fail
                go_quiet (first | (go_at_call 48; exact HQ48.out _))
                go_wp2_with fail
                go_roundw
                case rel => exact ⟨q + 1, by omega, by go_num, hide ⟨_, G, _, HBS.out.below (below_drewN (Below.refl _ _) _), HXS.out⟩⟩
                case measure => simp [intOf]; omega
              · go_wp2_with fail
                go_quiet (first | (go_at_call 48; exact HQ48.out _))
                go_upto_region 16 with fail
                obtain ⟨WA, hWA⟩ : ∃ WA, WA = wr.drewN nq := ⟨_, rfl⟩
                rw [← hWA]
                have hbA : Below wr.heap.size wr WA.drew := by rw [hWA]; exact (below_drewN (Below.refl _ _) _).drew
                have HBA2 := hide (HBI.out.below hbA)
                have n0 : WA.drew.cell? ⟨g7, 0, none⟩ = some (.slice (some ⟨ng3, 0, none⟩) G.length nc3) := HBA2.out.bn.blk.cell 0
                have c2 := cell_below hbA c1
                have q0 := cell_below hbA r0
                obtain ⟨rc, hrc⟩ : ∃ rc, rc = resolveC T sid := ⟨_, rfl⟩
                have HC47 := hide (resolve_any ta T.length tc sid T WA.drew rfl hTl (HTAB.out.below HBA2.out.bn.bel))
                rw [← hrc] at HC47
                have HRC := hide hrc
                have hxg : x ≠ g7 := by
                  obtain ⟨arr, ar1, _⟩ := HBI.out.arr
                  exact ar1.ne HBI.out.bn.blk (by decide)
                have HX3 : Hid (∀ W', BI w W' a b T M g6 g7 bi i x c (.slice (some ⟨ng3, 0, none⟩) G.length nc3) pv G PI R X → ∀ o w6, (W'.alloc o).grownBy w6 (Value.slice (some ⟨ng3, 0, none⟩) G.length nc3).ownBlock → w6.cell? ⟨x, q, none⟩ = W'.cell? ⟨x, q, none⟩ ∧ w6.frozen? ⟨x, q, none⟩ = false) := hide fun W' h o w6 hg => by
                  obtain ⟨arr, ar1, _⟩ := h.arr
                  have hk6 := (ar1.alloc o).kept (Keeps.of_grown hg) (fun e => by
                    obtain ⟨cur, hc, _⟩ := h.bn.own.blk e
                    exact hc.ne ar1 (by decide) rfl)
                  exact ⟨by rw [hk6.cell, ar1.cell], hk6.free q⟩
                have HNO := hide hnone
                have HEND : Hid (∀ W', BI w W' a b T M g6 g7 bi i x c (.slice (some ⟨ng3, 0, none⟩) G.length nc3) pv G PI R X → ∀ o w6 g4 cap4, w6.ownsRow w.heap.size 39 8 (.slice (some ⟨g4, 0, none⟩) (G.length + 1) cap4) (G.length + 1) (G.flatMap carr ++ carr rc) → (W'.alloc o).grownBy w6 (Value.slice (some ⟨ng3, 0, none⟩) G.length nc3).ownBlock → ∃ nv G2 X2, BI w ((w6.setCell ⟨g7, 0, none⟩ (.slice (some ⟨g4, 0, none⟩) (G.length + 1) cap4)).setCell ⟨x, q, none⟩ (.int .i64 ((G.length : Nat) : Int))) a b T M g6 g7 bi i x c nv pv G2 PI R X2 ∧ X2.length = q + 1) := hide fun W' h o w6 g4 cap4 h1 h2 => by
                  rw [HRC.out] at h1
                  have hp := h.push h1 h2 HNO.out HSM.out HPT.out h67.out
                  have e := HXL.out
                  subst e
                  refine ⟨_, _, X ++ [G.length], hp.store (k := G.length) (by simp) hqp ?_ h67.out, by simp⟩
                  rw [← HSID.out]
                  simp [resolve_id]
                have hgl : G.length ≤ 90000 := by omega
                clear hWA hbA r0 r1 d0 c1 hnone hrc HQ48 HBI
                go_region_law ((first | (refine step_append_lies _ rfl (.tmp 65) (.tmp 72) 47 rfl w.heap.size 39 i1 (.agg zeroC) 8 112 Try.underlying47 HI2.out.1 HI2.out.2.1 HI2.out.2.2.1 HI2.out.2.2.2 rfl (by decide) (.slice (some ⟨ng3, 0, none⟩) G.length nc3) G.length (G.flatMap carr) rfl HOA.out ⟨w5.heap.size, 0, none⟩ 1 1 (carr rc) rfl rfl (World.news_of_block (Blk.new w5 39 (carr rc).toArray)) (by simp [carr, Value.oneCell']) (by decide) (by unfold maxLen; omega) (by omega) (by simp only [World.size_alloc]; omega) (w5.heap.size + 1) (by simp only [World.size_alloc]) ?_; intro g4 cap4 w6 hown hgrow hat hlt4; have hb6 := HBN5.out.bn.grown hgrow; have m0 : w6.cell? ⟨g7, 0, none⟩ = some (.slice (some ⟨ng3, 0, none⟩) G.length nc3) := hb6.cell 0; have m1 := hb6.free 0; obtain ⟨k0, k1⟩ := HX3.out _ HBN5.out _ _ hgrow; rw [q5] at k0; have HP6 := hide (HEND.out _ HBN5.out _ _ _ _ hown hgrow); clear hown hgrow hat hlt4 hb6) | (rw [if_pos (by rfl)]; go_simp; go_at_call 47; refine HC47.out.mono ?_; rintro e w5 ⟨rfl, hb5⟩; dsimp only; have HBN5 := hide (HBA2.out.below hb5); have HOA := hide (HBN5.out.bn.own.below (w' := w5.alloc (.cells (carr rc).toArray 39)) ((Below.refl _ _).alloc (Nat.le_refl _) _)); have n5 : w5.cell? ⟨g7, 0, none⟩ = some (.slice (some ⟨ng3, 0, none⟩) G.length nc3) := HBN5.out.bn.blk.cell 0; have n6 : (w5.alloc (.cells #[.string rc.id, .slice rc.pa rc.pn rc.pc, .string rc.com, .string rc.msg, .int .i64 rc.cr, .map none, .string rc.mr, .int .i64 rc.gen] 39)).cell? ⟨g7, 0, none⟩ = some (.slice (some ⟨ng3, 0, none⟩) G.length nc3) := (HBN5.out.bn.blk.alloc _).cell 0; have q5 := cell_below hb5 q0; have hw5 : w.heap.size ≤ w5.heap.size := HBN5.out.bn.bel.size; clear hb5)))
                all_goals go_wp2_with fail
                all_goals (refine ⟨⟨q + 1, by omega, by go_num, HP6.out⟩, ?_⟩; simp [intOf]; omega)
            · have hqm : q = m := by omega
              have e1 : wr.cell? ⟨g7, 1, none⟩ = some pv := hbi.bn.blk.cell 1
              have HBI := hide hbi
              have HOA : Hid ((wr.alloc (.cells #[.slice (some ⟨x, 0, none⟩) m m] 46)).ownsRow w.heap.size 46 1 pv PI.length (List.zipWith (fun (r : Nat) (l : List Nat) => Value.slice (some ⟨r, 0, none⟩) l.length l.length) R PI)) := hide (hbi.br.below (W' := wr.alloc (.cells #[.slice (some ⟨x, 0, none⟩) m m] 46)) ((Below.refl _ _).alloc (Nat.le_refl _) _)).own
              have hwz : w.heap.size ≤ wr.heap.size := hbi.bn.bel.size
              have hPl : PI.length ≤ 90000 := by
                have := hbi.len
                omega
              have HXM : Hid (X.length = m) := hide (by rw [hXl, hqm])
              have HFIN : Hid (∀ w6 g4 cap4, w6.ownsRow w.heap.size 46 1 (.slice (some ⟨g4, 0, none⟩) (PI.length + 1) cap4) (PI.length + 1) (List.zipWith (fun (r : Nat) (l : List Nat) => Value.slice (some ⟨r, 0, none⟩) l.length l.length) R PI ++ [.slice (some ⟨x, 0, none⟩) m m]) → (wr.alloc (.cells #[.slice (some ⟨x, 0, none⟩) m m] 46)).grownBy w6 pv.ownBlock → (w6.cell? ⟨g7, 1, none⟩ = some pv ∧ w6.frozen? ⟨g7, 1, none⟩ = false) ∧ BO w (w6.setCell ⟨g7, 1, none⟩ (.slice (some ⟨g4, 0, none⟩) (PI.length + 1) cap4)) a b T M g6 g7 bi (i + 1)) := hide fun w6 g4 cap4 h1 h2 => HBI.out.finish h1 h2 HXM.out (by rw [HM2.out, HPN.out]) h67.out
              clear hbi hXl HQ hqm
              go_wp2_with ((at_builtin; refine wpList_append_lies _ rfl _ _ 56 rfl w.heap.size 46 i2 (.slice none 0 0) 1 24 Try.underlying56 HI3.out.1 HI3.out.2.1 HI3.out.2.2.1 HI3.out.2.2.2 rfl (by decide) pv PI.length (List.zipWith (fun (r : Nat) (l : List Nat) => Value.slice (some ⟨r, 0, none⟩) l.length l.length) R PI) rfl HOA.out ⟨wr.heap.size, 0, none⟩ 1 1 [.slice (some ⟨x, 0, none⟩) m m] rfl rfl (World.news_of_block (Blk.new wr 46 #[.slice (some ⟨x, 0, none⟩) m m])) (by simp [Value.oneCell']) (by decide) (by unfold maxLen; omega) (by omega) (by simp only [World.size_alloc]; omega) (wr.heap.size + 1) (by simp only [World.size_alloc]) ?_; intro g4 cap4 w6 hown hgrow hat hlt4; obtain ⟨⟨k0, k1⟩, hbo⟩ := HFIN.out w6 g4 cap4 hown hgrow; have HBO2 := hide hbo; clear hown hgrow hat hlt4 hbo))
              go_roundw
              case rel => exact ⟨i + 1, by omega, by go_num, HBO2.out⟩
              case measure => simp [intOf]; omega
        · have hpos : 0 < PI.length := by
            have h0 := hpb.ha
            rw [List.getElem?_eq_some_iff] at h0
            have := h0.1
            omega
          have hPG : PI.length = G.length := by
            have := hrows.1
            omega
          obtain ⟨pg, pc, hpv, hcells⟩ := hbr.form hpos
          subst hpv
          have d1 : wr.cell? ⟨g7, 1, none⟩ = some (.slice (some ⟨pg, 0, none⟩) PI.length pc) := hbn.blk.cell 1
          have d2 : wr.cell? ⟨g7, 2, none⟩ = some (.int .i64 bi) := hbn.blk.cell 2
          have s0 : wr.cell? ⟨g6, 0, none⟩ = some (.slice none 0 0) := h6.cell 0
          have s1 : wr.cell? ⟨g6, 1, none⟩ = some (.slice none 0 0) := h6.cell 1
          have s2 : wr.cell? ⟨g6, 2, none⟩ = some (.int .i64 0) := h6.cell 2
          have f0 := h6.free 0
          have f1 := h6.free 1
          have f2 := h6.free 2
          have HEND : Hid (∀ W', W' = ((wr.setCell ⟨g6, 0, none⟩ (.slice (some ⟨ng2, 0, none⟩) G.length nc2)).setCell ⟨g6, 1, none⟩ (.slice (some ⟨pg, 0, none⟩) PI.length pc)).setCell ⟨g6, 2, none⟩ (.int .i64 bi) → Blk W' g6 58 #[.slice (some ⟨ng2, 0, none⟩) G.length nc2, .slice (some ⟨pg, 0, none⟩) PI.length pc, .int .i64 bi] ∧ BuildPost w a b T M (.returned (.agg #[.slice (some ⟨ng2, 0, none⟩) G.length nc2, .slice (some ⟨pg, 0, none⟩) PI.length pc, .int .i64 bi])) W') := hide fun W' hW' => by
            subst hW'
            have hk := (((Keeps.refl wr (· = g6)).set g6 0 (.slice (some ⟨ng2, 0, none⟩) G.length nc2) (.inl rfl)).set g6 1 (.slice (some ⟨pg, 0, none⟩) PI.length pc) (.inl rfl)).set g6 2 (.int .i64 bi) (.inl rfl)
            have hg6l : w.heap.size ≤ g6 := HG6.out
            refine ⟨((h6.set 0 _).set 1 _).set 2 _, ng2, nc2, pg, pc, G, PI, bi, rfl, hpb.done hrows hPG HCASE.out, hpb, fun t ht => ?_, fun t ht => ?_, hbn.bel.trans (hk.below hbn.bel.size (fun k e => by omega))⟩
            · have hcr2 := CRow.kept hcrow hk (fun e => by
                obtain ⟨arr, hb, _, _⟩ := hcrow
                exact hb.ne h6 (by decide) e)
              exact hcr2.at ht
            · have htR : t < R.length := by have := hbr.len; omega
              have hbk : ∀ cur, Blk wr pg 46 cur → pg ≠ g6 := fun cur hc => hc.ne h6 (by decide)
              obtain ⟨cur, hcur, _⟩ := hbr.blk (g := pg) rfl
              have hpgk := hcur.kept hk (hbk cur hcur)
              refine ⟨R[t], ?_, fun j hj => ?_⟩
              · rw [hpgk.cell, ← hcur.cell]
                exact hcells t ht htR
              · have hr := hbr.row t htR ht
                have hr' := hr.kept hk (fun e => hr.ne h6 (by decide) e)
                rw [hr'.cell]
                simp [hj]
          clear hbn hbr hpb hrows hpl h6 hcrow hcells HQ hPG hpos
          go_wp2_with fail
          obtain ⟨h1, h2⟩ := HEND.out _ rfl
          exact ret23 rfl h1 h2
end Go.Proofs.Qxb6605835a
