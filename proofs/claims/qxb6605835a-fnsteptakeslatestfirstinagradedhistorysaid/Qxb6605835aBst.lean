import Derived.Test.Qxb6605835aOwnC
import Derived.Test.Qxb6605835aRchW
import Derived.Deep.Upon
namespace Go.Proofs.Qxb6605835a
open Go.ChangeShapes Go.WideShapes Go.ChangeAt Go.RowKit
set_option linter.unusedVariables false

theorem app0 (w : World) (base : Option Addr) (l cap : Nat) (hle : l ≤ cap) (a : Option Addr) (c : Nat) (ty : TypeId) : (Builtin.append_ #[46, 46] ty #[.slice base l cap, .slice a 0 c]).run Try.prog w = .ok (.slice base l cap) w := by
  obtain ⟨i0, hi, hz0, hz1, hz2⟩ := info_parts info3
  cases base <;> cases a <;> simp [Builtin.append_, run_underlying Try.underlying46, sizeOf, typeInfo, hi, Builtin.lenOf, Builtin.firstCells, hle, storeCells, loadCells, loadCellsFrom]

/-- The parents of those of the first k that f names. -/
def bl (PI : List (List Nat)) (f : Nat → Bool) (k : Nat) : List Nat := (List.range k).flatMap (fun i => if f i = true then PI.getD i [] else [])

theorem bl_succ (PI : List (List Nat)) (f : Nat → Bool) (k : Nat) : bl PI f (k + 1) = bl PI f k ++ (if f k = true then PI.getD k [] else []) := by
  unfold bl
  rw [List.range_succ, List.flatMap_append]
  simp

theorem bl_mem {PI : List (List Nat)} {f : Nat → Bool} {k j : Nat} : j ∈ bl PI f k ↔ ∃ i, i < k ∧ f i = true ∧ j ∈ PI.getD i [] := by
  unfold bl
  rw [List.mem_flatMap]
  constructor
  · rintro ⟨i, hi, hj⟩
    split at hj
    · next h => exact ⟨i, List.mem_range.1 hi, h, hj⟩
    · simp at hj
  · rintro ⟨i, hi, hf, hj⟩
    exact ⟨i, List.mem_range.2 hi, by rw [if_pos hf]; exact hj⟩

/-- How many indices there are in all. -/
def tot (PI : List (List Nat)) : Nat := (PI.map List.length).sum

theorem tot_take (PI : List (List Nat)) (k : Nat) : ((PI.take k).map List.length).sum ≤ tot PI := by
  unfold tot
  conv => rhs; rw [← List.take_append_drop k PI, List.map_append, List.sum_append]
  omega

theorem bl_len (PI : List (List Nat)) (f : Nat → Bool) (k : Nat) (hk : k ≤ PI.length) : (bl PI f k).length ≤ ((PI.take k).map List.length).sum := by
  induction k with
  | zero => simp [bl]
  | succ k ih =>
    have h1 := ih (by omega)
    rw [bl_succ, List.length_append, List.take_succ_eq_append_getElem (by omega), List.map_append, List.sum_append]
    have : (if f k = true then PI.getD k [] else []).length ≤ PI[k].length := by
      split
      · simp [List.getD, List.getElem?_eq_getElem (show k < PI.length by omega)]
      · simp
    simp only [List.map_cons, List.map_nil, List.sum_cons, List.sum_nil]
    omega

/-- Those of the first k that f names. -/
def ol (G : List Cm) (f : Nat → Bool) (k : Nat) : List Cm := ((List.range k).filter f).map (fun i => G.getD i (rootCm ⟨#[]⟩))

theorem ol_succ {G : List Cm} {f : Nat → Bool} {k : Nat} (hk : k < G.length) : ol G f (k + 1) = if f k = true then ol G f k ++ [G[k]] else ol G f k := by
  unfold ol
  rw [List.range_succ, List.filter_append, List.map_append]
  cases h : f k <;> simp [h, List.getD, hk]

theorem ol_len (G : List Cm) (f : Nat → Bool) (k : Nat) : (ol G f k).length ≤ k := by
  unfold ol
  rw [List.length_map]
  exact Nat.le_trans (List.length_filter_le _ _) (by simp)

/-- What best promises. -/
def BPost (w : World) (G : List Cm) (PI : List (List Nat)) (bi : Nat) (e : Ending) (w' : World) : Prop :=
  ∃ (v : Value) (sa sb su : Nat → Bool) (L : List Cm), e = .returned v ∧ (∀ i, sa i = true ↔ RI PI 0 i) ∧ (∀ i, sb i = true ↔ RI PI bi i) ∧ (∀ i, su i = true ↔ ∃ s ∈ bl PI (fun i => sa i && sb i) G.length, RI PI s i) ∧
    L.Perm (ol G (fun i => sa i && sb i && !su i) G.length) ∧ L.Pairwise nb ∧ ((L = [] ∧ ∃ a c, v = .slice a 0 c) ∨ ∃ g cap, v = .slice (some ⟨g, 0, none⟩) L.length cap ∧ CRow w' g L) ∧ Below w.heap.size w w'

/-- A row of truth values. -/
def BRow (w : World) (rb n : Nat) (sn : Nat → Bool) : Prop := ∃ arr, Blk w rb 4 arr ∧ arr.size = n ∧ ∀ i, i < n → arr[i]? = some (.bool (sn i))

theorem BRow.below {w w' : World} {rb n : Nat} {sn : Nat → Bool} (h : BRow w rb n sn) (hb : Below w.heap.size w w') : BRow w' rb n sn := by
  obtain ⟨arr, h1, h2, h3⟩ := h
  exact ⟨arr, h1.below hb h1.lt, h2, h3⟩

theorem BRow.cell {w : World} {rb n : Nat} {sn : Nat → Bool} (h : BRow w rb n sn) {i : Nat} (hi : i < n) : w.cell? ⟨rb, i, none⟩ = some (.bool (sn i)) := by
  obtain ⟨arr, h1, h2, h3⟩ := h
  exact (h1.cell i).trans (h3 i hi)

set_option maxHeartbeats 8000000 in
set_option maxRecDepth 8000 in
theorem best_any (gb ng nc pg pc bi : Nat) (G : List Cm) (PI : List (List Nat)) (w : World) (h : GA w gb ng nc pg pc G PI bi) (hp : GP G PI) (hl : G.length ≤ 100000) (hbi : bi < G.length) (htot : tot PI ≤ 1000000000) :
    Calls Try.prog 32 #[ptr gb] w fun e w' => BPost w G PI bi e w' := by
  obtain ⟨i0, hi, hz0, hz1, hz2⟩ := info_parts info3
  have HI := hide (And.intro hi (And.intro hz0 (And.intro hz1 hz2)))
  clear hi hz0 hz1 hz2
  obtain ⟨i1, hi, hz0, hz1, hz2⟩ := info_parts info39
  have HI2 := hide (And.intro hi (And.intro hz0 (And.intro hz1 hz2)))
  clear hi hz0 hz1 hz2
  have HA := hide h
  have HP := hide hp
  obtain ⟨n, hn⟩ : ∃ n, n = G.length := ⟨_, rfl⟩
  have hpn : PI.length = n := by rw [hp.len, hn]
  have HBK : Hid (Blk w gb 58 #[.slice (some ⟨ng, 0, none⟩) n nc, .slice (some ⟨pg, 0, none⟩) n pc, .int .i64 bi]) := hide (by
    have := h.blk
    rw [← hn, hpn] at this
    exact this)
  have HN := hide hn
  have HPN := hide hpn
  have hb1 : Below w.heap.size w (w.alloc (.cells #[.int .i64 0] 3)) := (Below.refl _ _).alloc (Nat.le_refl _) _
  have HC1 := hide (reach_any gb ng nc pg pc bi G PI [0] (some ⟨w.heap.size, 0, none⟩) 1 _ (h.below hb1) hp hl (fun s hs => by simp at hs; omega) (by simp) (.inr ⟨_, _, rfl, fun i hi => by
    have : i = 0 := by simp at hi; omega
    subst this
    exact (Blk.new w 3 #[.int .i64 0]).cell 0⟩))
  have HB1 := hide hb1
  rw [← hn] at hl hbi HC1
  clear h hp hn hpn hb1
  go_enter Try.func32, Try.ntmps32
  go_wp2_with fail
  refine HC1.out.mono ?_
  rintro e w1 ⟨ra, sa, rfl, hra, hsa, hb1⟩
  have HB01 : Hid (Below w.heap.size w w1) := after HB1.out hb1
  have HRA : Hid (BRow w1 ra n sa) := hide hra
  have HSA : Hid (∀ i, sa i = true ↔ RI PI 0 i) := hide (by simpa using hsa)
  have d2 : w1.cell? ⟨gb, 2, none⟩ = some (.int .i64 bi) := (HBK.out.below HB01.out HBK.out.lt).cell 2
  have hb2 : Below w1.heap.size w1 (w1.alloc (.cells #[.int .i64 bi] 3)) := (Below.refl _ _).alloc (Nat.le_refl _) _
  have HC2 := hide (reach_any gb ng nc pg pc bi G PI [bi] (some ⟨w1.heap.size, 0, none⟩) 1 _ ((HA.out.below HB01.out).below hb2) HP.out (by have := HN.out; omega) (fun s hs => by simp at hs; have := HN.out; omega) (by simp) (.inr ⟨_, _, rfl, fun i hi => by
    have : i = 0 := by simp at hi; omega
    subst this
    exact (Blk.new w1 3 #[.int .i64 bi]).cell 0⟩))
  rw [← HN.out] at HC2
  have HB2 := hide hb2
  clear hra hsa hb1 hb2 HC1 HB1
  go_wp2_with fail
  refine HC2.out.mono ?_
  rintro e w2 ⟨rbb, sb, rfl, hrb, hsb, hb2⟩
  have hb12 : Below w1.heap.size w1 w2 := after HB2.out hb2
  have HB02 : Hid (Below w.heap.size w w2) := after HB01.out hb12
  have HRA2 := hide (HRA.out.below hb12)
  have HRB2 : Hid (BRow w2 rbb n sb) := hide hrb
  have HSB : Hid (∀ i, sb i = true ↔ RI PI bi i) := hide (by simpa using hsb)
  obtain ⟨f1, hf1⟩ : ∃ f1 : Nat → Bool, f1 = fun i => sa i && sb i := ⟨_, rfl⟩
  have HF1 := hide hf1
  have HO0 : Hid (OwnI w2 w2.heap.size (.slice none 0 0) (bl PI f1 0) ∧ Below w2.heap.size w2 w2) := hide ⟨OwnI.nil _ _, Below.refl _ _⟩
  clear hrb hsb hb2 hb12 HC2 HB2 HRA d2 HB01 hf1
  go_wp2_with fail
  go_loopw [5, 6] (fun sv i wr => ∃ k : Nat, k ≤ n ∧ i = .int .i64 k ∧ Hid (OwnI wr w2.heap.size sv (bl PI f1 k) ∧ Below w2.heap.size w2 wr)) (fun _ i _ => n - (intOf i).toNat)
  case atStart => exact ⟨0, Nat.zero_le _, rfl, HO0.out⟩
  case round =>
    obtain ⟨k, hk, rfl, HQ⟩ := hrel
    have hbk := HBK.out.below (after HB02.out HQ.out.2) HBK.out.lt
    have d0 : wr.cell? ⟨gb, 0, none⟩ = some (.slice (some ⟨ng, 0, none⟩) n nc) := hbk.cell 0
    have d1 : wr.cell? ⟨gb, 1, none⟩ = some (.slice (some ⟨pg, 0, none⟩) n pc) := hbk.cell 1
    clear hbk
    by_cases hlt : k < n
    · have ca := (HRA2.out.below HQ.out.2).cell hlt
      have cb := (HRB2.out.below HQ.out.2).cell hlt
      have hkP : k < PI.length := by have := HPN.out; omega
      have HSUC := hide (bl_succ PI f1 k)
      have HGD : Hid (PI.getD k [] = PI[k]) := hide (by simp [List.getD, hkP])
      have hfk : f1 k = (sa k && sb k) := by rw [HF1.out]
      have hbl := bl_len PI f1 (k + 1) (by omega)
      have hbt := tot_take PI (k + 1)
      have hno : f1 k = false → Hid (OwnI wr w2.heap.size u5 (bl PI f1 (k + 1)) ∧ Below w2.heap.size w2 wr) := fun hf => hide (by
        rw [HSUC.out, hf]
        simpa using HQ.out)
      cases hsa : sa k with
      | false =>
        have HE := hno (by rw [hfk, hsa]; rfl)
        rw [hsa] at ca
        clear hno hfk hsa hbl hbt HQ
        go_wp2_with fail
        go_roundw
        case rel => exact ⟨k + 1, by omega, by go_num, HE.out⟩
        case measure => simp [intOf]; omega
      | true =>
        rw [hsa] at ca
        cases hsb : sb k with
        | false =>
          have HE := hno (by rw [hfk, hsb]; simp)
          rw [hsb] at cb
          clear hno hfk hsa hsb hbl hbt HQ
          go_wp2_with fail
          go_roundw
          case rel => exact ⟨k + 1, by omega, by go_num, HE.out⟩
          case measure => simp [intOf]; omega
        | true =>
          rw [hsb] at cb
          obtain ⟨rx, hrow, hrc⟩ := HA.out.rows k hkP
          have c1 := cell_below (after HB02.out HQ.out.2) hrow
          have HRC : Hid (∀ j (hj : j < PI[k].length), wr.cell? ⟨rx, j, none⟩ = some (.int .i64 PI[k][j])) := hide fun j hj => cell_below (after HB02.out HQ.out.2) (hrc j hj)
          have hf : f1 k = true := by rw [hfk, hsa, hsb]; rfl
          have HSUC2 : Hid (bl PI f1 (k + 1) = bl PI f1 k ++ PI[k]) := hide (by rw [HSUC.out, if_pos hf, HGD.out])
          rw [HSUC2.out, List.length_append] at hbl
          have HOWN := hide HQ.out.1
          have HBW := hide HQ.out.2
          have hwz : w2.heap.size ≤ wr.heap.size := HQ.out.2.size
          rcases Nat.eq_zero_or_pos PI[k].length with h0 | h0
          · rw [h0] at c1
            have hnil : PI[k] = [] := List.eq_nil_of_length_eq_zero h0
            have HE : Hid (OwnI wr w2.heap.size u5 (bl PI f1 (k + 1)) ∧ Below w2.heap.size w2 wr) := hide (by rw [HSUC2.out, hnil, List.append_nil]; exact HQ.out)
            have happ := fun b5 l5 c5 hle5 => app0 wr b5 l5 c5 hle5 (some ⟨rx, 0, none⟩) 0
            have hform := HOWN.out.form
            clear hno hfk hsa hsb hbl hbt HQ hrow hrc hf HSUC2 HSUC HGD hnil HRC h0 HOWN
            rcases hform with ⟨rfl, hb0⟩ | ⟨g5, c5, rfl, -, hle5, -⟩
            · have happ2 := happ none 0 0 (Nat.le_refl _)
              clear happ hb0
              go_wp2_with fail
              go_roundw
              case rel => exact ⟨k + 1, by omega, by go_num, HE.out⟩
              case measure => simp [intOf]; omega
            · have happ2 := happ (some ⟨g5, 0, none⟩) (bl PI f1 k).length c5 hle5
              clear happ
              go_wp2_with fail
              go_roundw
              case rel => exact ⟨k + 1, by omega, by go_num, HE.out⟩
              case measure => simp [intOf]; omega
          · have HNW : Hid (∀ j u, (PI[k].map (fun q : Nat => Value.int .i64 (q : Int)))[j]? = some u → wr.cell? ((⟨rx, 0, none⟩ : Addr).add j) = some u) := hide fun j u hu => by
              have hj : j < PI[k].length := by
                have := (List.getElem?_eq_some_iff.1 hu).1
                simpa using this
              have hadd : (⟨rx, 0, none⟩ : Addr).add j = ⟨rx, j, none⟩ := by unfold Addr.add; split <;> simp_all
              rw [hadd, HRC.out j hj]
              rw [List.getElem?_map, List.getElem?_eq_getElem hj] at hu
              exact hu
            have HML : Hid ((PI[k].map (fun q : Nat => Value.int .i64 (q : Int))).length = PI[k].length * 1 ∧ ∀ u ∈ PI[k].map (fun q : Nat => Value.int .i64 (q : Int)), u.oneCell' = true) := hide ⟨by simp, fun u hu => by
              obtain ⟨q, _, rfl⟩ := List.mem_map.1 hu
              rfl⟩
            have HPUT : Hid (∀ g cap w', w'.ownsRow w2.heap.size 3 1 (.slice (some ⟨g, 0, none⟩) ((bl PI f1 k).length + PI[k].length) cap) ((bl PI f1 k).length + PI[k].length) ((bl PI f1 k).map (fun q : Nat => Value.int .i64 (q : Int)) ++ PI[k].map (fun q : Nat => Value.int .i64 (q : Int))) → wr.grownBy w' u5.ownBlock → OwnI w' w2.heap.size (.slice (some ⟨g, 0, none⟩) ((bl PI f1 k).length + PI[k].length) cap) (bl PI f1 (k + 1)) ∧ Below w2.heap.size w2 w') := hide fun g cap w' h1 h2 => by
              refine ⟨?_, HBW.out.trans ((Keeps.of_grown h2).below hwz (fun q hq => ?_))⟩
              · rw [HSUC2.out]
                unfold OwnI
                rw [List.map_append, List.length_append]
                exact h1
              · obtain ⟨_, _, hB⟩ := HOWN.out.blk hq
                exact hB
            clear hno hfk hsa hsb HQ hrow hrc hf HSUC2 HSUC HGD HRC
            generalize PI[k] = pk at *
            generalize bl PI f1 k = bk at *
            go_wp2_with ((at_builtin; refine wpList_append_lies _ rfl _ _ 46 rfl w2.heap.size 3 i0 (.int .i64 0) 1 8 Try.underlying46 HI.out.1 HI.out.2.1 HI.out.2.2.1 HI.out.2.2.2 rfl (by decide) u5 bk.length (bk.map (fun q : Nat => Value.int .i64 (q : Int))) rfl HOWN.out ⟨rx, 0, none⟩ pk.length pk.length (pk.map (fun q : Nat => Value.int .i64 (q : Int))) rfl HML.out.1 HNW.out HML.out.2 h0 (by unfold maxLen; omega) (by omega) hwz wr.heap.size rfl ?_; intro g4 cap4 w4 hown hgrow hat hlt4; have HE := hide (HPUT.out g4 cap4 w4 hown hgrow); clear hown hgrow hat hlt4))
            go_roundw
            case rel => exact ⟨k + 1, by omega, by go_num, HE.out⟩
            case measure => simp [intOf]; omega
    · have hkn : k = n := by omega
      subst hkn
      obtain ⟨sa5, sc5, hu5, hcells⟩ : ∃ sa5 sc5, u5 = .slice sa5 (bl PI f1 k).length sc5 ∧ ((bl PI f1 k).length = 0 ∨ ∃ q off, sa5 = some ⟨q, off, none⟩ ∧ ∀ i (hi : i < (bl PI f1 k).length), wr.cell? ⟨q, off + i, none⟩ = some (.int .i64 (bl PI f1 k)[i])) := by
        rcases HQ.out.1.form with ⟨rfl, hb0⟩ | ⟨g5, c5, rfl, -, -, -, hc⟩
        · exact ⟨none, 0, by rw [hb0]; rfl, .inl (by rw [hb0]; rfl)⟩
        · exact ⟨_, _, rfl, .inr ⟨g5, 0, rfl, fun i hi => by rw [Nat.zero_add]; exact hc i hi⟩⟩
      subst hu5
      have hb03 : Below w.heap.size w wr := after HB02.out HQ.out.2
      have hbll := Nat.le_trans (bl_len PI f1 k (by have := HPN.out; omega)) (tot_take PI k)
      have HC3 := hide (reach_any gb ng nc pg pc bi G PI (bl PI f1 k) sa5 sc5 wr (HA.out.below hb03) HP.out (by have := HN.out; omega) (fun s hs => by
        obtain ⟨i, hi, _, hj⟩ := bl_mem.1 hs
        have hiP : i < PI.length := by have := HPN.out; omega
        rw [show PI.getD i [] = PI[i] by simp [List.getD, hiP]] at hj
        exact HP.out.lt i hiP s hj) (by omega) hcells)
      rw [← HN.out] at HC3
      have HB03 := hide hb03
      have HRA3 := hide (HRA2.out.below HQ.out.2)
      have HRB3 := hide (HRB2.out.below HQ.out.2)
      clear hcells hb03 HQ HO0 HRA2 HRB2 HB02 hbll
      go_wp2_with fail
      refine HC3.out.mono ?_
      rintro e w4 ⟨ru, su, rfl, hru, hsu, hb4⟩
      have HB04 : Hid (Below w.heap.size w w4) := after HB03.out hb4
      have HRA4 := hide (HRA3.out.below hb4)
      have HRB4 := hide (HRB3.out.below hb4)
      have HRU4 : Hid (BRow w4 ru k su) := hide hru
      have HSU := hide hsu
      obtain ⟨f2, hf2⟩ : ∃ f2 : Nat → Bool, f2 = fun i => sa i && sb i && !su i := ⟨_, rfl⟩
      have HF2 := hide hf2
      have HO0 : Hid (OwnC w4 w4.heap.size (.slice none 0 0) (ol G f2 0) ∧ Below w4.heap.size w4 w4) := hide ⟨OwnC.nil _ _, Below.refl _ _⟩
      clear hru hsu hb4 hf2 HC3 HRA3 HRB3 d0 d1 hlt hk
      go_wp2_with fail
      go_loopw [8, 9] (fun sv i wr => ∃ q : Nat, q ≤ k ∧ i = .int .i64 q ∧ Hid (OwnC wr w4.heap.size sv (ol G f2 q) ∧ Below w4.heap.size w4 wr)) (fun _ i _ => k - (intOf i).toNat)
      case atStart => exact ⟨0, Nat.zero_le _, rfl, HO0.out⟩
      case round =>
        obtain ⟨q, hq, rfl, HQ⟩ := hrel
        have hbk := HBK.out.below (after HB04.out HQ.out.2) HBK.out.lt
        have d0 : wr.cell? ⟨gb, 0, none⟩ = some (.slice (some ⟨ng, 0, none⟩) k nc) := hbk.cell 0
        clear hbk
        by_cases hlt : q < k
        · have ca := (HRA4.out.below HQ.out.2).cell hlt
          have cb := (HRB4.out.below HQ.out.2).cell hlt
          have cu := (HRU4.out.below HQ.out.2).cell hlt
          have hqG : q < G.length := by have := HN.out; omega
          have hsuc := ol_succ (f := f2) hqG
          have hfq : f2 q = (sa q && sb q && !su q) := by rw [HF2.out]
          have hno : f2 q = false → Hid (OwnC wr w4.heap.size u8 (ol G f2 (q + 1)) ∧ Below w4.heap.size w4 wr) := fun hf => hide (by
            rw [hsuc, hf]
            exact HQ.out)
          cases hsa : sa q with
          | false =>
            have HE := hno (by rw [hfq, hsa]; rfl)
            rw [hsa] at ca
            clear hno hfq hsa HQ hsuc
            go_wp2_with fail
            go_roundw
            case rel => exact ⟨q + 1, by omega, by go_num, HE.out⟩
            case measure => simp [intOf]; omega
          | true =>
            rw [hsa] at ca
            cases hsb : sb q with
            | false =>
              have HE := hno (by rw [hfq, hsb]; simp)
              rw [hsb] at cb
              clear hno hfq hsa hsb HQ hsuc
              go_wp2_with fail
              go_roundw
              case rel => exact ⟨q + 1, by omega, by go_num, HE.out⟩
              case measure => simp [intOf]; omega
            | true =>
              rw [hsb] at cb
              cases hsu : su q with
              | true =>
                have HE := hno (by rw [hfq, hsu]; simp)
                rw [hsu] at cu
                clear hno hfq hsa hsb hsu HQ hsuc
                go_wp2_with fail
                go_roundw
                case rel => exact ⟨q + 1, by omega, by go_num, HE.out⟩
                case measure => simp [intOf]; omega
              | false =>
                rw [hsu] at cu
                have hf : f2 q = true := by rw [hfq, hsa, hsb, hsu]; rfl
                rw [if_pos hf] at hsuc
                obtain ⟨z0, z1, z2, z3, z4, z5, z6, z7⟩ := (HA.out.nodes q hqG).below (after HB04.out HQ.out.2)
                have hol := ol_len G f2 q
                have HSUC := hide hsuc
                have HOWN := hide HQ.out.1
                have HBW := hide HQ.out.2
                have hwz : w4.heap.size ≤ wr.heap.size := HQ.out.2.size
                generalize G[q] = cq at *
                have HOA := hide (HOWN.out.below (w' := wr.alloc (.cells (carr cq).toArray 39)) ((Below.refl _ _).alloc (Nat.le_refl _) _))
                have HPUT : Hid (∀ g cap w', w'.ownsRow w4.heap.size 39 8 (.slice (some ⟨g, 0, none⟩) ((ol G f2 q).length + 1) cap) ((ol G f2 q).length + 1) ((ol G f2 q).flatMap carr ++ carr cq) → (wr.alloc (.cells (carr cq).toArray 39)).grownBy w' u8.ownBlock → OwnC w' w4.heap.size (.slice (some ⟨g, 0, none⟩) ((ol G f2 q).length + 1) cap) (ol G f2 (q + 1)) ∧ Below w4.heap.size w4 w') := hide fun g cap w' h1 h2 => by
                  refine ⟨by rw [HSUC.out]; exact OwnC.snoc h1, HBW.out.trans ((((Keeps.refl wr _).alloc _).trans (Keeps.of_grown h2)).below hwz (fun j hj => ?_))⟩
                  obtain ⟨_, _, hB⟩ := HOWN.out.blk hj
                  exact hB
                clear hno hfq hsa hsb hsu HQ hsuc hf HSUC
                generalize ol G f2 q = oq at *
                go_wp2_with ((at_builtin; refine wpList_append_lies _ rfl _ _ 47 rfl w4.heap.size 39 i1 (.agg zeroC) 8 112 Try.underlying47 HI2.out.1 HI2.out.2.1 HI2.out.2.2.1 HI2.out.2.2.2 rfl (by decide) u8 oq.length (oq.flatMap carr) rfl HOA.out ⟨wr.heap.size, 0, none⟩ 1 1 (carr cq) rfl rfl (World.news_of_block (Blk.new wr 39 (carr cq).toArray)) (by simp [carr, Value.oneCell']) (by decide) (by unfold maxLen; omega) (by omega) (by simp only [World.size_alloc]; omega) (wr.heap.size + 1) (by simp only [World.size_alloc]) ?_; intro g4 cap4 w5 hown hgrow hat hlt4; have HE := hide (HPUT.out g4 cap4 w5 hown hgrow); clear hown hgrow hat hlt4))
                go_roundw
                case rel => exact ⟨q + 1, by omega, by go_num, HE.out⟩
                case measure => simp [intOf]; omega
        · have hqk : q = k := by omega
          subst hqk
          have HOW := hide HQ.out.1
          have HSRT := hide (sort_any HQ.out.1 (by have := ol_len G f2 q; omega))
          have HB05 : Hid (Below w.heap.size w wr) := after HB04.out HQ.out.2
          have hwz : w4.heap.size ≤ wr.heap.size := HQ.out.2.size
          have HB4W := hide HQ.out.2
          clear HQ hlt
          go_wp2_with fail
          refine HSRT.out.mono ?_
          rintro e w6 ⟨rfl, L, hperm, hsort, hv, hk6⟩
          have HEND : Hid (BPost w G PI bi (.returned u8) w6) := hide (by
            refine ⟨u8, sa, sb, su, L, rfl, HSA.out, HSB.out, ?_, ?_, hsort, ?_, ?_⟩
            · intro i
              have := HSU.out i
              rw [← HN.out, ← HF1.out]
              exact this
            · rw [← HN.out, ← HF2.out]
              exact hperm
            · rcases hv with hv | hv
              · left
                refine ⟨hv, ?_⟩
                rcases HOW.out.form with ⟨rfl, _⟩ | ⟨g, cap, rfl, _⟩
                · exact ⟨_, _, rfl⟩
                · rw [← hperm.length_eq, hv]
                  exact ⟨_, _, rfl⟩
              · exact .inr hv
            · exact HB04.out.trans ((HB4W.out.trans (hk6.below hwz (fun j hj => by
                obtain ⟨_, _, hB⟩ := HOW.out.blk hj
                exact hB))).mono HB04.out.size))
          clear hperm hsort hv hk6 HSRT HOW HB05 HB4W
          go_wp2_with fail
          go_ret
          exact HEND.out
end Go.Proofs.Qxb6605835a
