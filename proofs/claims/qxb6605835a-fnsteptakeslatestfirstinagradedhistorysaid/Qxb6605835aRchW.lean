import Derived.Test.Qxb6605835aRch
namespace Go.Proofs.Qxb6605835a
open Go.ChangeShapes Go.WideShapes Go.ChangeAt Go.RowKit
set_option linter.unusedVariables false

/-- The search in memory. -/
structure RS (w wr : World) (rb n : Nat) (sv : Value) (sn : Nat → Bool) (st : List Nat) : Prop where
  row : ∃ arr, Blk wr rb 4 arr ∧ arr.size = n ∧ ∀ i, i < n → arr[i]? = some (.bool (sn i))
  own : OwnI wr w.heap.size sv st
  bel : Below w.heap.size w wr
  rbl : w.heap.size ≤ rb

section
variable {w wr : World} {rb n : Nat} {sv : Value} {sn : Nat → Bool} {st : List Nat}

theorem RS.cell (h : RS w wr rb n sv sn st) {i : Nat} (hi : i < n) : wr.cell? ⟨rb, i, none⟩ = some (.bool (sn i)) ∧ wr.frozen? ⟨rb, i, none⟩ = false := by
  obtain ⟨arr, hb, _, ha⟩ := h.row
  exact ⟨(hb.cell i).trans (ha i hi), hb.free i⟩

theorem RS.mark (h : RS w wr rb n sv sn st) {j : Nat} (hj : j < n) : RS w (wr.setCell ⟨rb, j, none⟩ (.bool true)) rb n sv (upd1 sn j) st := by
  obtain ⟨arr, hb, hs, ha⟩ := h.row
  have hk : Keeps wr (wr.setCell ⟨rb, j, none⟩ (.bool true)) (· = rb) := (Keeps.refl wr _).set rb j _ (.inl rfl)
  refine ⟨⟨_, hb.set j _, by simp [hs], fun i hi => ?_⟩, h.own.kept hk (fun g hg e => ?_), h.bel.trans (hk.below h.bel.size (fun k e => by have := h.rbl; omega)), h.rbl⟩
  · unfold upd1
    rw [Array.getElem?_setIfInBounds]
    by_cases e : i = j
    · subst e; simp [hs, hi]
    · rw [if_neg (fun h => e h.symm), if_neg e]
      exact ha i hi
  · obtain ⟨cur, hc, _⟩ := h.own.blk hg
    subst e
    exact hc.ne hb (by decide) rfl

theorem RS.push (h : RS w wr rb n sv sn st) {o : Obj} {w4 : World} {g cap j : Nat} (hown : w4.ownsRow w.heap.size 3 1 (.slice (some ⟨g, 0, none⟩) (st.length + 1) cap) (st.length + 1) (st.map (fun k : Nat => Value.int .i64 (k : Int)) ++ [.int .i64 j])) (hgrow : (wr.alloc o).grownBy w4 sv.ownBlock) :
    RS w w4 rb n (.slice (some ⟨g, 0, none⟩) (st.length + 1) cap) sn (st ++ [j]) := by
  obtain ⟨arr, hb, hs, ha⟩ := h.row
  have hk : Keeps wr w4 (fun k => sv.ownBlock = some k) := ((Keeps.refl wr _).alloc o).trans (Keeps.of_grown hgrow)
  refine ⟨⟨arr, hb.kept hk (fun hg => ?_), hs, ha⟩, ?_, h.bel.trans (hk.below h.bel.size (fun k hg => ?_)), h.rbl⟩
  · obtain ⟨cur, hc, _⟩ := h.own.blk hg
    exact hc.ne hb (by decide) rfl
  · unfold OwnI
    rw [List.map_append, List.length_append]
    exact hown
  · obtain ⟨cur, _, hB⟩ := h.own.blk hg
    exact hB

theorem RS.pop {x g cap : Nat} (h : RS w wr rb n (.slice (some ⟨g, 0, none⟩) (st.length + 1) cap) sn (st ++ [x])) : RS w wr rb n (.slice (some ⟨g, 0, none⟩) st.length cap) sn st :=
  ⟨h.row, h.own.pop, h.bel, h.rbl⟩
end

theorem nodup_leN : ∀ {l m : List Nat}, l.Nodup → (∀ x ∈ l, x ∈ m) → l.length ≤ m.length
  | [], _, _, _ => Nat.zero_le _
  | x :: l, m, hn, hs => by
    obtain ⟨u, v, rfl⟩ := List.append_of_mem (hs x (by simp))
    have hn' := List.nodup_cons.1 hn
    have := nodup_leN (l := l) (m := u ++ v) hn'.2 (fun y hy => by
      have h1 := hs y (by simp [hy])
      simp only [List.mem_append, List.mem_cons] at h1 ⊢
      rcases h1 with h1 | h1 | h1
      · exact .inl h1
      · subst h1; exact absurd hy hn'.1
      · exact .inr h1)
    simp only [List.length_append, List.length_cons] at this ⊢
    omega

theorem RV.len {PI : List (List Nat)} {S st : List Nat} {n q : Nat} {sn : Nat → Bool} {cur : Option Nat} (h : RV PI S n sn st cur q) : st.length ≤ n := by
  have := nodup_leN (m := List.range n) h.nd (fun x hx => List.mem_range.2 (h.lt x (h.stk x hx)))
  simpa using this

theorem cell_below' {w w' : World} {a : Addr} {v : Value} (hb : Below w.heap.size w w') (h : w.cell? a = some v) : w'.cell? a = some v := cell_below hb h

/-- How many are not seen, read off the memory. -/
def unW (wr : World) (rb n : Nat) : Nat := unseen n (fun i => match wr.cell? ⟨rb, i, none⟩ with | some (.bool b) => b | _ => true)
def lenV : Value → Nat | .slice _ n _ => n | _ => 0

theorem RS.un {w wr : World} {rb n : Nat} {sv : Value} {sn : Nat → Bool} {st : List Nat} (h : RS w wr rb n sv sn st) : unW wr rb n = unseen n sn := by
  unfold unW unseen
  congr 1
  apply List.filter_congr
  intro i hi
  simp only [(h.cell (List.mem_range.1 hi)).1]

/-- What reach promises. -/
def RPost (w : World) (PI : List (List Nat)) (S : List Nat) (n : Nat) (e : Ending) (w' : World) : Prop :=
  ∃ (rb : Nat) (sn : Nat → Bool), e = .returned (.slice (some ⟨rb, 0, none⟩) n n) ∧ (∃ arr, Blk w' rb 4 arr ∧ arr.size = n ∧ ∀ i, i < n → arr[i]? = some (.bool (sn i))) ∧ (∀ i, sn i = true ↔ ∃ s ∈ S, RI PI s i) ∧ Below w.heap.size w w'

set_option maxHeartbeats 8000000 in
set_option maxRecDepth 8000 in
theorem reach_any (gb ng nc pg pc bi : Nat) (G : List Cm) (PI : List (List Nat)) (S : List Nat) (sa : Option Addr) (sc : Nat) (w : World) (h : GA w gb ng nc pg pc G PI bi) (hp : GP G PI) (hl : G.length ≤ 100000)
    (hS : ∀ s ∈ S, s < G.length) (hSl : S.length ≤ 1000000000) (hSc : S.length = 0 ∨ ∃ sb off, sa = some ⟨sb, off, none⟩ ∧ ∀ i (hi : i < S.length), w.cell? ⟨sb, off + i, none⟩ = some (.int .i64 S[i])) :
    Calls Try.prog 50 #[ptr gb, .slice sa S.length sc] w fun e w' => RPost w PI S G.length e w' := by
  obtain ⟨i0, hi, hz0, hz1, hz2⟩ := info_parts info3
  have HI := hide (And.intro hi (And.intro hz0 (And.intro hz1 hz2)))
  clear hi hz0 hz1 hz2
  have HA := hide h
  have HP := hide hp
  have HS := hide hS
  have HSC := hide hSc
  obtain ⟨n, hn⟩ : ∃ n, n = G.length := ⟨_, rfl⟩
  obtain ⟨m, hm⟩ : ∃ m, m = S.length := ⟨_, rfl⟩
  have hpn : PI.length = n := by rw [hp.len, hn]
  have HBK : Hid (Blk w gb 58 #[.slice (some ⟨ng, 0, none⟩) n nc, .slice (some ⟨pg, 0, none⟩) n pc, .int .i64 bi]) := hide (by
    have := h.blk
    rw [← hn, hpn] at this
    exact this)
  have d0 : w.cell? ⟨gb, 0, none⟩ = some (.slice (some ⟨ng, 0, none⟩) n nc) := HBK.out.cell 0
  have m44 := make44 n (by omega)
  rw [← hn] at hl ⊢
  rw [← hm] at hSl ⊢
  have HN := hide hn
  have HM := hide hm
  have HPN := hide hpn
  have HR0 : Hid (RS w (w.alloc (.cells (madeCells #[.bool false] n) 4)) w.heap.size n (.slice none 0 0) (fun _ => false) []) := hide ⟨⟨_, Blk.new w 4 _, madeSize _ _, fun i hi => made1 _ _ _ hi⟩, OwnI.nil _ _, (Below.refl _ _).alloc (Nat.le_refl _) _, Nat.le_refl _⟩
  clear h hp hS hSc hn hm hpn
  go_enter Try.func50, Try.ntmps50
  go_wp2_with fail
  obtain ⟨rb, hrb⟩ : ∃ rb, rb = w.heap.size := ⟨_, rfl⟩
  obtain ⟨W1, hW1⟩ : ∃ W1, W1 = w.alloc (.cells (madeCells #[.bool false] n) 4) := ⟨_, rfl⟩
  rw [← hW1] at HR0
  rw [← hrb] at HR0
  rw [← hW1]
  have HRB := hide hrb
  rw [show (Value.slice (some ⟨w.heap.size, 0, none⟩) n n) = .slice (some ⟨rb, 0, none⟩) n n by rw [hrb]]
  clear hW1 hrb d0 m44
  go_loopw [6, 20] (fun sv i wr => ∃ k : Nat, k ≤ m ∧ i = .int .i64 k ∧ Hid (∃ sn st, RS w wr rb n sv sn st ∧ RV PI S n sn st none 0 ∧ st.length ≤ k ∧ ∀ t (ht : t < S.length), t < k → sn S[t] = true)) (fun _ i _ => m - (intOf i).toNat)
  case atStart => exact ⟨0, Nat.zero_le _, rfl, _, _, HR0.out, RV.init PI S n, Nat.zero_le _, fun t _ h => by omega⟩
  case round =>
    obtain ⟨k, hk, rfl, HQ⟩ := hrel
    obtain ⟨sn, st, hrs, hrv, hstl, hsk⟩ := HQ.out
    by_cases hlt : k < m
    · as_aux_lemma =>
      have hkS : k < S.length := by have := HM.out; omega
      obtain ⟨sb, off, hsa, hcS⟩ : ∃ sb off, sa = some ⟨sb, off, none⟩ ∧ ∀ i (hi : i < S.length), w.cell? ⟨sb, off + i, none⟩ = some (.int .i64 S[i]) := by
        rcases HSC.out with h0 | h0
        · omega
        · exact h0
      subst hsa
      have c1 := cell_below' hrs.bel (hcS k hkS)
      have hsn : S[k] < n := by have := HS.out _ (List.getElem_mem hkS); have := HN.out; omega
      obtain ⟨c2, f2⟩ := hrs.cell hsn
      have HRS := hide hrs
      have HRV := hide hrv
      have HREA : Hid (∃ s ∈ S, RI PI s S[k]) := hide ⟨_, List.getElem_mem hkS, .refl _⟩
      have HSK : Hid (∀ sn' : Nat → Bool, (∀ i, sn i = true → sn' i = true) → sn' S[k] = true → ∀ t (ht : t < S.length), t < k + 1 → sn' S[t] = true) := hide fun sn' h1 h2 t ht htk => by
        by_cases e : t = k
        · subst e; exact h2
        · exact h1 _ (hsk t ht (by omega))
      clear hrs hrv hsk hcS HQ HSC
      generalize S[k] = s at *
      cases hb : sn s with
      | true =>
        rw [hb] at c2
        have HSK' := hide (HSK.out sn (fun _ h => h) hb)
        clear hb HSK
        go_wp2_with fail
        go_roundw
        case rel => exact ⟨k + 1, by omega, by go_num, sn, st, HRS.out, HRV.out, by omega, HSK'.out⟩
        case measure => simp [intOf]; omega
      | false =>
        rw [hb] at c2
        have HRM := hide (HRS.out.mark hsn)
        have HRV' := hide (HRV.out.push hsn HREA.out hb)
        have HSK' := hide (HSK.out (upd1 sn s) (fun i hi => by unfold upd1; split <;> simp [hi]) (by unfold upd1; simp))
        clear hb HSK HRS HRV
        go_upto_region 8 with fail
        obtain ⟨WM, hWM⟩ : ∃ WM, WM = wr.setCell ⟨rb, s, none⟩ (.bool true) := ⟨_, rfl⟩
        rw [← hWM] at HRM
        rw [← hWM]
        have HOA := hide (HRM.out.own.below (w' := WM.alloc (.cells #[.int .i64 s] 3)) ((Below.refl _ _).alloc (Nat.le_refl _) _))
        have hwz : w.heap.size ≤ WM.heap.size := HRM.out.bel.size
        clear hWM
        go_wp2_with ((at_builtin; refine wpList_append_lies _ rfl _ _ 46 rfl w.heap.size 3 i0 (.int .i64 0) 1 8 Try.underlying46 HI.out.1 HI.out.2.1 HI.out.2.2.1 HI.out.2.2.2 rfl (by decide) u6 st.length (st.map (fun k : Nat => Value.int .i64 (k : Int))) rfl HOA.out ⟨WM.heap.size, 0, none⟩ 1 1 [.int .i64 s] rfl rfl (World.news_of_block (Blk.new WM 3 #[.int .i64 s])) (by simp [Value.oneCell']) (by decide) (by unfold maxLen; omega) (by omega) (by simp only [World.size_alloc]; omega) (WM.heap.size + 1) (by simp only [World.size_alloc]) ?_; intro g4 cap4 w4 hown hgrow hat hlt4; have HRP := hide (HRM.out.push hown hgrow); clear hown hgrow hat hlt4))
        go_roundw
        case rel => exact ⟨k + 1, by omega, by go_num, _, _, HRP.out, HRV'.out, by simp; omega, HSK'.out⟩
        case measure => simp [intOf]; omega
    · have HST : Hid (∃ sn st, RS w wr rb n u6 sn st ∧ RV PI S n sn st none 0 ∧ ∀ s ∈ S, sn s = true) := hide ⟨sn, st, hrs, hrv, fun s hs => by
        obtain ⟨t, ht, rfl⟩ := List.mem_iff_getElem.1 hs
        exact hsk t ht (by have := HM.out; omega)⟩
      clear hrs hrv hstl hsk HQ HSC HR0
      clear sn st
      go_wp2_with fail
      go_loopw [6] (fun sv wr => Hid (∃ sn st, RS w wr rb n sv sn st ∧ RV PI S n sn st none 0 ∧ ∀ s ∈ S, sn s = true)) (fun sv wr => 2 * unW wr rb n + lenV sv)
      case atStart => exact HST.out
      case round =>
        as_aux_lemma =>
        obtain ⟨sn, st, hrs, hrv, hsk⟩ := hrel.out
        have hstn := hrv.len
        rcases List.eq_nil_or_concat st with hnil | ⟨st', x, hcat⟩
        · subst hnil
          have hlen : ∃ a c, u6 = .slice a 0 c := by
            rcases hrs.own.form with ⟨rfl, _⟩ | ⟨g, cap, rfl, _⟩
            · exact ⟨_, _, rfl⟩
            · exact ⟨_, _, rfl⟩
          obtain ⟨a6, c6, rfl⟩ := hlen
          have HE : Hid (RPost w PI S n (.returned (.slice (some ⟨rb, 0, none⟩) n n)) wr) := hide ⟨rb, sn, rfl, hrs.row, hrv.all (fun i hi j hj => by have := HP.out.lt i hi j hj; have := HN.out; omega) hsk, hrs.bel⟩
          clear hrs hrv hsk hrel HST
          go_wp2_with fail
          go_ret
          exact HE.out
        · rw [List.concat_eq_append] at hcat
          subst hcat
          obtain ⟨g, cap, hu6, -, hcap, hcm, hcells⟩ : ∃ g cap, u6 = .slice (some ⟨g, 0, none⟩) (st' ++ [x]).length cap ∧ w.heap.size ≤ g ∧ (st' ++ [x]).length ≤ cap ∧ cap ≤ maxLen ∧ ∀ i (hi : i < (st' ++ [x]).length), wr.cell? ⟨g, i, none⟩ = some (.int .i64 (st' ++ [x])[i]) := by
            rcases hrs.own.form with ⟨_, h0⟩ | h0
            · simp at h0
            · exact h0
          have hll : (st' ++ [x]).length = st'.length + 1 := by simp
          rw [hll] at hu6 hcap hstn
          subst hu6
          have c1 : wr.cell? ⟨g, st'.length, none⟩ = some (.int .i64 x) := by
            have := hcells st'.length (by simp)
            simpa using this
          have hxn : x < n := hrv.lt x (hrv.stk x (by simp))
          have hxP : x < PI.length := by have := HPN.out; omega
          have HM0 : Hid (2 * unW wr rb n + lenV (.slice (some ⟨g, 0, none⟩) (st'.length + 1) cap) = 2 * unseen n sn + (st'.length + 1)) := hide (by rw [hrs.un]; rfl)
          have HRS := hide hrs.pop
          have HRV := hide hrv.pop
          have hbk := HBK.out.below hrs.bel HBK.out.lt
          have d1 : wr.cell? ⟨gb, 1, none⟩ = some (.slice (some ⟨pg, 0, none⟩) n pc) := hbk.cell 1
          obtain ⟨rx, hrow, hrc⟩ := HA.out.rows x hxP
          have c2 := cell_below hrs.bel hrow
          have hpl := HP.out.psl x hxP
          have HRC := hide hrc
          have HSK := hide hsk
          obtain ⟨mm, hmm⟩ : ∃ mm, mm = PI[x].length := ⟨_, rfl⟩
          rw [← hmm] at c2 hpl
          have HMM := hide hmm
          have HXS : Hid (∃ s ∈ S, RI PI s x) := hide (hrv.sound x (hrv.stk x (by simp)))
          obtain ⟨z, hz⟩ : ∃ z, z = st'.length := ⟨_, rfl⟩
          rw [← hz] at c1 hcap hstn HM0 ⊢
          have HR3 : Hid (∃ sn2 st2, RS w wr rb n (.slice (some ⟨g, 0, none⟩) z cap) sn2 st2 ∧ RV PI S n sn2 st2 (some x) 0 ∧ 2 * unseen n sn2 + st2.length ≤ 2 * unseen n sn + z ∧ ∀ s ∈ S, sn2 s = true) := hide ⟨sn, st', by rw [hz]; exact HRS.out, HRV.out, by omega, HSK.out⟩
          unfold maxLen at hcm
          clear hrs hrv hsk hrel HST hbk hrow hrc hcells hmm hll HRS HRV HSK hz
          clear st'
          go_wp2_with fail
          clear c1 c2 d1
          go_loopw [6, 59] (fun sv i wr => ∃ q : Nat, q ≤ mm ∧ i = .int .i64 q ∧ Hid (∃ sn2 st2, RS w wr rb n sv sn2 st2 ∧ RV PI S n sn2 st2 (some x) q ∧ 2 * unseen n sn2 + st2.length ≤ 2 * unseen n sn + z ∧ ∀ s ∈ S, sn2 s = true)) (fun _ i _ => mm - (intOf i).toNat)
          case atStart => exact ⟨0, Nat.zero_le _, rfl, HR3.out⟩
          case round =>
            obtain ⟨q, hq, rfl, HQ2⟩ := hrel
            obtain ⟨sn2, st, hrs, hrv, hms, hsk⟩ := HQ2.out
            by_cases hlq : q < mm
            · have hqP : q < PI[x].length := by have := HMM.out; omega
              have c1 := cell_below hrs.bel (HRC.out q hqP)
              have hjn : PI[x][q] < n := by have := HP.out.lt x hxP _ (List.getElem_mem hqP); have := HN.out; omega
              obtain ⟨c2, f2⟩ := hrs.cell hjn
              have HREA : Hid (∃ s ∈ S, RI PI s PI[x][q]) := hide (by
                obtain ⟨s, hs, hr⟩ := HXS.out
                exact ⟨s, hs, .step hr hxP (List.getElem_mem hqP)⟩)
              have hstl := hrv.len
              have HRS := hide hrs
              have HSK := hide hsk
              cases hb : sn2 PI[x][q] with
              | true =>
                rw [hb] at c2
                have HRV := hide (hrv.more hxP hqP hb)
                clear hb hrs hrv hsk HQ2
                generalize PI[x][q] = s at *
                go_wp2_with fail
                go_roundw
                case rel => exact ⟨q + 1, by omega, by go_num, sn2, st, HRS.out, HRV.out, hms, HSK.out⟩
                case measure => simp [intOf]; omega
              | false =>
                rw [hb] at c2
                have HRM := hide (HRS.out.mark hjn)
                have hrv1 := hrv.push hjn HREA.out hb
                have HRV := hide (hrv1.more hxP hqP (by unfold upd1; simp))
                have hun := unseen_upd hjn hb
                have hms2 : 2 * unseen n (upd1 sn2 PI[x][q]) + (st ++ [PI[x][q]]).length ≤ 2 * unseen n sn + z := by
                  rw [List.length_append, List.length_cons, List.length_nil]
                  omega
                have HMS2 := hide hms2
                have HSK' : Hid (∀ s ∈ S, upd1 sn2 PI[x][q] s = true) := hide fun s hs => by
                  unfold upd1
                  split
                  · rfl
                  · exact HSK.out s hs
                clear hb hrs hrv hsk HQ2 hrv1 hun hms2 HSK
                generalize PI[x][q] = s at *
                go_upto_region 18 with fail
                obtain ⟨WM, hWM⟩ : ∃ WM, WM = wr.setCell ⟨rb, s, none⟩ (.bool true) := ⟨_, rfl⟩
                rw [← hWM] at HRM
                rw [← hWM]
                have HOA := hide (HRM.out.own.below (w' := WM.alloc (.cells #[.int .i64 s] 3)) ((Below.refl _ _).alloc (Nat.le_refl _) _))
                have hwz : w.heap.size ≤ WM.heap.size := HRM.out.bel.size
                clear hWM c1 c2 f2
                go_wp2_with ((at_builtin; refine wpList_append_lies _ rfl _ _ 46 rfl w.heap.size 3 i0 (.int .i64 0) 1 8 Try.underlying46 HI.out.1 HI.out.2.1 HI.out.2.2.1 HI.out.2.2.2 rfl (by decide) u6 st.length (st.map (fun k : Nat => Value.int .i64 (k : Int))) rfl HOA.out ⟨WM.heap.size, 0, none⟩ 1 1 [.int .i64 s] rfl rfl (World.news_of_block (Blk.new WM 3 #[.int .i64 s])) (by simp [Value.oneCell']) (by decide) (by unfold maxLen; omega) (by omega) (by simp only [World.size_alloc]; omega) (WM.heap.size + 1) (by simp only [World.size_alloc]) ?_; intro g4 cap4 w4 hown hgrow hat hlt4; have HRP := hide (HRM.out.push hown hgrow); clear hown hgrow hat hlt4))
                go_roundw
                case rel => exact ⟨q + 1, by omega, by go_num, _, _, HRP.out, HRV.out, HMS2.out, HSK'.out⟩
                case measure => simp [intOf]; omega
            · have HEND : Hid (∃ sn st, RS w wr rb n u6 sn st ∧ RV PI S n sn st none 0 ∧ ∀ s ∈ S, sn s = true) := hide ⟨sn2, st, hrs, hrv.done hxP (by have := HMM.out; omega), hsk⟩
              have HLV : Hid (2 * unW wr rb n + lenV u6 ≤ 2 * unseen n sn + z) := hide (by
                rw [hrs.un]
                have : lenV u6 = st.length := by
                  rcases hrs.own.form with ⟨rfl, h0⟩ | ⟨g, cap, rfl, _⟩
                  · rw [h0]; rfl
                  · rfl
                omega)
              clear hrs hrv hms hsk HQ2
              go_wp2_with fail
              go_roundw
              case rel => exact HEND.out
              case measure =>
                rw [HM0.out]
                have := HLV.out
                omega
end Go.Proofs.Qxb6605835a
