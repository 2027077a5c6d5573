import Derived.Test.Qxb6605835aBooksP
import Derived.LaidEqlPtr
namespace Go.Proofs.Qxb6605835a
open Go.ChangeShapes Go.WideShapes Go.ChangeAt Go.RowKit
set_option linter.unusedVariables false

/-- The three counts of zzBooks. -/
def cntQ (L : List Nd) : Nat := (L.filter (·.q)).length
def cntU (L : List Nd) : Nat := (L.filter (fun x => x.q && (x.p &&& 4 == 0))).length

theorem cnt_le (L : List Nd) : cntQ L ≤ L.length ∧ cntU L ≤ L.length := ⟨List.length_filter_le _ _, List.length_filter_le _ _⟩

theorem cnt_snoc (L : List Nd) (x : Nd) : cntQ (L ++ [x]) = cntQ L + x.q.toNat ∧ cntU (L ++ [x]) = cntU L + (x.q && (x.p &&& 4 == 0)).toNat := by
  unfold cntQ cntU
  rw [List.filter_append, List.filter_append, List.length_append, List.length_append]
  constructor
  · congr 1
    simp only [List.filter_cons, List.filter_nil]
    cases x.q <;> rfl
  · congr 1
    simp only [List.filter_cons, List.filter_nil]
    cases (x.q && (x.p &&& 4 == 0)) <;> rfl

theorem info92 : (Try.prog.info? 92).map (fun i => i.size) = some 10 := by kernel_rfl

/-- Two nodes' pointers compared. -/
theorem eqlPtr (w : World) (a b : Nat) {ca cb : Array Value} (ha : Blk w a 92 ca) (hb : Blk w b 92 cb) : (binOp .eql 62 (ptr a) (ptr b)).run Try.prog w = .ok (.bool (decide (a = b))) w := by
  obtain ⟨j, hj, hs⟩ := Option.map_eq_some_iff.1 info92
  by_cases e : a = b
  · subst e
    rw [run_eql_ptr_same w ⟨a, 0, none⟩ Try.underlying62 hj]
    simp
  · rw [run_eql_ptr_other w (a := ⟨a, 0, none⟩) (b := ⟨b, 0, none⟩) Try.underlying62 hj (by rw [hs]; decide) (fun h => e (congrArg Addr.block h)) ha hb, decide_eq_false e]

set_option maxHeartbeats 8000000 in
set_option maxRecDepth 8000 in
theorem books_any (B : Nat → Prop) (wb mb n g0 g1 g2 g3 g4 : Nat) (A0 A1 A2 A3 A4 : Array Value) (fnv qv cv : Value) (K : Nat → Cm) (N : List Nd) (Q C : List Nat) (ung : Bool) (l : List ByteArray) (w : World)
    (hs : WS w B wb mb fnv K N qv cv Q C ung) (hr : Rows5 w n (fun i => nodeFor K N (l.getD i ⟨#[]⟩)) K g0 g1 g2 g3 g4 A0 A1 A2 A3 A4) (hnl : n = l.length) (hn : n ≤ 900000) (hld : l.Nodup) (hin : ∀ x ∈ N, (K x.b).id ∈ l) :
    Calls Try.prog 19 #[ptr wb, .agg #[sl g0 n, sl g1 n, sl g2 n, sl g3 n, sl g4 n]] w fun e w' => e = .returned (.bool true) ∧ Below w.heap.size w w' := by
  have HB : Hid (Below w.heap.size w (w.alloc (.cells #[sl g0 n, sl g1 n, sl g2 n, sl g3 n, sl g4 n] 49))) := (Below.refl _ _).alloc (Nat.le_refl _) _
  have HS := hide (hs.below HB.out)
  have HR := hide (hr.below HB.out)
  have hok : NOk K N := ⟨hs.ms.nodup, hs.ms.ids⟩
  have HP := hide (FK_perm hok hld hin)
  have HNL := hide hnl
  have HOK := hide hok
  have HP8 := hide hs.ms.p8
  clear hs hr hld hin hnl hok
  have H0 : Hid (FK K N l 0 = []) := rfl
  go_enter Try.func19, Try.ntmps19
  go_wp2_with fail
  go_loop [5, 6, 7, 8] (fun c q u i => ∃ k : Nat, k ≤ n ∧ i = .int .i64 k ∧ ∃ cc qq uu : Nat, c = .int .i64 cc ∧ q = .int .i64 qq ∧ u = .int .i64 uu ∧ cc ≤ k ∧ qq ≤ k ∧ uu ≤ k ∧ Hid (cc = (FK K N l k).length ∧ qq = cntQ (FK K N l k) ∧ uu = cntU (FK K N l k))) (fun _ _ _ i => n - (intOf i).toNat)
  case atStart => exact ⟨0, Nat.zero_le _, rfl, 0, 0, 0, rfl, rfl, rfl, Nat.le_refl _, Nat.le_refl _, Nat.le_refl _, by rw [H0.out]; exact ⟨rfl, rfl, rfl⟩⟩
  case round =>
    obtain ⟨k, hk, rfl, cc, qq, uu, rfl, rfl, rfl, hc, hq, hu, HF⟩ := hrel
    by_cases hlt : k < n
    · have hkl : k < l.length := by have := HNL.out; omega
      have hlg : l.getD k ⟨#[]⟩ = l[k] := by simp [List.getD, hkl]
      have r0 := (HR.out.b0.cell k).trans (HR.out.v0 k hlt)
      have r3 := (HR.out.b3.cell k).trans (HR.out.v3 k hlt)
      have r2 := (HR.out.b2.cell k).trans (HR.out.v2 k hlt)
      simp only [hlg] at r0 r2 r3
      have hsucc := FK_succ (K := K) (N := N) hkl
      have hsub : ∀ x, nodeFor K N l[k] = some x → x.p < 8 := fun x e => HP8.out x (nodeFor_mem e).1
      generalize nodeFor K N l[k] = o at *
      clear hlg
      cases o with
      | none =>
        have HF' : Hid (cc = (FK K N l (k + 1)).length ∧ qq = cntQ (FK K N l (k + 1)) ∧ uu = cntU (FK K N l (k + 1))) := hide (by rw [hsucc]; simpa using HF.out)
        simp only [exV, Option.isSome] at r0
        clear hsucc hsub r2 r3 HF
        go_wp2_with fail
        go_round
        case rel => exact ⟨k + 1, by omega, by go_num, cc, qq, uu, rfl, rfl, rfl, by omega, by omega, by omega, HF'.out⟩
        case measure => simp [intOf]; omega
      | some x =>
        have hx8 := hsub x rfl
        have hcn := cnt_snoc (FK K N l k) x
        simp only [Option.toList] at hsucc
        rw [← hsucc] at hcn
        have HLN : Hid ((FK K N l (k + 1)).length = (FK K N l k).length + 1) := hide (by rw [hsucc]; simp)
        have HCN := hide hcn
        simp only [exV, ptN, quV, Option.isSome] at r0 r2 r3
        clear hsucc hsub hcn
        obtain ⟨xb, xp, xq⟩ := x
        simp only at r0 r2 r3 hx8 HCN
        have ha4 : bits BinOp.and IntKind.i64 (xp : Int) 4 = ((xp &&& 4 : Nat) : Int) := and_i64 xp 4 hx8 (by decide)
        cases xq with
        | false =>
          have HF' : Hid (cc + 1 = (FK K N l (k + 1)).length ∧ qq = cntQ (FK K N l (k + 1)) ∧ uu = cntU (FK K N l (k + 1))) := hide (by
            obtain ⟨e1, e2, e3⟩ := HF.out
            rw [HLN.out, HCN.out.1, HCN.out.2]
            simp [e1, e2, e3])
          clear HF HCN
          go_wp2_with fail
          go_round
          case rel => exact ⟨k + 1, by omega, by go_num, cc + 1, qq, uu, by go_num, rfl, rfl, by omega, by omega, by omega, HF'.out⟩
          case measure => simp [intOf]; omega
        | true =>
          by_cases h4 : xp &&& 4 = 0
          · have z4 : (((xp &&& 4 : Nat) : Int) == 0) = true := by rw [h4]; rfl
            have HF' : Hid (cc + 1 = (FK K N l (k + 1)).length ∧ qq + 1 = cntQ (FK K N l (k + 1)) ∧ uu + 1 = cntU (FK K N l (k + 1))) := hide (by
              obtain ⟨e1, e2, e3⟩ := HF.out
              rw [HLN.out, HCN.out.1, HCN.out.2]
              simp [e1, e2, e3, h4])
            clear HF HCN h4
            go_wp2_with fail
            go_round
            case rel => exact ⟨k + 1, by omega, by go_num, cc + 1, qq + 1, uu + 1, by go_num, by go_num, by go_num, by omega, by omega, by omega, HF'.out⟩
            case measure => simp [intOf]; omega
          · have z4 : (((xp &&& 4 : Nat) : Int) == 0) = false := by rw [beq_eq_false_iff_ne]; omega
            have HF' : Hid (cc + 1 = (FK K N l (k + 1)).length ∧ qq + 1 = cntQ (FK K N l (k + 1)) ∧ uu = cntU (FK K N l (k + 1))) := hide (by
              obtain ⟨e1, e2, e3⟩ := HF.out
              rw [HLN.out, HCN.out.1, HCN.out.2]
              simp [e1, e2, e3, h4])
            clear HF HCN h4
            go_wp2_with fail
            go_round
            case rel => exact ⟨k + 1, by omega, by go_num, cc + 1, qq + 1, uu, by go_num, by go_num, rfl, by omega, by omega, by omega, HF'.out⟩
            case measure => simp [intOf]; omega
    · have hkn : k = n := by omega
      have hperm := HP.out
      have hfk := FK_all (K := K) (N := N) (l := l) (k := k) (by have := HNL.out; omega)
      obtain ⟨e1, e2, e3⟩ := HF.out
      rw [hfk] at e1 e2 e3
      have c1 : cc = N.length := e1.trans hperm.length_eq
      have c2 : qq = Q.length := by
        rw [e2, HS.out.qperm.length_eq]
        unfold cntQ qd
        rw [List.length_map]
        exact (hperm.filter _).length_eq
      have c3 : uu = unmk N := by
        rw [e3]
        unfold cntU unmk
        exact (hperm.filter _).length_eq
      clear HF hperm hfk e1 e2 e3
      subst c1
      subst c2
      subst c3
      obtain ⟨-, q1, q2, q3, -, -⟩ := HS.out.ms.cells
      obtain ⟨qa, qc, hqv⟩ : ∃ qa qc, qv = .slice qa Q.length qc := by
        rcases HS.out.ms.qown.2 with ⟨hv, h0⟩ | ⟨g, cap, cur, hv, _⟩
        · exact ⟨none, 0, by rw [hv, h0]⟩
        · exact ⟨_, cap, hv⟩
      subst hqv
      have t1 : (((N.length : Nat) : Int) != ((N.length : Nat) : Int)) = false := by simp
      have t2 : (((unmk N : Nat) : Int) != ((unmk N : Nat) : Int)) = false := by simp
      have t3 : (((Q.length : Nat) : Int) != ((Q.length : Nat) : Int)) = false := by simp
      go_wp2_with fail
      refine (nodeCount_any wb mb K N _ q1 HS.out.ms.map).mono ?_
      rintro e w1 ⟨rfl, rfl⟩
      go_wp2_with fail
      refine (unmarked_any wb _ _ q3).mono ?_
      rintro e w1 ⟨rfl, rfl⟩
      go_wp2_with fail
      refine (queue_any wb _ _ q2).mono ?_
      rintro e w1 ⟨rfl, rfl⟩
      go_wp2_with fail
      obtain ⟨WA, hWA⟩ : ∃ WA, WA = w.alloc (.cells #[sl g0 n, sl g1 n, sl g2 n, sl g3 n, sl g4 n] 49) := ⟨_, rfl⟩
      have HBK : Hid (Blk WA w.heap.size 49 #[sl g0 n, sl g1 n, sl g2 n, sl g3 n, sl g4 n]) := hide (by rw [hWA]; exact Blk.new w 49 _)
      rw [← hWA] at HB HS HR
      rw [← hWA]
      clear hWA q1 q2 q3 t1 t2 t3
      go_loopw [10] (fun i wr => ∃ k : Nat, k ≤ n ∧ i = .int .i64 k ∧ Hid (Below WA.heap.size WA wr)) (fun i _ => n - (intOf i).toNat)
      case atStart => exact ⟨0, Nat.zero_le _, rfl, Below.refl _ _⟩
      case round =>
        obtain ⟨k2, hk2, rfl, HBW⟩ := hrel
        have hbk := HBK.out.below HBW.out HBK.out.lt
        have d0 : wr.cell? ⟨w.heap.size, 0, none⟩ = some (sl g0 n) := hbk.cell 0
        have d1 : wr.cell? ⟨w.heap.size, 1, none⟩ = some (sl g1 n) := hbk.cell 1
        have d3 : wr.cell? ⟨w.heap.size, 3, none⟩ = some (sl g3 n) := hbk.cell 3
        clear hbk
        by_cases hlt2 : k2 < n
        · have hkl : k2 < l.length := by have := HNL.out; omega
          have hlg : l.getD k2 ⟨#[]⟩ = l[k2] := by simp [List.getD, hkl]
          have hr := HR.out.below HBW.out
          have r0 := (hr.b0.cell k2).trans (hr.v0 k2 hlt2)
          have r1 := (hr.b1.cell k2).trans (hr.v1 k2 hlt2)
          have r3 := (hr.b3.cell k2).trans (hr.v3 k2 hlt2)
          simp only [hlg] at r0 r1 r3
          have hsub : ∀ x, nodeFor K N l[k2] = some x → x ∈ N := fun x e => (nodeFor_mem e).1
          have hxo : nodeFor K N (l.getD k2 ⟨#[]⟩) = nodeFor K N l[k2] := by rw [hlg]
          generalize nodeFor K N l[k2] = o at *
          have HXO := hide hxo
          clear hlg hr hxo
          cases o with
          | none =>
            simp only [exV, Option.isSome] at r0
            clear hsub r1 r3
            go_wp2_with fail
            go_roundw
            case rel => exact ⟨k2 + 1, by omega, by go_num, HBW.out⟩
            case measure => simp [intOf]; omega
          | some x =>
            have hxN := hsub x rfl
            simp only [exV, ndV, quV, Option.isSome] at r0 r1 r3
            cases hxq : x.q with
            | false =>
              rw [hxq] at r3
              clear hsub r1
              go_wp2_with fail
              go_roundw
              case rel => exact ⟨k2 + 1, by omega, by go_num, HBW.out⟩
              case measure => simp [intOf]; omega
            | true =>
              rw [hxq] at r3
              have HXQ : Hid (x.b ∈ Q) := hide (HS.out.qperm.mem_iff.2 (qd_mem.2 ⟨x, hxN, rfl, hxq⟩))
              have hQl : 0 < Q.length := by
                have := HXQ.out
                cases Q with
                | nil => simp at this
                | cons a r => simp
              have hQ9 : Q.length ≤ 900000 := by
                have h1 := HS.out.qperm.length_eq
                have h2 : (qd N).length ≤ N.length := by unfold qd; rw [List.length_map]; exact List.length_filter_le _ _
                have h3 := HP.out.length_eq
                have h4 : (l.filterMap (nodeFor K N)).length ≤ l.length := List.length_filterMap_le _ _
                have := HNL.out
                omega
              obtain ⟨gq, capq, hform⟩ := HS.out.ms.qown.form hQl
              simp only [Value.slice.injEq] at hform
              obtain ⟨hqa, -, -⟩ := hform
              subst hqa
              have HQO := hide HS.out.ms.qown
              have HNX : Hid (Blk WA x.b 92 _) := hide (HS.out.ms.nd x hxN)
              have HNQ : Hid (∀ b ∈ Q, ∃ A, Blk WA b 92 A) := hide fun b hb => by
                obtain ⟨y, hy, rfl⟩ := HS.out.ms.qin b hb
                exact ⟨_, HS.out.ms.nd y hy⟩
              have HR1 : Hid (WA.cell? ⟨g1, k2, none⟩ = some (ptr x.b)) := hide (by rw [HR.out.b1.cell, HR.out.v1 k2 hlt2, HXO.out]; rfl)
              generalize x.b = xb at *
              clear hsub hxq hxN
              go_wp2_with fail
              clear r0 r3
              go_loopw [11, 12] (fun f i wr => ∃ j : Nat, j ≤ Q.length ∧ i = .int .i64 j ∧ ∃ fb : Bool, f = .bool fb ∧ Hid (Below WA.heap.size WA wr) ∧ Hid (fb = true ↔ xb ∈ Q.take j)) (fun _ i _ => Q.length - (intOf i).toNat)
              case atStart => exact ⟨0, Nat.zero_le _, rfl, false, rfl, HBW.out, hide (by simp)⟩
              case round =>
                obtain ⟨j, hj, rfl, fb, rfl, HBI, HFB⟩ := hrel
                by_cases hlj : j < Q.length
                · have hbk := HBK.out.below HBI.out HBK.out.lt
                  have d1' : wr.cell? ⟨w.heap.size, 1, none⟩ = some (sl g1 n) := hbk.cell 1
                  have cq := cell_below HBI.out (HQO.out.cell j hlj)
                  have hr := HR.out.below HBI.out
                  have r1' : wr.cell? ⟨g1, k2, none⟩ = some (ptr xb) := cell_below HBI.out (HR1.out)
                  have HTK : Hid (Q.take (j + 1) = Q.take j ++ [Q[j]]) := hide (List.take_succ_eq_append_getElem hlj)
                  clear hbk hr
                  have hpe : ∀ m, (binOp .eql 62 (ptr Q[j]) (ptr xb)).run Try.prog (wr.drewN m) = .ok (.bool (decide (Q[j] = xb))) (wr.drewN m) := fun m => by
                    obtain ⟨A, hA⟩ := HNQ.out _ (List.getElem_mem hlj)
                    have hb := below_drewN HBI.out m
                    exact eqlPtr _ _ _ (hA.below hb hA.lt) (HNX.out.below hb HNX.out.lt)
                  by_cases he : Q[j] = xb
                  · have HFT : Hid (xb ∈ Q.take (j + 1)) := hide (by rw [HTK.out, he]; simp)
                    rw [he] at cq hpe
                    simp only [decide_true] at hpe
                    clear he
                    go_wp2_with fail
                    go_quiet (fail)
                    go_wp2_with fail
                    go_roundw
                    case rel => exact ⟨j + 1, by omega, by go_num, true, rfl, below_drewN HBI.out _, hide ⟨fun _ => HFT.out, fun _ => rfl⟩⟩
                    case measure => simp [intOf]; omega
                  · have HFF : Hid (fb = true ↔ xb ∈ Q.take (j + 1)) := hide (by
                      rw [HTK.out, HFB.out, List.mem_append]
                      constructor
                      · exact .inl
                      · rintro (h | h)
                        · exact h
                        · simp at h; exact absurd h.symm he)
                    rw [decide_eq_false he] at hpe
                    generalize Q[j] = qj at *
                    go_wp2_with fail
                    go_quiet (fail)
                    go_wp2_with fail
                    go_roundw
                    case rel => exact ⟨j + 1, by omega, by go_num, fb, rfl, below_drewN HBI.out _, HFF.out⟩
                    case measure => simp [intOf]; omega
                · have hfb : fb = true := HFB.out.2 (by rw [List.take_of_length_le (by omega)]; exact HXQ.out)
                  subst hfb
                  go_wp2_with fail
                  go_roundw
                  case rel => exact ⟨k2 + 1, by omega, by go_num, HBI.out⟩
                  case measure => simp [intOf]; omega
        · go_wp2_with fail
          go_ret
          exact ⟨rfl, after HB.out HBW.out⟩
end Go.Proofs.Qxb6605835a
