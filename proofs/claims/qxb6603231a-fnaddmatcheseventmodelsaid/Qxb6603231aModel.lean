import Derived.Test.Qxb6603231aMw
import Derived.Deep.CutBlock
import Derived.Deep.CutRange
namespace Go.Proofs.Qxb6603231a
open Go Go.RowKit
attribute [local go_sem ↓] to_ld28 to_ld30 to_st30 to_al30 to_eq28

theorem results_tmp4 {fn : Func} {t1 t2 t3 t4 : Tmp} (h : fn.results = #[.tmp t1, .tmp t2, .tmp t3, .tmp t4]) (tmps : Array Value) (P : Program) (w : World) :
    (results fn tmps).run P w = .ok (.tuple #[tmps.getD t1 undef, tmps.getD t2 undef, tmps.getD t3 undef, tmps.getD t4 undef]) w := by
  simp [results, h]
set_option maxRecDepth 100000 in
set_option maxHeartbeats 4000000 in
/-- addModel (function 26). -/
theorem model26 (b n c : Nat) (a2 : Option Addr) (ha : n = 0 ∨ a2 = some ⟨b, 0, none⟩) (S : Nat → Step) (w : World) (hs : ∀ i, i < n → Sv (S i)) (hl : Lies w b 0 n S) (hn : n ≤ 4096) (hb : 0 < n → b < w.heap.size) (hwt : ∀ i, i < n → -70368744177664 ≤ (S i).wt ∧ (S i).wt ≤ 70368744177664 ∧ -70368744177664 ≤ (S i).tot ∧ (S i).tot ≤ 70368744177664) :
    Calls Try.prog 26 #[.slice a2 n c] w fun e w' => e = .returned (.tuple #[.slice (some ⟨w.heap.size, 0, none⟩) n n, .slice (some ⟨w.heap.size + 3, 0, none⟩) n n, .slice (some ⟨w.heap.size + 4, 0, none⟩) n n, .slice (some ⟨w.heap.size + 5, 0, none⟩) n n]) ∧ MW S n w.heap.size w n w' := by
  obtain ⟨z4, hz4, mk4'⟩ := make_nn 34 4 (.bool false) 1 Try.underlying34 info4 (by omega) n hn
  obtain ⟨z2, hz2, mk2'⟩ := make_nn 35 2 (.int .i64 0) 8 Try.underlying35 info2' (by omega) n hn
  obtain ⟨z3, hz3, mk3'⟩ := make_nn 59 3 (.int .i64 0) 8 Try.underlying59 info3' (by omega) n hn
  have HS := hide hs
  have HL := hide hl
  have HWT := hide hwt
  have HA := hide ha
  have HZ := hide (And.intro hz4 (And.intro hz2 hz3))
  clear ha hs hl hwt hz4 hz2 hz3
  go_enter Try.func26, Try.ntmps26
  go_wp2
  simp only [Nat.add_assoc, Nat.reduceAdd]
  have H0 : Hid (MW S n w.heap.size w 0 ((((((w.alloc (.cells z4 4)).alloc (.cells z4 4)).alloc (.cells z4 4)).alloc (.cells z4 4)).alloc (.cells z2 2)).alloc (.cells z3 3))) := by
    have top : ∀ (u : World) (o : Obj) (x : Nat), x = u.heap.size → (u.alloc o).heap[x]? = some o := fun u o x hx => by subst hx; exact (MapKept.heap_alloc u o).1
    have up : ∀ {u : World} {o o' : Obj} {x : Nat}, u.heap[x]? = some o → (u.alloc o').heap[x]? = some o := fun h => heap_old h
    have z := HZ.out
    refine ⟨?_, by simp, RowV.nil (up (up (up (up (up (top _ _ _ rfl)))))) z.1, RowV.nil (up (up (up (up (top _ _ _ (by simp)))))) z.1, RowV.nil (up (up (up (top _ _ _ (by simp))))) z.1, RowV.nil (up (up (top _ _ _ (by simp)))) z.1, RowV.nil (up (top _ _ _ (by simp))) z.2.1, RowV.nil (top _ _ _ (by simp)) z.2.2⟩
    exact ((((((Below.refl w.heap.size w).alloc (Nat.le_refl _) _).alloc (by simp) _).alloc (by simp; omega) _).alloc (by simp; omega) _).alloc (by simp; omega) _).alloc (by simp; omega) _
  generalize ((((((w.alloc (.cells z4 4)).alloc (.cells z4 4)).alloc (.cells z4 4)).alloc (.cells z4 4)).alloc (.cells z2 2)).alloc (.cells z3 3)) = w2 at *
  obtain ⟨N, hN⟩ : ∃ N, N = w.heap.size := ⟨_, rfl⟩
  rw [← hN] at H0 hb ⊢
  have HN := hide hN
  have HBs := hide hb
  obtain ⟨z30, hal, hst⟩ := new30
  clear hb hN mk4' mk2' mk3' HZ
  go_loopg [13] n (fun g t13 wr => ∃ k : Nat, k ≤ n ∧ g = n - k ∧ t13 = .int .i64 (k : Int) ∧ Hid (MW S n N w k wr))
  case atStart => exact ⟨0, Nat.zero_le _, rfl, rfl, H0⟩
  case round =>
    clear H0
    obtain ⟨k, hk, hg, rfl, HM⟩ := hrel
    by_cases hlt : k < n
    · have hlt' : (k : Int) < (n : Int) := by omega
      obtain rfl : a2 = some ⟨b, 0, none⟩ := HA.out.resolve_left (by omega)
      have hb := HBs.out (by omega)
      have hsk := HS.out k hlt
      have lk := (HL.out.below HM.out.below hb).load hlt hsk
      rw [Nat.zero_add] at lk
      have sk := hst (S k) hsk
      have HI : Hid (InR S n N w k wr.heap.size (wr.alloc (stepO (S k)))) := ⟨HM.out.alloc _, HM.out.size, (MapKept.heap_alloc wr _).1⟩
      go_upto_block 2 with fail
      generalize wr.alloc (stepO (S k)) = w3 at *
      generalize wr.heap.size = p at *
      clear lk sk HM
      go_cut [15] (fun t15 wx => t15 = .bool ((hist S k).counted (S k)) ∧ Hid (InR S n N w k p wx))
      case first =>
        go_wp2_with fail
        go_loopg [15, 16] k (fun g t15 t16 wr => ∃ j : Nat, j ≤ k ∧ g = k - j ∧ t15 = .bool (!((hist S j).of (S k).att).cast (S k).mem (S k).br) ∧ t16 = .int .i64 (j : Int) ∧ Hid (InR S n N w k p wr))
        case atStart => exact ⟨0, Nat.zero_le _, rfl, rfl, rfl, HI⟩
        case round =>
          clear HI
          obtain ⟨j, hj, hg2, rfl, rfl, HJ⟩ := hrel
          by_cases hjt : j < k
          · have hjt' : (j : Int) < (k : Int) := by omega
            have hjn : (j : Int) < (n : Int) := by omega
            have hsj := HS.out j (by omega)
            have lj := (HL.out.below HJ.out.mw.below hb).load (show j < n by omega) hsj
            rw [Nat.zero_add] at lj
            have sj := hst (S j) hsj
            have HJ2 := hide (HJ.out.alloc (stepO (S j)))
            obtain ⟨k0, k1, k2, _, _, _⟩ := fields_of hsk HJ2.out.at_
            obtain ⟨j0, j1, j2, _, _, _⟩ := fields_of hsj (MapKept.heap_alloc wr (stepO (S j))).1
            have hstep := cast_step S j (S k).att (S k).mem (S k).br
            generalize ((hist S j).of (S k).att).cast (S k).mem (S k).br = B0 at hstep ⊢
            generalize hB1 : ((hist S (j + 1)).of (S k).att).cast (S k).mem (S k).br = B1 at hstep
            have HB1 := hide hB1
            clear hB1 hsk hsj
            go_upto_region 17 with fail
            clear lj sj hal hst
            generalize wr.alloc (stepO (S j)) = w4 at *
            generalize wr.heap.size = pj at *
            generalize (S j).att = a1 at *
            generalize (S j).mem = a2 at *
            generalize (S j).br = a3 at *
            generalize (S k).att = y1 at *
            generalize (S k).mem = y2 at *
            generalize (S k).br = y3 at *
            by_cases e1 : a1 = y1
            · subst e1
              by_cases e2 : a2 = y2
              · subst e2
                by_cases e3 : a3 = y3
                · subst e3
                  have hf : B1 = true := by rw [hstep]; simp
                  clear hstep
                  as_aux_lemma =>
                    go_wp2
                    go_roundg (k - (j + 1))
                    case measure => omega
                    case rel => exact ⟨j + 1, by omega, rfl, by rw [HB1.out, hf]; rfl, by go_num, HJ2⟩
                · have e3' : (a3 == y3) = false := by simp [e3]
                  have hf : B1 = B0 := by rw [hstep]; simp [e3]
                  clear hstep
                  as_aux_lemma =>
                    go_wp2
                    go_roundg (k - (j + 1))
                    case measure => omega
                    case rel => exact ⟨j + 1, by omega, rfl, by rw [HB1.out, hf], by go_num, HJ2⟩
              · have e2' : (a2 == y2) = false := by simp [e2]
                have hf : B1 = B0 := by rw [hstep]; simp [e2]
                clear hstep
                as_aux_lemma =>
                  go_wp2
                  go_roundg (k - (j + 1))
                  case measure => omega
                  case rel => exact ⟨j + 1, by omega, rfl, by rw [HB1.out, hf], by go_num, HJ2⟩
            · have e1' : (a1 == y1) = false := by simp [e1]
              have hf : B1 = B0 := by rw [hstep]; simp [e1]
              clear hstep
              as_aux_lemma =>
                go_wp2
                go_roundg (k - (j + 1))
                case measure => omega
                case rel => exact ⟨j + 1, by omega, rfl, by rw [HB1.out, hf], by go_num, HJ2⟩
          · obtain rfl : j = k := by omega
            have hjt' : decide ((j : Int) < (j : Int)) = false := decide_eq_false (by omega)
            clear hsk
            as_aux_lemma =>
              go_wp2
              go_meet
              exact ⟨rfl, HJ⟩
      case rest =>
        obtain ⟨rfl, HI1⟩ := hcut
        clear HI
        go_upto_block 4 with fail
        go_cut [18] (fun t18 wx => t18 = .bool ((hist S k).added (S k)) ∧ Hid (InR S n N w k p wx))
        case first =>
          go_wp2_with fail
          go_loopg [18, 19] k (fun g t18 t19 wr => ∃ j : Nat, j ≤ k ∧ g = k - j ∧ t18 = .bool ((hist S k).counted (S k) && !((hist S j).of (S k).att).inn (S k).mem (S k).c) ∧ t19 = .int .i64 (j : Int) ∧ Hid (InR S n N w k p wr))
          case atStart => exact ⟨0, Nat.zero_le _, rfl, (congrArg Value.bool (Bool.and_true _)).symm, rfl, HI1⟩
          case round =>
            clear HI1
            obtain ⟨j, hj, hg2, rfl, rfl, HJ⟩ := hrel
            by_cases hjt : j < k
            · have hjt' : (j : Int) < (k : Int) := by omega
              have hjn : (j : Int) < (n : Int) := by omega
              have hsj := HS.out j (by omega)
              have lj := (HL.out.below HJ.out.mw.below hb).load (show j < n by omega) hsj
              rw [Nat.zero_add] at lj
              have sj := hst (S j) hsj
              have HJ2 := hide (HJ.out.alloc (stepO (S j)))
              have rc := HJ2.out.mw.c.cell hjt
              obtain ⟨k0, k1, _, k3, _, _⟩ := fields_of hsk HJ2.out.at_
              obtain ⟨j0, j1, _, j3, _, _⟩ := fields_of hsj (MapKept.heap_alloc wr (stepO (S j))).1
              have eq := fun w x y => eq28_is hsj.c hsk.c w x y
              have hstep := inn_step S j (S k).att (S k).mem (S k).c
              unfold fC at rc
              generalize ((hist S j).of (S k).att).inn (S k).mem (S k).c = B0 at hstep ⊢
              generalize hB1 : ((hist S (j + 1)).of (S k).att).inn (S k).mem (S k).c = B1 at hstep
              generalize (hist S j).counted (S j) = D at hstep rc
              generalize (hist S k).counted (S k) = C at *
              have HB1 := hide hB1
              clear hB1 hsk hsj
              go_upto_region 24 with fail
              clear lj sj hal hst
              generalize wr.alloc (stepO (S j)) = w4 at *
              generalize wr.heap.size = pj at *
              generalize (S j).att = a1 at *
              generalize (S j).mem = a2 at *
              generalize (S j).c = a3 at *
              generalize (S k).att = y1 at *
              generalize (S k).mem = y2 at *
              generalize (S k).c = y3 at *
              cases D with
              | false =>
                have hf : B1 = B0 := by rw [hstep]; simp
                clear hstep
                as_aux_lemma =>
                  go_wp2
                  go_roundg (k - (j + 1))
                  case measure => omega
                  case rel => exact ⟨j + 1, by omega, rfl, by rw [HB1.out, hf], by go_num, HJ2⟩
              | true =>
                by_cases e1 : a1 = y1
                · subst e1
                  by_cases e2 : a2 = y2
                  · subst e2
                    by_cases e3 : a3 = y3
                    · have hf : B1 = true := by rw [hstep]; simp [e3]
                      rw [decide_eq_true e3] at eq
                      clear hstep e3
                      as_aux_lemma =>
                        go_wp2
                        go_roundg (k - (j + 1))
                        case measure => omega
                        case rel => exact ⟨j + 1, by omega, rfl, by rw [HB1.out, hf]; simp, by go_num, HJ2⟩
                    · have hf : B1 = B0 := by rw [hstep]; simp [e3]
                      rw [decide_eq_false e3] at eq
                      clear hstep e3
                      as_aux_lemma =>
                        go_wp2
                        go_roundg (k - (j + 1))
                        case measure => omega
                        case rel => exact ⟨j + 1, by omega, rfl, by rw [HB1.out, hf], by go_num, HJ2⟩
                  · have e2' : (a2 == y2) = false := by simp [e2]
                    have hf : B1 = B0 := by rw [hstep]; simp [e2]
                    clear hstep
                    as_aux_lemma =>
                      go_wp2
                      go_roundg (k - (j + 1))
                      case measure => omega
                      case rel => exact ⟨j + 1, by omega, rfl, by rw [HB1.out, hf], by go_num, HJ2⟩
                · have e1' : (a1 == y1) = false := by simp [e1]
                  have hf : B1 = B0 := by rw [hstep]; simp [e1]
                  clear hstep
                  as_aux_lemma =>
                    go_wp2
                    go_roundg (k - (j + 1))
                    case measure => omega
                    case rel => exact ⟨j + 1, by omega, rfl, by rw [HB1.out, hf], by go_num, HJ2⟩
            · obtain rfl : j = k := by omega
              have hjt' : decide ((j : Int) < (j : Int)) = false := decide_eq_false (by omega)
              clear hsk
              as_aux_lemma =>
                go_wp2
                go_meet
                exact ⟨rfl, HJ⟩
        case rest =>
          obtain ⟨rfl, HI2⟩ := hcut
          clear HI1
          obtain ⟨k0, _, _, k3, k35, k36⟩ := fields_of hsk HI2.out.at_
          generalize hAd : (hist S k).added (S k) = aB at *
          have HAd := hide hAd
          clear hAd
          obtain ⟨x0, hx0⟩ : ∃ x : Int, x = if aB then (S k).wt else 0 := ⟨_, rfl⟩
          have HX0 := hide hx0
          clear hx0
          go_upto_if 114 with fail
          go_cut [21] (fun t21 wx => t21 = .int .i64 x0 ∧ wx = wc)
          case first =>
            clear hsk k0 k3 k36
            cases aB with
            | false =>
              as_aux_lemma =>
                go_wp2
                go_meet
                exact ⟨by rw [HX0.out]; rfl, rfl⟩
            | true =>
              as_aux_lemma =>
                go_wp2
                go_meet
                exact ⟨by rw [HX0.out]; rfl, rfl⟩
          case rest =>
            obtain ⟨rfl, rfl⟩ := hcut
            clear k0 k3 k35 k36
            go_upto_block 6 with fail
            go_cut [21, 22, 23, 24] (fun t21 t22 t23 t24 wx => t21 = .int .i64 ((hist S k).weigh (S k)) ∧ t22 = .bool ((hist S k).q (S k).att).isSome ∧ t23 = .bool (((hist S k).of (S k).att).wt (S k).c).isSome ∧ t24 = .int .i64 ((((hist S k).of (S k).att).kinds : Nat) : Int) ∧ Hid (InR S n N w k p wx))
            case first =>
              go_wp2_with fail
              go_loopg [21, 22, 23, 24, 25] k (fun g t21 t22 t23 t24 t25 wr => ∃ j : Nat, j ≤ k ∧ g = k - j ∧ t21 = .int .i64 (x0 + (((hist S j).of (S k).att).wt (S k).c).getD 0) ∧ t22 = .bool ((hist S j).q (S k).att).isSome ∧ t23 = .bool (((hist S j).of (S k).att).wt (S k).c).isSome ∧ t24 = .int .i64 ((((hist S j).of (S k).att).kinds : Nat) : Int) ∧ t25 = .int .i64 (j : Int) ∧ Hid (InR S n N w k p wr))
              case atStart => exact ⟨0, Nat.zero_le _, rfl, (congrArg (Value.int .i64) (Int.add_zero _)).symm, rfl, rfl, rfl, rfl, HI2⟩
              case round =>
                clear HI2
                obtain ⟨j, hj, hg2, rfl, rfl, rfl, rfl, rfl, HJ⟩ := hrel
                by_cases hjt : j < k
                · have hjt' : (j : Int) < (k : Int) := by omega
                  have hjn : (j : Int) < (n : Int) := by omega
                  have hsj := HS.out j (by omega)
                  have lj := (HL.out.below HJ.out.mw.below hb).load (show j < n by omega) hsj
                  rw [Nat.zero_add] at lj
                  have sj := hst (S j) hsj
                  have HJ2 := hide (HJ.out.alloc (stepO (S j)))
                  have ra := HJ2.out.mw.a.cell hjt
                  have rf := HJ2.out.mw.f.cell hjt
                  have rm := HJ2.out.mw.m.cell hjt
                  obtain ⟨k0, _, _, k3, _, _⟩ := fields_of hsk HJ2.out.at_
                  obtain ⟨j0, _, _, j3, j35, _⟩ := fields_of hsj (MapKept.heap_alloc wr (stepO (S j))).1
                  have eq := fun w x y => eq28_is hsj.c hsk.c w x y
                  have b1 := wt_bound S j (fun i hi => ⟨(HWT.out i (by omega)).1, (HWT.out i (by omega)).2.1⟩) (S k).att (S k).c
                  have b2 := HWT.out j (by omega)
                  have b3 := HWT.out k (by omega)
                  have b4 := kinds_bound S j (S k).att
                  have hWs := wt_step S j (S k).att (S k).c
                  have hKs := kinds_step S j (S k).att
                  have hQs := q_step S j (S k).att
                  have hG0 : (((hist S (j + 1)).of (S k).att).wt (S k).c).getD 0 = if (hist S j).added (S j) && decide ((S j).att = (S k).att) && decide ((S j).c = (S k).c) then (((hist S j).of (S k).att).wt (S k).c).getD 0 + (S j).wt else (((hist S j).of (S k).att).wt (S k).c).getD 0 := by
                    rw [hWs]; split <;> rfl
                  have hP0 : (((hist S (j + 1)).of (S k).att).wt (S k).c).isSome = ((((hist S j).of (S k).att).wt (S k).c).isSome || ((hist S j).added (S j) && decide ((S j).att = (S k).att) && decide ((S j).c = (S k).c))) := by
                    rw [hWs]; split
                    · rename_i h; rw [h]; simp
                    · rename_i h; rw [Bool.eq_false_iff.2 h]; simp
                  have hQ0 : ((hist S (j + 1)).q (S k).att).isSome = (((hist S j).q (S k).att).isSome || ((hist S j).made (S j) && decide ((S j).att = (S k).att))) := by
                    rw [hQs]; split
                    · rename_i h; rw [h]; simp
                    · rename_i h; rw [Bool.eq_false_iff.2 h]; simp
                  clear hWs hQs
                  unfold fA at ra
                  unfold fF at rf
                  unfold fM at rm
                  generalize (((hist S j).of (S k).att).wt (S k).c).getD 0 = G0 at hG0 b1 ⊢
                  generalize (((hist S j).of (S k).att).wt (S k).c).isSome = P0 at hP0 ⊢
                  generalize ((hist S j).q (S k).att).isSome = Q0 at hQ0 ⊢
                  generalize ((hist S j).of (S k).att).kinds = K0 at hKs b4 ⊢
                  generalize hG1 : (((hist S (j + 1)).of (S k).att).wt (S k).c).getD 0 = G1 at hG0
                  generalize hP1 : (((hist S (j + 1)).of (S k).att).wt (S k).c).isSome = P1 at hP0
                  generalize hQ1 : ((hist S (j + 1)).q (S k).att).isSome = Q1 at hQ0
                  generalize hK1 : ((hist S (j + 1)).of (S k).att).kinds = K1 at hKs
                  generalize (hist S j).added (S j) = D1 at *
                  generalize (hist S j).fresh (S j) = D2 at *
                  generalize (hist S j).made (S j) = D3 at *
                  have HG1 := hide hG1
                  have HP1 := hide hP1
                  have HQ1 := hide hQ1
                  have HK1 := hide hK1
                  have b5 : -70368744177664 ≤ x0 ∧ x0 ≤ 70368744177664 := by
                    rw [HX0.out]
                    cases aB with
                    | false => exact ⟨by simp, by simp⟩
                    | true => exact ⟨b3.1, b3.2.1⟩
                  clear hG1 hP1 hQ1 hK1 hsk hsj b3
                  go_upto_region 36 with fail
                  clear lj sj hal hst
                  generalize wr.alloc (stepO (S j)) = w4 at *
                  generalize wr.heap.size = pj at *
                  generalize (S j).att = a1 at *
                  generalize (S j).c = a3 at *
                  generalize (S j).wt = wj at *
                  generalize (S k).att = y1 at *
                  generalize (S k).c = y3 at *
                  by_cases e1 : a1 = y1
                  · subst e1
                    by_cases e3 : a3 = y3
                    · rw [decide_eq_true e3] at eq
                      rw [decide_eq_true e3] at hG0 hP0
                      clear e3
                      simp only [decide_true, Bool.and_true] at hG0 hP0 hQ0 hKs
                      cases D1 with
                      | false =>
                        cases D2 with
                        | false =>
                          cases D3 with
                          | false =>
                            have hG : G1 = G0 := by rw [hG0]; rfl
                            have hP : P1 = P0 := by rw [hP0]; simp
                            have hQ : Q1 = Q0 := by rw [hQ0]; simp
                            have hK : K1 = K0 := by rw [hKs]; rfl
                            clear hG0 hP0 hQ0 hKs
                            as_aux_lemma =>
                              go_wp2
                              go_roundg (k - (j + 1))
                              case measure => omega
                              case rel => exact ⟨j + 1, by omega, rfl, by rw [HG1.out, hG], by rw [HQ1.out, hQ], by rw [HP1.out, hP], by rw [HK1.out, hK], by go_num, HJ2⟩
                          | true =>
                            have hG : G1 = G0 := by rw [hG0]; rfl
                            have hP : P1 = P0 := by rw [hP0]; simp
                            have hQ : Q1 = true := by rw [hQ0]; simp
                            have hK : K1 = K0 := by rw [hKs]; rfl
                            clear hG0 hP0 hQ0 hKs
                            as_aux_lemma =>
                              go_wp2
                              go_roundg (k - (j + 1))
                              case measure => omega
                              case rel => exact ⟨j + 1, by omega, rfl, by rw [HG1.out, hG], by rw [HQ1.out, hQ], by rw [HP1.out, hP], by rw [HK1.out, hK], by go_num, HJ2⟩
                        | true =>
                          cases D3 with
                          | false =>
                            have hG : G1 = G0 := by rw [hG0]; rfl
                            have hP : P1 = P0 := by rw [hP0]; simp
                            have hQ : Q1 = Q0 := by rw [hQ0]; simp
                            have hK : K1 = K0 + 1 := by rw [hKs]; rfl
                            clear hG0 hP0 hQ0 hKs
                            as_aux_lemma =>
                              go_wp2
                              go_roundg (k - (j + 1))
                              case measure => omega
                              case rel => exact ⟨j + 1, by omega, rfl, by rw [HG1.out, hG], by rw [HQ1.out, hQ], by rw [HP1.out, hP], by rw [HK1.out, hK]; go_num, by go_num, HJ2⟩
                          | true =>
                            have hG : G1 = G0 := by rw [hG0]; rfl
                            have hP : P1 = P0 := by rw [hP0]; simp
                            have hQ : Q1 = true := by rw [hQ0]; simp
                            have hK : K1 = K0 + 1 := by rw [hKs]; rfl
                            clear hG0 hP0 hQ0 hKs
                            as_aux_lemma =>
                              go_wp2
                              go_roundg (k - (j + 1))
                              case measure => omega
                              case rel => exact ⟨j + 1, by omega, rfl, by rw [HG1.out, hG], by rw [HQ1.out, hQ], by rw [HP1.out, hP], by rw [HK1.out, hK]; go_num, by go_num, HJ2⟩
                      | true =>
                        cases D2 with
                        | false =>
                          cases D3 with
                          | false =>
                            have hG : G1 = G0 + wj := by rw [hG0]; rfl
                            have hP : P1 = true := by rw [hP0]; simp
                            have hQ : Q1 = Q0 := by rw [hQ0]; simp
                            have hK : K1 = K0 := by rw [hKs]; rfl
                            clear hG0 hP0 hQ0 hKs
                            as_aux_lemma =>
                              go_wp2
                              go_roundg (k - (j + 1))
                              case measure => omega
                              case rel => exact ⟨j + 1, by omega, rfl, by rw [HG1.out, hG, Int.add_assoc], by rw [HQ1.out, hQ], by rw [HP1.out, hP], by rw [HK1.out, hK], by go_num, HJ2⟩
                          | true =>
                            have hG : G1 = G0 + wj := by rw [hG0]; rfl
                            have hP : P1 = true := by rw [hP0]; simp
                            have hQ : Q1 = true := by rw [hQ0]; simp
                            have hK : K1 = K0 := by rw [hKs]; rfl
                            clear hG0 hP0 hQ0 hKs
                            as_aux_lemma =>
                              go_wp2
                              go_roundg (k - (j + 1))
                              case measure => omega
                              case rel => exact ⟨j + 1, by omega, rfl, by rw [HG1.out, hG, Int.add_assoc], by rw [HQ1.out, hQ], by rw [HP1.out, hP], by rw [HK1.out, hK], by go_num, HJ2⟩
                        | true =>
                          cases D3 with
                          | false =>
                            have hG : G1 = G0 + wj := by rw [hG0]; rfl
                            have hP : P1 = true := by rw [hP0]; simp
                            have hQ : Q1 = Q0 := by rw [hQ0]; simp
                            have hK : K1 = K0 + 1 := by rw [hKs]; rfl
                            clear hG0 hP0 hQ0 hKs
                            as_aux_lemma =>
                              go_wp2
                              go_roundg (k - (j + 1))
                              case measure => omega
                              case rel => exact ⟨j + 1, by omega, rfl, by rw [HG1.out, hG, Int.add_assoc], by rw [HQ1.out, hQ], by rw [HP1.out, hP], by rw [HK1.out, hK]; go_num, by go_num, HJ2⟩
                          | true =>
                            have hG : G1 = G0 + wj := by rw [hG0]; rfl
                            have hP : P1 = true := by rw [hP0]; simp
                            have hQ : Q1 = true := by rw [hQ0]; simp
                            have hK : K1 = K0 + 1 := by rw [hKs]; rfl
                            clear hG0 hP0 hQ0 hKs
                            as_aux_lemma =>
                              go_wp2
                              go_roundg (k - (j + 1))
                              case measure => omega
                              case rel => exact ⟨j + 1, by omega, rfl, by rw [HG1.out, hG, Int.add_assoc], by rw [HQ1.out, hQ], by rw [HP1.out, hP], by rw [HK1.out, hK]; go_num, by go_num, HJ2⟩
                    · rw [decide_eq_false e3] at eq
                      rw [decide_eq_false e3] at hG0 hP0
                      clear e3
                      simp only [decide_true, Bool.and_true, Bool.and_false, Bool.or_false, Bool.false_eq_true, if_false] at hG0 hP0 hQ0 hKs
                      cases D1 with
                      | false =>
                        cases D2 with
                        | false =>
                          cases D3 with
                          | false =>
                            have hG : G1 = G0 := by rw [hG0]
                            have hP : P1 = P0 := by rw [hP0]
                            have hQ : Q1 = Q0 := by rw [hQ0]; simp
                            have hK : K1 = K0 := by rw [hKs]; rfl
                            clear hG0 hP0 hQ0 hKs
                            as_aux_lemma =>
                              go_wp2
                              go_roundg (k - (j + 1))
                              case measure => omega
                              case rel => exact ⟨j + 1, by omega, rfl, by rw [HG1.out, hG], by rw [HQ1.out, hQ], by rw [HP1.out, hP], by rw [HK1.out, hK], by go_num, HJ2⟩
                          | true =>
                            have hG : G1 = G0 := by rw [hG0]
                            have hP : P1 = P0 := by rw [hP0]
                            have hQ : Q1 = true := by rw [hQ0]; simp
                            have hK : K1 = K0 := by rw [hKs]; rfl
                            clear hG0 hP0 hQ0 hKs
                            as_aux_lemma =>
                              go_wp2
                              go_roundg (k - (j + 1))
                              case measure => omega
                              case rel => exact ⟨j + 1, by omega, rfl, by rw [HG1.out, hG], by rw [HQ1.out, hQ], by rw [HP1.out, hP], by rw [HK1.out, hK], by go_num, HJ2⟩
                        | true =>
                          cases D3 with
                          | false =>
                            have hG : G1 = G0 := by rw [hG0]
                            have hP : P1 = P0 := by rw [hP0]
                            have hQ : Q1 = Q0 := by rw [hQ0]; simp
                            have hK : K1 = K0 + 1 := by rw [hKs]; rfl
                            clear hG0 hP0 hQ0 hKs
                            as_aux_lemma =>
                              go_wp2
                              go_roundg (k - (j + 1))
                              case measure => omega
                              case rel => exact ⟨j + 1, by omega, rfl, by rw [HG1.out, hG], by rw [HQ1.out, hQ], by rw [HP1.out, hP], by rw [HK1.out, hK]; go_num, by go_num, HJ2⟩
                          | true =>
                            have hG : G1 = G0 := by rw [hG0]
                            have hP : P1 = P0 := by rw [hP0]
                            have hQ : Q1 = true := by rw [hQ0]; simp
                            have hK : K1 = K0 + 1 := by rw [hKs]; rfl
                            clear hG0 hP0 hQ0 hKs
                            as_aux_lemma =>
                              go_wp2
                              go_roundg (k - (j + 1))
                              case measure => omega
                              case rel => exact ⟨j + 1, by omega, rfl, by rw [HG1.out, hG], by rw [HQ1.out, hQ], by rw [HP1.out, hP], by rw [HK1.out, hK]; go_num, by go_num, HJ2⟩
                      | true =>
                        cases D2 with
                        | false =>
                          cases D3 with
                          | false =>
                            have hG : G1 = G0 := by rw [hG0]
                            have hP : P1 = P0 := by rw [hP0]
                            have hQ : Q1 = Q0 := by rw [hQ0]; simp
                            have hK : K1 = K0 := by rw [hKs]; rfl
                            clear hG0 hP0 hQ0 hKs
                            as_aux_lemma =>
                              go_wp2
                              go_roundg (k - (j + 1))
                              case measure => omega
                              case rel => exact ⟨j + 1, by omega, rfl, by rw [HG1.out, hG], by rw [HQ1.out, hQ], by rw [HP1.out, hP], by rw [HK1.out, hK], by go_num, HJ2⟩
                          | true =>
                            have hG : G1 = G0 := by rw [hG0]
                            have hP : P1 = P0 := by rw [hP0]
                            have hQ : Q1 = true := by rw [hQ0]; simp
                            have hK : K1 = K0 := by rw [hKs]; rfl
                            clear hG0 hP0 hQ0 hKs
                            as_aux_lemma =>
                              go_wp2
                              go_roundg (k - (j + 1))
                              case measure => omega
                              case rel => exact ⟨j + 1, by omega, rfl, by rw [HG1.out, hG], by rw [HQ1.out, hQ], by rw [HP1.out, hP], by rw [HK1.out, hK], by go_num, HJ2⟩
                        | true =>
                          cases D3 with
                          | false =>
                            have hG : G1 = G0 := by rw [hG0]
                            have hP : P1 = P0 := by rw [hP0]
                            have hQ : Q1 = Q0 := by rw [hQ0]; simp
                            have hK : K1 = K0 + 1 := by rw [hKs]; rfl
                            clear hG0 hP0 hQ0 hKs
                            as_aux_lemma =>
                              go_wp2
                              go_roundg (k - (j + 1))
                              case measure => omega
                              case rel => exact ⟨j + 1, by omega, rfl, by rw [HG1.out, hG], by rw [HQ1.out, hQ], by rw [HP1.out, hP], by rw [HK1.out, hK]; go_num, by go_num, HJ2⟩
                          | true =>
                            have hG : G1 = G0 := by rw [hG0]
                            have hP : P1 = P0 := by rw [hP0]
                            have hQ : Q1 = true := by rw [hQ0]; simp
                            have hK : K1 = K0 + 1 := by rw [hKs]; rfl
                            clear hG0 hP0 hQ0 hKs
                            as_aux_lemma =>
                              go_wp2
                              go_roundg (k - (j + 1))
                              case measure => omega
                              case rel => exact ⟨j + 1, by omega, rfl, by rw [HG1.out, hG], by rw [HQ1.out, hQ], by rw [HP1.out, hP], by rw [HK1.out, hK]; go_num, by go_num, HJ2⟩
                  · have e1' : (a1 == y1) = false := by simp [e1]
                    have hG : G1 = G0 := by rw [hG0]; simp [e1]
                    have hP : P1 = P0 := by rw [hP0]; simp [e1]
                    have hQ : Q1 = Q0 := by rw [hQ0]; simp [e1]
                    have hK : K1 = K0 := by rw [hKs]; simp [e1]
                    clear hG0 hP0 hQ0 hKs
                    as_aux_lemma =>
                      go_wp2
                      go_roundg (k - (j + 1))
                      case measure => omega
                      case rel => exact ⟨j + 1, by omega, rfl, by rw [HG1.out, hG], by rw [HQ1.out, hQ], by rw [HP1.out, hP], by rw [HK1.out, hK], by go_num, HJ2⟩
                · obtain rfl : j = k := by omega
                  have hjt' : decide ((j : Int) < (j : Int)) = false := decide_eq_false (by omega)
                  have hw : (hist S j).weigh (S j) = x0 + (((hist S j).of (S j).att).wt (S j).c).getD 0 := by
                    unfold ASt.weigh BA.sum
                    rw [HAd.out, HX0.out, Int.add_comm]
                  have HW := hide hw
                  clear hsk hw
                  as_aux_lemma =>
                    go_wp2
                    go_meet
                    exact ⟨by rw [HW.out], rfl, rfl, rfl, HJ⟩
            case rest =>
              obtain ⟨rfl, rfl, rfl, rfl, HI3⟩ := hcut
              clear HI2
              have kb := kinds_bound S k (S k).att
              have wb1 := wt_bound S k (fun i hi => ⟨(HWT.out i (by omega)).1, (HWT.out i (by omega)).2.1⟩) (S k).att (S k).c
              have wb2 := HWT.out k hlt
              have wb : -576460752303423488 ≤ (hist S k).weigh (S k) ∧ (hist S k).weigh (S k) ≤ 576460752303423488 := by
                unfold ASt.weigh BA.sum
                generalize (hist S k).added (S k) = aa
                cases aa <;> simp <;> omega
              have tb : -70368744177664 ≤ (S k).tot ∧ (S k).tot ≤ 70368744177664 := wb2.2.2
              clear wb1 wb2
              have hMade : (hist S k).made (S k) = (aB && !((hist S k).q (S k).att).isSome && decide ((S k).tot * 2 < (hist S k).weigh (S k) * 3)) := by
                unfold ASt.made; rw [HAd.out]
              have hFresh : (hist S k).fresh (S k) = (aB && !(((hist S k).of (S k).att).wt (S k).c).isSome) := by
                have := HAd.out
                unfold ASt.added at this
                unfold ASt.fresh BA.fresh; rw [this]
              have hKi : (hist S k).kindsAt (S k) = ((hist S k).of (S k).att).kinds + if (hist S k).fresh (S k) then 1 else 0 := rfl
              have k36 := (fields_of hsk HI3.out.at_).c36
              have hpN := HI3.out.hp
              obtain ⟨⟨v0, r0⟩, f0⟩ := HI3.out.mw.c.room hlt
              obtain ⟨⟨v1, r1⟩, f1⟩ := HI3.out.mw.a.room hlt
              obtain ⟨⟨v2, r2⟩, f2⟩ := HI3.out.mw.f.room hlt
              obtain ⟨⟨v3, r3⟩, f3⟩ := HI3.out.mw.m.room hlt
              obtain ⟨⟨v4, r4⟩, f4⟩ := HI3.out.mw.s.room hlt
              obtain ⟨⟨v5, r5⟩, f5⟩ := HI3.out.mw.k.room hlt
              generalize hwv : (hist S k).weigh (S k) = wv at *
              generalize heB : ((hist S k).q (S k).att).isSome = eB at *
              generalize hsB : (((hist S k).of (S k).att).wt (S k).c).isSome = sB at *
              generalize hK0 : ((hist S k).of (S k).att).kinds = K0 at *
              generalize hcB : (hist S k).counted (S k) = cB at *
              generalize htot : (S k).tot = tot at *
              obtain ⟨fB, hfB⟩ : ∃ x : Bool, x = (aB && !sB) := ⟨_, rfl⟩
              obtain ⟨K1, hK1⟩ : ∃ x : Nat, x = K0 + if fB then 1 else 0 := ⟨_, rfl⟩
              obtain ⟨mB, hmB⟩ : ∃ x : Bool, x = (aB && !eB && decide (tot * 2 < wv * 3)) := ⟨_, rfl⟩
              have e0 : (Value.bool cB) = fC S k := by unfold fC; rw [hcB]
              have e1 : (Value.bool aB) = fA S k := by unfold fA; rw [HAd.out]
              have e2 : (Value.bool fB) = fF S k := by unfold fF; rw [hFresh, hfB]
              have e3 : (Value.bool mB) = fM S k := by unfold fM; rw [hMade, hmB]
              have e4 : (Value.int .i64 wv) = fS S k := by unfold fS; rw [hwv]
              have e5 : (Value.int .i64 (K1 : Int)) = fK S k := by
                unfold fK; rw [hKi, hFresh, hK1, hfB]
              have HMW := hide (HI3.out.mw.next hlt e0 e1 e2 e3 e4 e5)
              have HfB := hide hfB
              have HK1 := hide hK1
              have HmB := hide hmB
              have tb' := hide tb
              have wb' := hide wb
              have kb' := hide kb
              have R5 := hide (And.intro r5 f5)
              have R4 := hide (And.intro r4 f4)
              have R3 := hide (And.intro r3 f3)
              have R2 := hide (And.intro r2 f2)
              have R1 := hide (And.intro r1 f1)
              have R0 := hide (And.intro r0 f0)
              have K36 := hide k36
              clear e0 e1 e2 e3 e4 e5 hfB hK1 hmB hMade hFresh hKi hwv heB hsB hK0 hcB htot HI3 hsk tb wb kb r0 r1 r2 r3 r4 r5 f0 f1 f2 f3 f4 f5 k36 hal hst
              go_upto_region 44 with fail
              go_cut [27] (fun t27 wx => t27 = .bool fB ∧ wx = wc)
              case first =>
                cases aB with
                | false =>
                  as_aux_lemma =>
                    go_wp2
                    go_meet
                    exact ⟨by rw [HfB.out]; rfl, rfl⟩
                | true =>
                  cases sB with
                  | false =>
                    as_aux_lemma =>
                      go_wp2
                      go_meet
                      exact ⟨by rw [HfB.out]; rfl, rfl⟩
                  | true =>
                    as_aux_lemma =>
                      go_wp2
                      go_meet
                      exact ⟨by rw [HfB.out]; rfl, rfl⟩
              case rest =>
                obtain ⟨rfl, rfl⟩ := hcut
                go_upto_if 161 with fail
                go_cut [24] (fun t24 wx => t24 = .int .i64 (K1 : Int) ∧ wx = wc)
                case first =>
                  have kb := kb'.out
                  cases fB with
                  | false =>
                    as_aux_lemma =>
                      go_wp2
                      go_meet
                      exact ⟨by rw [HK1.out]; rfl, rfl⟩
                  | true =>
                    as_aux_lemma =>
                      go_wp2
                      go_meet
                      exact ⟨by rw [HK1.out]; go_num, rfl⟩
                case rest =>
                  obtain ⟨rfl, rfl⟩ := hcut
                  obtain ⟨r0, f0⟩ := R0.out
                  obtain ⟨r1, f1⟩ := R1.out
                  obtain ⟨r2, f2⟩ := R2.out
                  obtain ⟨r3, f3⟩ := R3.out
                  obtain ⟨r4, f4⟩ := R4.out
                  obtain ⟨r5, f5⟩ := R5.out
                  have k36 := K36.out
                  have hp0 : p ≠ N := by omega
                  have hp1 : p ≠ N + 1 := by omega
                  have hp2 : p ≠ N + 2 := by omega
                  go_upto_region 50 with fail
                  go_cut [] (fun wx => wx = (((wc.setCell ⟨N, k, none⟩ (.bool cB)).setCell ⟨N + 1, k, none⟩ (.bool aB)).setCell ⟨N + 2, k, none⟩ (.bool fB)).setCell ⟨N + 3, k, none⟩ (.bool mB))
                  case first =>
                    have wb := wb'.out
                    have tb := tb'.out
                    cases aB with
                    | false =>
                      as_aux_lemma =>
                        go_wp2
                        go_meet
                        rw [HmB.out]; rfl
                    | true =>
                      cases eB with
                      | true =>
                        as_aux_lemma =>
                          go_wp2
                          go_meet
                          rw [HmB.out]; rfl
                      | false =>
                        as_aux_lemma =>
                          go_wp2
                          go_meet
                          rw [HmB.out]; rfl
                  case rest =>
                    subst hcut
                    as_aux_lemma =>
                      go_wp2
                      go_roundg (n - (k + 1))
                      case measure => omega
                      case rel => exact ⟨k + 1, by omega, rfl, by go_num, HMW⟩
    · obtain rfl : k = n := by omega
      have hlt' : decide ((k : Int) < (k : Int)) = false := decide_eq_false (by omega)
      as_aux_lemma =>
        go_wp2
        (try simp only [Exit.inBlock, Exit.then])
        refine bodyPost_ret (results_tmp4 rfl _ _ _) rfl ?_
        rw [← HN.out]
        exact ⟨rfl, HM.out⟩
end Go.Proofs.Qxb6603231a
