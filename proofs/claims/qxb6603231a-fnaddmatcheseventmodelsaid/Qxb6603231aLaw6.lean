import Derived.Test.Qxb6603231aModel
import Derived.Test.Qxb6603231aNew
import Derived.Deep.CutBlock
import Derived.Deep.CutRange
import Derived.Deep.RegionHeld3
namespace Go.Proofs.Qxb6603231a
open Go Go.RowKit
attribute [local go_sem ↓] to_ld28 to_st28 to_al28 to_ld30 to_st30 to_al30 to_ne28

theorem q_wf (S : Nat → Step) (k : Nat) (h : ∀ i, i < k → Sv (S i)) (b : Int) (d : List Int) (hq : (hist S k).q b = some d) : (Lit.int .i64 b).wf = true := by
  induction k with
  | zero => simp [hist, ASt.bare] at hq
  | succ k ih =>
    rw [q_step] at hq
    split at hq
    · rename_i hc
      simp only [Bool.and_eq_true, decide_eq_true_eq] at hc
      rw [← hc.2]; exact (h k (by omega)).att
    · exact ih (fun i hi => h i (by omega)) hq
theorem new_tal2 (m : Nat) (w : World) : Tal2 (w.heap.size + 3) m (w.heap.size + 2) w.heap.size (w.heap.size + 1) 0 (fun _ => none) ASt.bare [] (((w.alloc (.map #[] 0)).alloc (.map #[] 0)).alloc (.cells (talCells m w.heap.size (w.heap.size + 1)) 66)) := by
  refine ⟨by omega, by omega, by omega, by omega, by omega, by omega, by simp, ⟨.pointer none, ?_, Or.inl rfl⟩, ⟨.map [], ?_, fun _ => rfl⟩, (fun a b h => by cases h), (fun a a' b b' h => by cases h), ⟨noMap, 0, ?_, fun _ => rfl⟩, (fun a c h => by cases h), fun _ _ => rfl, fun p hp => absurd hp List.not_mem_nil⟩
  · have := (MapKept.heap_alloc ((w.alloc (.map #[] 0)).alloc (.map #[] 0)) (.cells (talCells m w.heap.size (w.heap.size + 1)) 66)).1
    rw [World.size_alloc, World.size_alloc] at this
    exact this
  · exact ((w.ownsMap_made Try.prog 2 ptrElem).alloc _).alloc _
  · refine MapV.of_empty 2 ?_
    have := (MapKept.heap_alloc (w.alloc (.map #[] 0)) (.map #[] 0)).1
    rw [World.size_alloc] at this
    exact heap_old this
theorem weigh_next (S : Nat → Step) (k : Nat) : (((hist S (k + 1)).of (S k).att).wt (S k).c).getD 0 = (hist S k).weigh (S k) := by
  rw [wt_step]
  unfold ASt.weigh BA.sum
  cases (hist S k).added (S k) <;> simp
theorem kinds_next (S : Nat → Step) (k : Nat) : ((hist S (k + 1)).of (S k).att).kinds = (hist S k).kindsAt (S k) := by
  rw [kinds_step]
  unfold ASt.kindsAt
  simp
theorem RowV.flag {n : Nat} {S : Nat → Step} {w : World} {x : Nat} (h : RowV n 4 (fM S) n w x) : FlagR n (fun j => (hist S j).made (S j)) w x := h

/-- copyAddSteps, whatever the slice. -/
theorem copyAll (b off n c : Nat) (a : Option Addr) (ha : n = 0 ∨ a = some ⟨b, off, none⟩) (hnil : a = none → n = 0 ∧ c = 0) (S : Nat → Step) (w : World) (hs : ∀ i, i < n → Sv (S i)) (hl : Lies w b off n S) (hn : n ≤ 4096) (hb : 0 < n → b < w.heap.size) :
    Calls Try.prog 10 #[.slice a n c] w fun e w' => ∃ a2 b2, e = .returned (.slice a2 n n) ∧ (n = 0 ∨ a2 = some ⟨b2, 0, none⟩) ∧ Lies w' b2 0 n S ∧ (0 < n → b2 < w'.heap.size) ∧ Below w.heap.size w w' := by
  cases a with
  | none =>
    obtain ⟨rfl, rfl⟩ := hnil rfl
    refine (copy10_nil w).mono ?_
    rintro e w' ⟨rfl, rfl⟩
    exact ⟨none, 0, rfl, Or.inl rfl, fun i hi => by omega, fun h => by omega, Below.refl _ _⟩
  | some x =>
    refine (copy10 b off n c x (ha.imp id Option.some.inj) S w hs hl hn hb).mono ?_
    rintro e w' ⟨rfl, cs, hcs, rfl⟩
    exact ⟨some ⟨w.heap.size, 0, none⟩, w.heap.size, rfl, Or.inr rfl, hcs.lies (MapKept.heap_alloc w _).1, fun _ => by simp, (Below.refl _ _).alloc (Nat.le_refl _) _⟩

set_option maxRecDepth 100000 in
set_option maxHeartbeats 4000000 in
/-- FnAddMatchesEventModel (function 6), the main way. -/
theorem law6 (m b off n c : Nat) (a : Option Addr) (ha : n = 0 ∨ a = some ⟨b, off, none⟩) (hnil : a = none → n = 0 ∧ c = 0) (S : Nat → Step) (w : World) (hs : ∀ i, i < n → Sv (S i)) (hl : Lies w b off n S) (hn : n ≤ 4096) (hm : m ≤ 4096) (hb : 0 < n → b < w.heap.size) :
    Calls Try.prog 6 #[.int .i64 (m : Int), .slice a n c] w fun e w' => e = .returned (.bool true) ∧ Below w.heap.size w w' := by
  have c24 := bytes24 (.int .i64 (m : Int)) a n c w
  have c8 := members8 m b off n c a ha S w hl hn
  have c25 := bounded25 b off n c a ha S w hs hl hn hb
  have c9 : ∀ w1, Below w.heap.size w w1 → Calls Try.prog 9 #[.slice a n c] w1 fun e w' => ∃ d : Nat, d ≤ n ∧ e = .returned (.int .i64 (d : Int)) ∧ ∃ q, w1.drewN q = w' := fun w1 h1 => by
    refine distinct9 b off n c a ha S w1 (fun i hi => (hl.below h1 (hb (by omega))) i hi) hn
  have c10 : ∀ w1, Below w.heap.size w w1 → Calls Try.prog 10 #[.slice a n c] w1 fun e w' => ∃ a2 b2, e = .returned (.slice a2 n n) ∧ (n = 0 ∨ a2 = some ⟨b2, 0, none⟩) ∧ Lies w' b2 0 n S ∧ (0 < n → b2 < w'.heap.size) ∧ Below w1.heap.size w1 w' := fun w1 h1 =>
    copyAll b off n c a ha hnil S w1 hs (fun i hi => (hl.below h1 (hb (by omega))) i hi) hn (fun h => Nat.lt_of_lt_of_le (hb h) h1.size)
  have p1 : decide ((4096 : Int) < (n : Int)) = false := decide_eq_false (by omega)
  have p2 : decide ((4096 : Int) < (m : Int)) = false := decide_eq_false (by omega)
  have p3 : decide ((m : Int) < 0) = false := decide_eq_false (by omega)
  have HS := hide hs
  have C9 := hide c9
  have C10 := hide c10
  clear ha hnil hl hb hs c9 c10
  go_enter Try.func6, Try.ntmps6
  go_wp2_with fail
  refine c24.mono ?_
  rintro e w' ⟨⟨r24, rfl, _⟩, rfl⟩
  clear c24
  cases r24 with
  | false =>
    clear c8 c25
    go_wp2
    go_ret
    exact ⟨rfl, Below.refl _ _⟩
  | true =>
    go_wp2_with fail
    refine c8.mono ?_
    rintro e w' ⟨⟨r8, rfl, h8⟩, rfl⟩
    clear c8
    cases r8 with
    | false =>
      clear c25
      go_wp2
      go_ret
      exact ⟨rfl, Below.refl _ _⟩
    | true =>
      have H8 := hide (h8 rfl)
      clear h8
      go_wp2_with fail
      refine c25.mono ?_
      rintro e w1 ⟨⟨r25, rfl, h25⟩, be1⟩
      clear c25
      have B1 := hide be1
      clear be1
      cases r25 with
      | false =>
        go_wp2
        go_ret
        exact ⟨rfl, B1.out⟩
      | true =>
        have H25 := hide (h25 rfl)
        clear h25
        go_wp2_with fail
        refine (C9.out w1 B1.out).mono ?_
        rintro e w2 ⟨d, hd, rfl, q, hw2⟩
        have B2 : Hid (Below w.heap.size w w2) := by rw [← hw2]; exact B1.out.trans ⟨rfl, rfl, rfl, Nat.le_refl _, fun _ _ => rfl⟩
        clear hw2 B1 C9
        go_upto_if 46 with fail
        generalize wrap64 ((m : Int) * (d : Int)) = md
        by_cases hmd : 4194304 < md
        · rw [decide_eq_true hmd]
          go_wp2
          go_ret
          exact ⟨rfl, B2.out⟩
        rw [decide_eq_false hmd]
        clear hmd
        go_wp2_with fail
        refine (C10.out w2 B2.out).mono ?_
        rintro e w3 ⟨a2, b2, rfl, ha2, hl3, hb3, be3⟩
        have c26 := model26 b2 n n a2 ha2 S w3 HS.out hl3 hn hb3 H25.out
        have B3 : Hid (Below w.heap.size w w3) := B2.out.trans (be3.mono B2.out.size)
        have HA2 := hide ha2
        have HL3 := hide hl3
        have HB3 := hide hb3
        clear ha2 hl3 hb3 be3 C10 B2 p1 p2 p3
        go_wp2_with fail
        refine c26.mono ?_
        rintro e w4 ⟨rfl, hMW⟩
        have HMW := hide hMW
        clear hMW c26
        have nw := new_any m w4
        have nt := new_tal2 m w4
        have B4 : Hid (Below w.heap.size w w4) := B3.out.trans (HMW.out.below.mono B3.out.size)
        have sz4 := HMW.out.size
        obtain ⟨N, hN⟩ : ∃ N, N = w3.heap.size := ⟨_, rfl⟩
        rw [← hN] at HMW HB3 sz4 ⊢
        obtain ⟨M, hM⟩ : ∃ M, M = w4.heap.size := ⟨_, rfl⟩
        rw [← hM] at nw nt sz4
        have HNM := hide (And.intro hN hM)
        have HNT := hide nt
        have hNw : w.heap.size ≤ N := by rw [hN]; exact B3.out.size
        clear hN hM nt B3
        go_wp2_with fail
        refine nw.mono ?_
        rintro e w5 ⟨rfl, hw5⟩
        have HT5 : Hid (Tal2 (M + 3) m (M + 2) M (M + 1) 0 (fun _ => none) ASt.bare [] w5) := by rw [← hw5]; exact HNT.out
        have B5 : Hid (Below M w4 w5) := by
          rw [← hw5, HNM.out.2]
          exact (((Below.refl _ w4).alloc (Nat.le_refl _) _).alloc (by simp) _).alloc (by simp; omega) _
        clear hw5 nw HNT
        obtain ⟨z30, hal, hst⟩ := new30
        go_wp2_with fail
        go_loopg [10] n (fun g t10 wr => ∃ k : Nat, k ≤ n ∧ g = n - k ∧ t10 = .int .i64 (k : Int) ∧ Hid ((∃ B, Tal2 (M + 3) m (M + 2) M (M + 1) (5 * k) B (hist S k) [] wr) ∧ Below M w4 wr))
        case atStart => exact ⟨0, Nat.zero_le _, rfl, rfl, ⟨⟨_, HT5.out⟩, B5.out⟩⟩
        case round =>
          clear HT5 B5
          obtain ⟨k, hk, hg, rfl, HK⟩ := hrel
          by_cases hlt : k < n
          · have hlt' : (k : Int) < (n : Int) := by omega
            obtain rfl : a2 = some ⟨b2, 0, none⟩ := HA2.out.resolve_left (by omega)
            have hb2 := HB3.out (by omega)
            obtain ⟨⟨B, TK⟩, BK⟩ := HK.out
            have hsk := HS.out k hlt
            have hlw4 := HL3.out.below HMW.out.below hb2
            have hlk := (hlw4.below BK (show b2 < M by omega)).load hlt hsk
            rw [Nat.zero_add] at hlk
            have hsk2 := hst (S k) hsk
            have T6 := TK.box (stepO (S k))
            have B6 := BK.alloc (show M ≤ wr.heap.size by have := TK.hH; omega) (stepO (S k))
            obtain ⟨k0, k1, k2, k3, k35, k36⟩ := fields_of hsk (MapKept.heap_alloc wr (stepO (S k))).1
            have h8 := H8.out k hlt
            have h25 := H25.out k hlt
            have hwb := wt_bound S k (fun i hi => ⟨(H25.out i (by omega)).1, (H25.out i (by omega)).2.1⟩) (S k).att (S k).c
            obtain ⟨mem, hmem⟩ : ∃ x : Nat, (S k).mem = (x : Int) := ⟨(S k).mem.toNat, by omega⟩
            have eS : (⟨(S k).att, (mem : Int), (S k).br, (S k).c, (S k).wt, (S k).tot⟩ : Step) = S k := by rw [← hmem]
            have zz := zzadd2 (T := M) T6 (by omega) (by omega) (by omega) hm (by omega) (S k).att (S k).br (S k).wt (S k).tot mem (S k).c (by omega) (by rw [eS]; exact hsk) (by omega) ⟨h25.1, h25.2.1⟩ h25.2.2
            rw [eS] at zz
            rw [hmem] at k1
            have HB6 := hide B6
            have HT6 := hide T6
            clear T6 B6 TK BK h8 h25 hwb hlw4
            go_wp2_with fail
            refine zz.mono ?_
            rintro e w7 ⟨rfl, ⟨B', b', T7, hB'⟩, B7⟩
            have BK7 : Below M w4 w7 := HB6.out.trans B7
            have f7 := fields_of hsk (T7.extra (wr.heap.size, stepO (S k)) (by simp)).2.1
            have rc := (HMW.out.c.keep (BK7.block N (by omega))).cell hlt
            have rm := (HMW.out.m.keep (BK7.block (N + 3) (by omega))).cell hlt
            have rs := (HMW.out.s.keep (BK7.block (N + 4) (by omega))).cell hlt
            have rk := (HMW.out.k.keep (BK7.block (N + 5) (by omega))).cell hlt
            unfold fC at rc
            unfold fM at rm
            unfold fS at rs
            unfold fK at rk
            have T8 : Tal2 (M + 3) m (M + 2) M (M + 1) (5 * (k + 1)) B' (hist S (k + 1)) [(wr.heap.size, stepO (S k))] w7 := T7
            have wa := weightAt2 T8.drew hB' hsk.att hsk.c
            rw [weigh_next] at wa
            obtain ⟨k0', _, _, k3', _, _⟩ := f7
            have HT8 := hide T8
            have HBK := hide BK7
            have HFs := hide hsk
            clear zz T7 T8 B7 BK7 k0 k1 k2 k3 k35 k36 hlk hsk2 hal hst HT6 HB6 eS hmem
            generalize hcB : (hist S k).counted (S k) = cB at *
            generalize hmB : (hist S k).made (S k) = mB at *
            generalize wr.heap.size = p at *
            go_upto_region 21 with fail
            go_cut [109] (fun t109 wx => t109 = .bool false ∧ Hid (Tal2 (M + 3) m (M + 2) M (M + 1) (5 * (k + 1)) B' (hist S (k + 1)) [(p, stepO (S k))] wx ∧ Below M w4 wx))
            case first =>
              as_aux_lemma =>
                have e7 := (HT8.out.extra (p, stepO (S k)) (by simp)).2.1
                have hM7 : M ≤ w7.heap.size := by have := HT8.out.hH; omega
                have hp7 : p < w7.heap.size := lt_of_heap e7
                have hrange : w7.rangeAt p 3 (cc (S k).c) := fun j v hj => by rw [cell_of e7]; simpa using Step.atC j v hj
                have hS0 : w7.drew.cell? ⟨p, 0, none⟩ = some (.int .i64 (S k).att) ∧ w7.drew.rangeAt p 3 (cc (S k).c) ∧ w7.drew.cell? ⟨N + 4, k, none⟩ = some (.int .i64 ((hist S k).weigh (S k))) := ⟨k0', hrange, rs⟩
                have hS1 : ∀ w8, Below w7.drew.heap.size w7.drew w8 → w8.cell? ⟨p, 0, none⟩ = some (.int .i64 (S k).att) ∧ w8.rangeAt p 3 (cc (S k).c) ∧ w8.cell? ⟨N + 4, k, none⟩ = some (.int .i64 ((hist S k).weigh (S k))) := fun w8 h8 =>
                  ⟨(h8.cell (p := ⟨p, 0, none⟩) hp7).trans k0', fun j v hj => (h8.cell (p := ⟨p, 3 + j, none⟩) hp7).trans (hrange j v hj), (h8.cell (p := ⟨N + 4, k, none⟩) (show N + 4 < w7.heap.size by omega)).trans rs⟩
                have HS1 := hide hS1
                have u28 := Try.underlying28
                have i28 : (Try.prog.info? 28).map (·.size) = some (cc (S k).c).length := by rw [cc_len HFs.out.c]; exact size28
                have HQ8 : ∀ w8, Below w7.drew.heap.size w7.drew w8 → Hid (Tal2 (M + 3) m (M + 2) M (M + 1) (5 * (k + 1)) B' (hist S (k + 1)) [(p, stepO (S k))] w8 ∧ Below M w4 w8) := fun w8 h8 =>
                  ⟨HT8.out.drew.below h8, HBK.out.drew.trans (h8.mono hM7)⟩
                have HQ9 := hide HQ8
                clear HQ8 hS1 hrange e7 k0' k3' rc rm rk rs hM7 hp7
                generalize (hist S k).weigh (S k) = wv at *
                go_region_held3 (fun w' => w'.cell? ⟨p, 0, none⟩ = some (.int .i64 (S k).att) ∧ w'.rangeAt p 3 (cc (S k).c) ∧ w'.cell? ⟨N + 4, k, none⟩ = some (.int .i64 wv)) (assumption) (first | (go_at_call 14; refine wa.mono ?_; rintro e w8 ⟨rfl, hb8⟩; have hb8' := HQ9.out w8 hb8; have rs9 := HS1.out w8 hb8; clear hb8))
                go_wp2
                go_meet
                exact ⟨rfl, hb8'⟩
            case rest =>
              obtain ⟨rfl, HT9⟩ := hcut
              as_aux_lemma =>
                clear HT8 HBK wa rc rm rs rk k0' k3'
                have hatt := HFs.out.att
                have d0 := (fields_of HFs.out (HT9.out.1.extra (p, stepO (S k)) (by simp)).2.1).c0
                have rk := (HMW.out.k.keep (HT9.out.2.block (N + 5) (by omega))).cell hlt
                unfold fK at rk
                have wc27 : ∀ nd, Calls Try.prog 27 #[.pointer (some ⟨M + 2, 0, none⟩), .int .i64 (S k).att] (wc.drewN nd) fun e w' => e = .returned (.int .i64 (((hist S k).kindsAt (S k) : Nat) : Int)) ∧ w' = wc.drewN nd := fun nd => by
                  have := weightCount2 (HT9.out.1.drewN nd) hB' hatt
                  rw [kinds_next] at this
                  exact this.mono (fun e w' h => ⟨h.1, h.2.symm⟩)
                have HE : ∀ q, Hid ((∃ B, Tal2 (M + 3) m (M + 2) M (M + 1) (5 * (k + 1)) B (hist S (k + 1)) [] (wc.drewN q)) ∧ Below M w4 (wc.drewN q)) := fun q =>
                  ⟨⟨B', (HT9.out.1.drewN q).drop (fun p hp => absurd hp List.not_mem_nil)⟩, HT9.out.2.trans ⟨rfl, rfl, rfl, Nat.le_refl _, fun _ _ => rfl⟩⟩
                have HE2 := hide HE
                clear HE HT9 hatt
                generalize (hist S k).kindsAt (S k) = kk at *
                go_wp2
                go_quiet (exact Calls.quiet_of_same (wc27 _))
                go_wp2
                go_roundg (n - (k + 1))
                case measure => omega
                case rel => exact ⟨k + 1, by omega, rfl, by go_num, HE2.out _⟩
          · obtain rfl : k = n := by omega
            have hlt' : decide ((k : Int) < (k : Int)) = false := decide_eq_false (by omega)
            obtain ⟨⟨B, TK⟩, BK⟩ := HK.out
            have HTK := hide TK
            have HBK := hide BK
            clear TK BK HK hst hal
            go_wp2_with fail
            go_loopg [14] (k + 1) (fun g t14 wr => ∃ i : Nat, i ≤ k + 1 ∧ g = k + 1 - i ∧ t14 = .int .i64 (i : Int) ∧ Hid (Tal2 (M + 3) m (M + 2) M (M + 1) (5 * k) B (hist S k) [] wr ∧ Below M w4 wr))
            case atStart => exact ⟨0, Nat.zero_le _, rfl, rfl, hide ⟨HTK.out, HBK.out⟩⟩
            case round =>
              clear HTK HBK
              obtain ⟨i, hi, hg2, rfl, HI⟩ := hrel
              by_cases hik : i ≤ k
              · have hik' : (i : Int) ≤ (k : Int) := by omega
                go_upto_if 128 with fail
                go_cut [15] (fun t15 wx => (∃ x : Int, t15 = .int .i64 x) ∧ wx = wr)
                case first =>
                  by_cases hin : i < k
                  · have hin' : (i : Int) < (k : Int) := by omega
                    obtain rfl : a2 = some ⟨b2, 0, none⟩ := HA2.out.resolve_left (by omega)
                    have hb2 := HB3.out (by omega)
                    have ca := ((HL3.out.below HMW.out.below hb2).below HI.out.2 (show b2 < M by omega)).att hin
                    rw [Nat.zero_add] at ca
                    go_wp2
                    go_meet
                    exact ⟨⟨_, rfl⟩, rfl⟩
                  · have hin' : decide ((i : Int) < (k : Int)) = false := decide_eq_false (by omega)
                    go_wp2
                    go_meet
                    exact ⟨⟨_, rfl⟩, rfl⟩
                case rest =>
                  obtain ⟨⟨x, rfl⟩, rfl⟩ := hcut
                  as_aux_lemma =>
                    have hM7 : M ≤ wc.heap.size := by have := HI.out.1.hH; omega
                    have c28 := mlatest28 b2 k k (N + 3) a2 HA2.out S x wc HS.out (fun i hi => ((HL3.out.below HMW.out.below (HB3.out (by omega))).below HI.out.2 (show b2 < M by have := HB3.out (by omega); omega)) i hi) (HMW.out.m.keep (HI.out.2.block (N + 3) (by omega))).flag hn (fun h => by have := HB3.out h; omega) (by omega)
                    go_wp2_with fail
                    refine c28.mono ?_
                    rintro e w8 ⟨⟨f1, t1, c1, rfl, L1, cv1⟩, b8⟩
                    clear c28
                    have hal := al28_is
                    have hsn := stNew cv1
                    have T9 := ((HI.out.1.below b8).alloc (candO c1))
                    have b9 := (HI.out.2.trans (b8.mono hM7)).alloc (show M ≤ w8.heap.size by have := b8.size; omega) (candO c1)
                    have c13 := zzlatest2 T9 (fun b d hq => q_wf S k HS.out b d hq) x
                    have e9 := (MapKept.heap_alloc w8 (candO c1)).1
                    have s9 : M ≤ (w8.alloc (candO c1)).heap.size := by have := b8.size; simp; omega
                    have hlt9 : w8.heap.size < (w8.alloc (candO c1)).heap.size := by simp
                    have HX := hide (And.intro T9 (And.intro b9 (And.intro e9 (And.intro s9 hlt9))))
                    have HL1 := hide L1
                    clear T9 b9 e9 s9 b8 L1 hlt9
                    go_wp2_with fail
                    generalize w8.alloc (candO c1) = w9 at *
                    generalize w8.heap.size = P1 at *
                    clear hsn
                    refine c13.mono ?_
                    rintro e w10 ⟨⟨f2, t2, c2, rfl, L2, cv2⟩, b10⟩
                    clear c13
                    obtain ⟨rfl, rfl⟩ := Latest.same HL1.out L2
                    have hsn := stNew cv1
                    have e10 : w10.heap[P1]? = some (candO c1) := (b10.block P1 HX.out.2.2.2.2).trans HX.out.2.2.1
                    have T11 := (HX.out.1.below b10).alloc (candO c1)
                    have B11 := (HX.out.2.1.trans (b10.mono HX.out.2.2.2.1)).alloc (show M ≤ w10.heap.size by have := b10.size; have := HX.out.2.2.2.1; omega) (candO c1)
                    have l1 := ldCand cv1 ((Below.heap_alloc w10 (candO c1) P1 (lt_of_heap e10)).trans e10)
                    have l2 := ldCand cv1 (MapKept.heap_alloc w10 (candO c1)).1
                    have ne := fun w x y => ne28_is cv1 cv1 w x y
                    simp only [decide_true, Bool.not_true] at ne
                    have HFin := hide (And.intro T11 B11)
                    clear T11 B11 e10 b10 L2 cv2 HL1 HX
                    go_wp2
                    go_roundg (k + 1 - (i + 1))
                    case measure => omega
                    case rel => exact ⟨i + 1, by omega, rfl, by go_num, HFin⟩
              · obtain rfl : i = k + 1 := by omega
                have hik' : decide (((k + 1 : Nat) : Int) ≤ (k : Int)) = false := decide_eq_false (by omega)
                have hEnd : Hid (Below w.heap.size w wr) := B4.out.trans (HI.out.2.mono (by omega))
                go_wp2
                go_ret
                exact ⟨rfl, hEnd.out⟩
end Go.Proofs.Qxb6603231a
