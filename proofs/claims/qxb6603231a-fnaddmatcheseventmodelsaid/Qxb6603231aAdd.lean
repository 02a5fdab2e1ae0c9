import Derived.Test.Qxb6603231aOps
import Derived.BigQuiet
import Derived.Deep.CutBlock
import Derived.Deep.CutRange
namespace Go.Proofs.Qxb6603231a
open Go Go.RowKit
attribute [local go_sem ↓] to_ld28 to_ld79 to_st28 to_st79 to_al28 to_al79 to_bd79 to_eq28
theorem ASt.put_self (A : ASt) (a : Int) : A.put a (A.of a) = A := by
  cases A with
  | mk f q =>
    unfold ASt.put
    congr 1
    funext a'
    by_cases e : a = a'
    · subst e; simp
    · simp [e]
theorem ASt.put_put (A : ASt) (a : Int) (X Y : BA) : (A.put a X).put a Y = A.put a Y := by
  unfold ASt.put
  congr 1
  funext a'
  by_cases e : a = a' <;> simp [e]
theorem ASt.put_of (A : ASt) (a : Int) (X : BA) : (A.put a X).of a = X := by simp [ASt.put]

section
variable {H m n : Nat} {X : BA} {att : Int} {w : World} {b : Blk}
theorem BallR.c1 (h : BallR H m n X att w b) : w.cell? ⟨b.z, 1, none⟩ = some (.slice (some ⟨b.x5, 0, none⟩) m m) := by rw [cell_of h.cell]; rfl
theorem BallR.c2 (h : BallR H m n X att w b) : w.cell? ⟨b.z, 2, none⟩ = some (.map (some b.x6)) := by rw [cell_of h.cell]; rfl
theorem BallR.c3 (h : BallR H m n X att w b) : w.cell? ⟨b.z, 3, none⟩ = some (.slice (some ⟨b.x11, 0, none⟩) m m) := by rw [cell_of h.cell]; rfl
theorem BallR.c4 (h : BallR H m n X att w b) : w.cell? ⟨b.z, 4, none⟩ = some (.slice (some ⟨b.x16, 0, none⟩) m m) := by rw [cell_of h.cell]; rfl
theorem BallR.c5 (h : BallR H m n X att w b) : w.cell? ⟨b.z, 5, none⟩ = some (.map (some b.x17)) := by rw [cell_of h.cell]; rfl
theorem BallR.c6 (h : BallR H m n X att w b) : w.cell? ⟨b.z, 6, none⟩ = some (.map (some b.x18)) := by rw [cell_of h.cell]; rfl
theorem FlagR.cell {ii : Nat → Bool} {x : Nat} (h : FlagR m ii w x) {j : Nat} (hj : j < m) : w.cell? ⟨x, j, none⟩ = some (.bool (ii j)) ∧ w.frozen? ⟨x, j, none⟩ = false := by
  obtain ⟨cs, h1, _, h3⟩ := h
  exact ⟨by rw [cell_of h1]; exact h3 j hj, frozen_of h1⟩
end

set_option maxRecDepth 100000 in
set_option maxHeartbeats 4000000 in
/-- 'add' (function 29). -/
theorem add2 {T H m tb mb qb n : Nat} {B : Int → Option Blk} {A : ASt} {ex : List (Nat × Obj)} {w : World} (h : Tal2 H m tb mb qb n B A ex w) (t1 : T ≤ tb) (t2 : T ≤ mb) (t3 : T ≤ qb) (hm : m ≤ 4096) (hn : n < 1000000) (att br wt tot : Int) (mem : Nat) (c : List Int) (hmem : mem < m) (hs : Sv ⟨att, mem, br, c, wt, tot⟩)
    (w1' : -288230376151711744 ≤ ((A.of att).wt c).getD 0 ∧ ((A.of att).wt c).getD 0 ≤ 288230376151711744) (w2' : -70368744177664 ≤ wt ∧ wt ≤ 70368744177664) (w3' : -70368744177664 ≤ tot ∧ tot ≤ 70368744177664) :
    Calls Try.prog 29 #[.pointer (some ⟨tb, 0, none⟩), .int .i64 att, .int .i64 (mem : Int), .int .i64 br, candV c, .int .i64 wt, .int .i64 tot] w fun e w' => e = .returned (.tuple #[.bool (A.counted ⟨att, mem, br, c, wt, tot⟩), .bool (A.made ⟨att, mem, br, c, wt, tot⟩)]) ∧ (∃ B' b, Tal2 H m tb mb qb (n + 5) B' (A.next ⟨att, mem, br, c, wt, tot⟩) ex w' ∧ B' att = some b) ∧ Below T w w' := by
  have hbox := fun w => box28 c w
  have hin := in2 (T := T) (h.box (candO c)) t1 t2 hm (by unfold maxLen; omega) att hs.att
  have hTs : T ≤ w.heap.size := by
    have a := h.htb; have b := h.hH; omega
  have HS := hide hs
  have HN := hide h
  have HW1 := hide w1'
  have HW2 := hide w2'
  have HW3 := hide w3'
  clear w1' w2' w3'
  have mi : (mem : Int) < (m : Int) := by omega
  clear h hs
  go_enter Try.func29, Try.ntmps29
  go_wp2_with (go_at_call 31; refine hin.mono ?_; rintro e w1 ⟨b, B', rfl, hB, T1, be1⟩)
  clear hbox hin
  have hb := T1.balls att b hB
  refine (has2 hb mem hmem hm br HS.out.br).mono ?_
  rintro e w2 ⟨rfl, rfl⟩
  have be1 : Below T w w1 := ((Below.refl T w).alloc hTs _).trans be1
  generalize hX : A.of att = X at *
  cases hcast : X.cast mem br with
  | true =>
    have HT := hide T1
    have HB := hide be1
    clear T1 hb be1
    go_wp2
    go_ret2
    have e1 : A.counted ⟨att, mem, br, c, wt, tot⟩ = false := by simp [ASt.counted, BA.counted, hX, hcast]
    have e2 : A.made ⟨att, mem, br, c, wt, tot⟩ = false := by simp [ASt.made, ASt.added, BA.added, BA.counted, hX, hcast]
    have e3 : A.next ⟨att, mem, br, c, wt, tot⟩ = A := by
      unfold ASt.next
      rw [e2, if_neg (by simp), BA.next]
      simp only [hX, hcast, if_true]
      rw [← hX]; exact ASt.put_self A att
    rw [e1, e2, e3]
    exact ⟨rfl, ⟨B', b, (HT.out.mono (by omega)).drop (fun p hp => by simp [hp]), hB⟩, HB.out⟩
  | false =>
    have HT := hide T1
    have HBe := hide be1
    clear T1 be1
    go_upto_if 28 with fail
    go_cut [] (fun wx => Hid (Tal2 H m tb mb qb (n + 2) B' (A.put att (X.doCast mem br)) ((w.heap.size, candO c) :: ex) wx ∧ Below T w wx))
    case first =>
      by_cases hbr : br = 0
      · subst hbr
        have fl := hb.cast.cell hmem
        have c1 := hb.c1
        obtain ⟨fl1, fl2⟩ := fl
        have U := hide ((HT.out.castSet hB mem).mono (show n + 1 ≤ n + 2 by omega))
        have V := hide (HBe.out.setCell (p := ⟨b.x5, mem, none⟩) (show T ≤ b.x5 by
          have := hb.ge b.x5 (by simp [Blk.all]); have := HN.out.htb; omega) (.bool true))
        rw [hX] at U
        clear hb HT HBe
        go_wp2
        go_meet
        exact ⟨U.out, V.out⟩
      · have hbr' : (br == 0) = false := by simpa using hbr
        have c2 := hb.c2
        obtain ⟨w2, r1, r2, r3⟩ := HT.out.forksSet hB (by unfold maxLen; omega) mem br (WalkArith.wf_i64 (by omega)) HS.out.br hbr
        have V := hide (turned_below HBe.out r3 (by have := HT.out.hH; have := HN.out.htb; omega) (show T ≤ b.x6 by
          have := hb.ge b.x6 (by simp [Blk.all]); have := HN.out.htb; omega))
        rw [hX] at r2
        have U := hide r2
        clear hb HT HBe r2 r3
        go_wp2
        go_meet
        exact ⟨U.out, V.out⟩
    case rest =>
      clear hb HT HBe
      generalize hA1 : A.put att (X.doCast mem br) = A1 at hcut
      generalize hex : w.heap.size = bx at *
      go_upto_region 7 with fail
      have ld := ldCand HS.out.c (hcut.out.1.extra (bx, candO c) (by simp)).2.1
      have bd := fun w => bd79_is (mem : Int) HS.out.c w
      obtain ⟨z, hal, hst⟩ := new79
      have hst := hst (mem : Int) c HS.out.c
      have T2 := hide (hcut.out.1.box (pickO (mem : Int) c))
      have V2 := hide (hcut.out.2.alloc (show T ≤ wc.heap.size by have := hcut.out.1.hH; have := HN.out.htb; omega) (pickO (mem : Int) c))
      clear hcut
      go_upto_block 0 with fail
      clear ld bd hal hst
      generalize wc.alloc (pickO (mem : Int) c) = w3 at *
      generalize wc.heap.size = px at *
      have hb := T2.out.balls att b hB
      have eX : A1.of att = X.doCast mem br := by rw [← hA1, ASt.put_of]
      obtain ⟨fi, ii, f, cnt, hF, hI, hM, hSays⟩ := hb.inn
      have c3 := hb.c3
      have c4 := hb.c4
      have c5 := hb.c5
      obtain ⟨i1, i2⟩ := hI.cell hmem
      go_cut [] (fun wx => Hid (X.inn mem c = false ∧ Tal2 H m tb mb qb (n + 3) B' (A1.put att ((A1.of att).doIn mem c)) ((px, pickO mem c) :: (bx, candO c) :: ex) wx ∧ Below T w wx))
      case first =>
        go_upto_region 9 with fail
        cases hii : ii mem with
        | false =>
          rw [hii] at i1
          obtain ⟨fs, hf1, hf2, hf3⟩ := hF
          obtain ⟨is, hi1, hi2, hi3⟩ := hI
          have hin : X.inn mem c = false := by
            have := ((hSays mem hmem c).2.1 hii).1
            rw [eX] at this; exact this
          have hx : b.x11 ≠ b.x16 := (Blk.apart hb.nd).2.2.2.2.2.2.2.2.2.2.2.2.2.2.2.1
          have lc : ld 28 w3.drew (.pointer (some ⟨bx, 0, none⟩)) = .ok (candV c) w3.drew := ldCand HS.out.c (show w3.drew.heap[bx]? = _ from (T2.out.extra (bx, candO c) (by simp)).2.1)
          have hroom : mem * 32 + 32 ≤ fs.size := by omega
          have s28 : st 28 w3.drew (.pointer (some ⟨b.x11, mem * 32, none⟩)) (candV c) = .ok () (w3.drew.setRow b.x11 (splice fs (mem * 32) (cc c))) := stMid HS.out.c (show w3.drew.heap[b.x11]? = _ from hf1) hroom
          have hr16 : (w3.drew.setRow b.x11 (splice fs (mem * 32) (cc c))).heap[b.x16]? = some (.cells is 4) := (setRow_other _ _ _ _ (Ne.symm hx)).trans hi1
          have r16 : (w3.drew.setRow b.x11 (splice fs (mem * 32) (cc c))).cell? ⟨b.x16, mem, none⟩ = some (.bool false) := by rw [cell_of hr16, ← hii]; exact hi3 mem hmem
          have f16 : (w3.drew.setRow b.x11 (splice fs (mem * 32) (cc c))).frozen? ⟨b.x16, mem, none⟩ = false := frozen_of hr16
          have hr4 : (w3.drew.setRow b.x11 (splice fs (mem * 32) (cc c))).cell? ⟨b.z, 4, none⟩ = some (.slice (some ⟨b.x16, 0, none⟩) m m) := by
            rw [World.cell?_of_block (w := w3.drew) (setRow_other _ _ _ _ (show (⟨b.z, 4, none⟩ : Addr).block ≠ b.x11 from (Blk.apart hb.nd).2.2.1))]; exact c4
          have hr11 : (w3.drew.setRow b.x11 (splice fs (mem * 32) (cc c))).heap[b.x11]? = some (.cells (splice fs (mem * 32) (cc c)) 28) := setRow_heap _ _ _ _ _ _ (show w3.drew.heap[b.x11]? = _ from hf1)
          have U := hide ((T2.out.drew.firstSet hB hf2 hf3 hi2 hi3 (hM.keep (w' := w3.drew) rfl) hSays mem hmem c HS.out.c hii (w' := (w3.drew.setRow b.x11 (splice fs (mem * 32) (cc c))).setCell ⟨b.x16, mem, none⟩ (.bool true)) (by simp [World.setCell, World.setRow]) ((heap_set_other _ hx).trans hr11) (heap_set hr16 _) (fun k h1 h2 => ((heap_set_other _ h2).trans (setRow_other w3.drew b.x11 k _ h1)))).mono (show n + 2 ≤ n + 3 by omega))
          have V : Hid (Below T w ((w3.drew.setRow b.x11 (splice fs (mem * 32) (cc c))).setCell ⟨b.x16, mem, none⟩ (.bool true))) := by
            have g1 := hb.ge b.x11 (by simp [Blk.all])
            have g2 := hb.ge b.x16 (by simp [Blk.all])
            have g3 := HN.out.htb
            have b1 : Below T w3.drew (w3.drew.setRow b.x11 (splice fs (mem * 32) (cc c))) := ⟨rfl, rfl, rfl, by simp [World.setRow], fun k hk => setRow_other _ _ _ _ (by omega)⟩
            refine Below.setCell (V2.out.drew.trans b1) (p := ⟨b.x16, mem, none⟩) ?_ _
            show T ≤ b.x16; omega
          clear hb hf1 hf2 hf3 hi1 hi2 hi3 hSays hM hr11 hr16 c5
          go_wp2
          go_region
          go_wp2
          go_meet
          exact ⟨hin, U.out, V.out⟩
        | true =>
          rw [hii] at i1
          obtain ⟨fs, hf1, hf2, hf3⟩ := hF
          have hcv := (hf3 mem hmem).1
          have lf : ∀ nd, ld 28 (w3.drewN nd) (.pointer (some ⟨b.x11, mem * 32, none⟩)) = .ok (candV (fi mem)) (w3.drewN nd) := fun nd => ldMid hcv (fun j v hj => by
            rw [cell_of (show (w3.drewN nd).heap[b.x11]? = _ from hf1)]; exact (hf3 mem hmem).2 j v hj)
          have lc : ∀ nd, ld 28 (w3.drewN nd) (.pointer (some ⟨bx, 0, none⟩)) = .ok (candV c) (w3.drewN nd) := fun nd => ldCand HS.out.c (show (w3.drewN nd).heap[bx]? = _ from (T2.out.extra (bx, candO c) (by simp)).2.1)
          have lp : ∀ nd, ld 79 (w3.drewN nd) (.pointer (some ⟨px, 0, none⟩)) = .ok (pickV mem c) (w3.drewN nd) := fun nd => ldPick HS.out.c (show (w3.drewN nd).heap[px]? = _ from (T2.out.extra (px, pickO mem c) (by simp)).2.1)
          obtain ⟨l, hl⟩ := key79 (m := (mem : Int)) (WalkArith.wf_i64 (by omega)) HS.out.c
          have lk : ∀ nd, (Instr.lookup 70 (.map (some b.x17)) (pickV mem c) false).run Try.prog (w3.drewN nd) = .ok ((f (pickV mem c)).getD (.bool false)) (w3.drewN nd) := fun nd => (hM.keep (w' := w3.drewN nd) rfl).look keyed79 Try.underlying70 (zero4 _) hl
          have eq : ∀ w x y, eq28 w x y (candV (fi mem)) (candV c) = .ok (.bool (decide (fi mem = c))) w := fun w x y => eq28_is hcv HS.out.c w x y
          obtain ⟨s1, s2, s3⟩ := hSays mem hmem c
          have s3 := s3 hii
          clear hb
          by_cases hfc : fi mem = c
          · have hfc' : decide (fi mem = c) = true := decide_eq_true hfc
            rw [hfc'] at eq s3
            clear lk hfc hfc'
            go_wp2
            go_quiet (fail)
            go_wp2
            go_ret2
            have hin : X.inn mem c = true := by
              rw [eX] at s3
              rw [Bool.true_or] at s3; exact s3
            have e1 : A.counted ⟨att, mem, br, c, wt, tot⟩ = true := by simp [ASt.counted, BA.counted, hX, hcast]
            have e2 : A.made ⟨att, mem, br, c, wt, tot⟩ = false := by simp [ASt.made, ASt.added, BA.added, BA.counted, hX, hcast, hin]
            have e3 : A.next ⟨att, mem, br, c, wt, tot⟩ = A1 := by
              unfold ASt.next
              rw [e2, if_neg (by simp), BA.next, ← hA1]
              simp [hX, hcast, hin]
            rw [e1, e2, e3]
            exact ⟨rfl, ⟨B', b, ((T2.out.drewN _).mono (by omega)).drop (fun p hp => by simp [hp]), hB⟩, V2.out.trans ⟨rfl, rfl, rfl, Nat.le_refl _, fun _ _ => rfl⟩⟩
          · have hfc' : decide (fi mem = c) = false := decide_eq_false hfc
            rw [hfc'] at eq s3
            clear hfc hfc'
            rw [Bool.false_or] at s3
            rcases s1 with s1 | s1
            · rw [s1] at s3 lk
              simp only [Option.getD_none, Option.isSome_none] at s3 lk
              go_wp2
              go_quiet (fail)
              go_wp2
              have hdr : w3.drewN nq = w3.drewN nq := rfl
              obtain ⟨W, hW⟩ : ∃ W, W = w3.drewN nq := ⟨_, rfl⟩
              have TW : Tal2 H m tb mb qb (n + 2) B' A1 ((px, pickO mem c) :: (bx, candO c) :: ex) W.drew := by rw [hW]; exact (T2.out.drewN nq).drew
              have c5' : W.cell? ⟨b.z, 5, none⟩ = some (.map (some b.x17)) := by rw [hW]; exact c5
              have lp' : ld 79 W.drew (.pointer (some ⟨px, 0, none⟩)) = .ok (pickV mem c) W.drew := ldPick HS.out.c (TW.extra (px, pickO mem c) (by simp)).2.1
              obtain ⟨w4, r1, r2, r3⟩ := TW.pickedSet hB (by unfold maxLen; omega) (w := W.drew) (FirstR.keep ⟨fs, hf1, hf2, hf3⟩ (by rw [hW]; rfl)) (hI.keep (by rw [hW]; rfl)) (hM.keep (w' := W.drew) (by rw [hW]; rfl)) hSays mem hmem hm c HS.out.c hii
              have V4 := hide (turned_below (T := T) (w0 := w) (w := W.drew) (by rw [hW]; exact (V2.out.trans ⟨rfl, rfl, rfl, Nat.le_refl _, fun _ _ => rfl⟩)) r3 (by have := TW.hH; have := HN.out.htb; omega) (show T ≤ b.x17 by
                have := (TW.balls att b hB).ge b.x17 (by simp [Blk.all]); have := HN.out.htb; omega))
              have U4 := hide r2
              have hin : X.inn mem c = false := by
                rw [eX] at s3; exact s3
              rw [← hW]
              clear TW r2 r3 hW lf lc lp lk eq hf1 hf2 hf3 hSays hM c3 c4 c5 s2 s1 i1 i2 hI hl hcv
              go_region
              all_goals go_wp2
              all_goals go_meet
              all_goals exact ⟨hin, U4.out, V4.out⟩
            · rw [s1] at s3 lk
              simp only [Option.getD_some, Option.isSome_some] at s3 lk
              go_wp2
              go_quiet (fail)
              go_wp2
              go_ret2
              have hin : X.inn mem c = true := by
                rw [eX] at s3; exact s3
              have e1 : A.counted ⟨att, mem, br, c, wt, tot⟩ = true := by simp [ASt.counted, BA.counted, hX, hcast]
              have e2 : A.made ⟨att, mem, br, c, wt, tot⟩ = false := by simp [ASt.made, ASt.added, BA.added, BA.counted, hX, hcast, hin]
              have e3 : A.next ⟨att, mem, br, c, wt, tot⟩ = A1 := by
                unfold ASt.next
                rw [e2, if_neg (by simp), BA.next, ← hA1]
                simp [hX, hcast, hin]
              rw [e1, e2, e3]
              exact ⟨rfl, ⟨B', b, ((T2.out.drewN _).mono (by omega)).drop (fun p hp => by simp [hp]), hB⟩, V2.out.trans ⟨rfl, rfl, rfl, Nat.le_refl _, fun _ _ => rfl⟩⟩
      case rest =>
        clear T2 V2 hb hF hI hM hSays c3 c4 c5 i1 i2 hst
        generalize hA2 : A1.put att ((A1.of att).doIn mem c) = A2 at hcut
        obtain ⟨hin, T3, V3⟩ := hcut.out
        clear hcut
        have HT3 := hide T3
        have HV3 := hide V3
        clear T3 V3
        go_upto_region 13 with fail
        go_cut [] (fun wx => Hid (Tal2 H m tb mb qb (n + 4) B' (A2.put att ((A2.of att).doWt c wt)) ((px, pickO mem c) :: (bx, candO c) :: ex) wx ∧ Below T w wx))
        case first =>
          obtain ⟨st, w4, w5, r1, r2, r3, r4, r5, r6, r7⟩ := HT3.out.drew.wtSet hB (by unfold maxLen; omega) c HS.out.c wt
          have hb := HT3.out.balls att b hB
          have c6 := hb.c6
          have lc : ld 28 wc.drew (.pointer (some ⟨bx, 0, none⟩)) = .ok (candV c) wc.drew := ldCand HS.out.c (show wc.drew.heap[bx]? = _ from (HT3.out.extra (bx, candO c) (by simp)).2.1)
          have g1 := hb.ge b.x18 (by simp [Blk.all])
          have g2 := HN.out.htb
          have g3 := HT3.out.hH
          have U := hide r5
          have V := hide (turned_below (turned_below HV3.out.drew r6 (show T ≤ wc.heap.size by omega) (show T ≤ b.x18 by omega)) r7 (by have := turned_size r6; have : wc.drew.heap.size = wc.heap.size := rfl; omega) (show T ≤ b.x18 by omega))
          have ew : (A2.of att).wt c = X.wt c := by rw [← hA2, ASt.put_of, eX]; rfl
          have q1 := HW1.out
          have q2 := HW2.out
          rw [ew] at r1 r2 r3 r4
          generalize (X.wt c).getD 0 = x0 at r1 r2 r3 r4 q1
          unfold goInt at r3 r4
          clear hb r5 r6 r7 g1 g2 g3 ew
          go_region
          all_goals go_wp2
          all_goals go_meet
          all_goals exact ⟨U.out, V.out⟩
        case rest =>
          clear HT3 HV3
          have eX2 : A2.of att = (X.doCast mem br).doIn mem c := by rw [← hA2, ASt.put_of, eX]
          have eX3 : (A2.put att ((A2.of att).doWt c wt)).of att = ((X.doCast mem br).doIn mem c).doWt c wt := by rw [ASt.put_of, eX2]
          have hsum : (((X.doCast mem br).doIn mem c).doWt c wt).wt c = some ((X.wt c).getD 0 + wt) := by simp [BA.doWt, BA.sum, BA.doIn, BA.doCast]
          have hq : (A2.put att ((A2.of att).doWt c wt)).q = A.q := by rw [← hA2, ← hA1]; rfl
          have hnx : A2.put att ((A2.of att).doWt c wt) = A.put att (X.next ⟨att, mem, br, c, wt, tot⟩) := by
            rw [eX2, ← hA2, ASt.put_put, ← hA1, ASt.put_put]
            congr 1
            simp [BA.next, hcast, hin]
          have hcnt : A.counted ⟨att, mem, br, c, wt, tot⟩ = true := by simp [ASt.counted, BA.counted, hX, hcast]
          have hadd : A.added ⟨att, mem, br, c, wt, tot⟩ = true := by simp [ASt.added, BA.added, BA.counted, hX, hcast, hin]
          have hwe : A.weigh ⟨att, mem, br, c, wt, tot⟩ = (X.wt c).getD 0 + wt := by simp [ASt.weigh, hadd, BA.sum, hX]
          generalize hA3 : A2.put att ((A2.of att).doWt c wt) = A3 at hcut eX3 hq hnx
          obtain ⟨T4, V4⟩ := hcut.out
          clear hcut
          have hb := T4.balls att b hB
          obtain ⟨lv, hcl, _⟩ := T4.cells
          have q3 : wc.cell? ⟨tb, 3, none⟩ = some (.map (some qb)) := by rw [cell_of hcl]; rfl
          obtain ⟨fq, cntq, hMq, hfq⟩ := T4.quorum
          have hka : keyOf Try.prog 2 (.int .i64 att) = some (.int .i64 att) := Maps.keyOf_int_mk Try.underlying2 HS.out.att
          have zq : ∀ u : World, (zeroValue 28).run Try.prog u = .ok (candV noCand) u := fun u => by kernel_rfl
          have lq := hMq.look_ok keyed2 Try.underlying54 (zq wc) hka
          obtain ⟨z2, hal, hst⟩ := new28
          have hT : T ≤ wc.heap.size := by have := T4.hH; have := HN.out.htb; omega
          have HT4 := hide T4
          have HV4 := hide V4
          rw [hfq att, hq] at lq
          cases hqa : A.q att with
          | some d =>
            rw [hqa] at lq
            simp only [Option.map_some, Option.getD_some, Option.isSome_some] at lq
            have hd : Cv d := T4.qcv att d (by rw [hq]; exact hqa)
            have hst := hst d hd
            have T5 := hide (T4.alloc (candO d))
            have V5 := hide (V4.alloc hT (candO d))
            clear hb T4 V4 hcl hMq hfq hka zq
            go_wp2
            go_quiet (fail)
            go_wp2
            go_ret2
            have e2 : A.made ⟨att, mem, br, c, wt, tot⟩ = false := by simp [ASt.made, hqa]
            have e3 : A.next ⟨att, mem, br, c, wt, tot⟩ = A3 := by
              unfold ASt.next
              rw [e2, if_neg (by simp), hX, hnx]
            rw [hcnt, e2, e3]
            exact ⟨rfl, ⟨B', b, ((T5.out.drewN _).mono (by omega)).drop (fun p hp => by simp [hp]), hB⟩, V5.out.trans ⟨rfl, rfl, rfl, Nat.le_refl _, fun _ _ => rfl⟩⟩
          | none =>
            rw [hqa] at lq
            simp only [Option.map_none, Option.getD_none, Option.isSome_none] at lq
            have hst := hst noCand noCand_cv
            have T5 := hide (T4.alloc (candO noCand))
            have V5 := hide (V4.alloc hT (candO noCand))
            clear hb T4 V4 hcl hMq hfq zq HT4 HV4
            go_upto_region 15 with fail
            clear lq hst hal q3
            generalize wc.alloc (candO noCand) = w6 at *
            have hb := T5.out.balls att b hB
            rw [eX3] at hb
            have c6 := hb.c6
            obtain ⟨fw, hMw, hfw⟩ := hb.wt
            obtain ⟨lw, hkw⟩ := key28 HS.out.c
            have hz2 : ∀ u : World, (zeroValue 2).run Try.prog u = .ok (.int .i64 0) u := fun u => by kernel_rfl
            have lkw : ∀ nd, (Instr.lookup 71 (.map (some b.x18)) (candV c) false).run Try.prog (w6.drewN nd) = .ok (.int .i64 ((X.wt c).getD 0 + wt)) (w6.drewN nd) := fun nd => by
              have := (hMw.keep (w' := w6.drewN nd) rfl).look keyed28 Try.underlying71 (hz2 _) hkw
              rw [hfw c, hsum] at this; exact this
            have lc : ∀ nd, ld 28 (w6.drewN nd) (.pointer (some ⟨bx, 0, none⟩)) = .ok (candV c) (w6.drewN nd) := fun nd => ldCand HS.out.c (show (w6.drewN nd).heap[bx]? = _ from (T5.out.extra (bx, candO c) (by simp)).2.1)
            have hx1 := HW1.out
            have hx2 := HW2.out
            have hx3 := HW3.out
            have hc33 := fun nd => quorum2 ((X.wt c).getD 0 + wt) tot (by omega) (by omega) (w6.drewN nd)
            clear hx1 hx2 hx3 hb hMw hfw hkw hz2
            have hmade : A.made ⟨att, mem, br, c, wt, tot⟩ = decide (tot * 2 < ((X.wt c).getD 0 + wt) * 3) := by
              unfold ASt.made
              rw [hadd, hwe]
              simp [hqa]
            generalize hqd : decide (tot * 2 < ((X.wt c).getD 0 + wt) * 3) = qd at hc33 hmade
            have HQ := hide hqd
            clear hqd
            generalize (X.wt c).getD 0 + wt = x1 at *
            cases qd with
            | false =>
              go_quiet (exact Calls.quiet_of_same ((hc33 _).mono (fun e w' h => ⟨h.1, h.2.symm⟩)))
              go_wp2
              go_ret2
              have e3 : A.next ⟨att, mem, br, c, wt, tot⟩ = A3 := by
                unfold ASt.next
                rw [hmade, if_neg (by simp), hX, hnx]
              rw [hcnt, hmade, e3]
              exact ⟨rfl, ⟨B', b, ((T5.out.drewN _).mono (by omega)).drop (fun p hp => by simp [hp]), hB⟩, V5.out.trans ⟨rfl, rfl, rfl, Nat.le_refl _, fun _ _ => rfl⟩⟩
            | true =>
              go_quiet (exact Calls.quiet_of_same ((hc33 _).mono (fun e w' h => ⟨h.1, h.2.symm⟩)))
              go_wp2
              obtain ⟨W, hW⟩ : ∃ W, W = w6.drewN nq := ⟨_, rfl⟩
              rw [← hW]
              have TW : Tal2 H m tb mb qb (n + 4) B' A3 ((px, pickO mem c) :: (bx, candO c) :: ex) W.drew := by rw [hW]; exact (T5.out.drewN nq).drew
              have VW : Below T w W.drew := by rw [hW]; exact V5.out.trans ⟨rfl, rfl, rfl, Nat.le_refl _, fun _ _ => rfl⟩
              obtain ⟨lv2, hcl2, _⟩ := TW.cells
              have q4 : W.cell? ⟨tb, 3, none⟩ = some (.map (some qb)) := by
                have : W.drew.cell? ⟨tb, 3, none⟩ = some (.map (some qb)) := by rw [cell_of hcl2]; rfl
                exact this
              have lc' : ld 28 W.drew (.pointer (some ⟨bx, 0, none⟩)) = .ok (candV c) W.drew := ldCand HS.out.c (TW.extra (bx, candO c) (by simp)).2.1
              obtain ⟨w7, r1, r2, r3⟩ := TW.qSet (by unfold maxLen; omega) att HS.out.att c HS.out.c
              have U := hide r2
              have V := hide (turned_below VW r3 (by have := TW.hH; have := HN.out.htb; omega) t3)
              have e3 : A.next ⟨att, mem, br, c, wt, tot⟩ = A3.setQ att c := by
                unfold ASt.next
                rw [hmade, if_pos rfl, hX, hnx]
              have HE := hide e3
              clear TW VW hcl2 r2 r3 hW lc lkw hc33 c6 e3
              go_region
              all_goals go_wp2
              all_goals go_ret2
              all_goals rw [hcnt, hmade, HE.out]
              all_goals exact ⟨rfl, ⟨B', b, (U.out.mono (by omega)).drop (fun p hp => by simp [hp]), hB⟩, V.out⟩
end Go.Proofs.Qxb6603231a
