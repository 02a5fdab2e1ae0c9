import Derived.Test.Qxb6603231aPre
namespace Go.Proofs.Qxb6603231a
open Go Go.RowKit
attribute [local go_sem ↓] to_ld28 to_st28 to_al28

theorem Lies.cand {w : World} {b off n : Nat} {S : Nat → Step} (h : Lies w b off n S) {i : Nat} (hi : i < n) (hs : Cv (S i).c) : ld 28 w (.pointer (some ⟨b, off + i * 37 + 3, none⟩)) = .ok (candV (S i).c) w :=
  ldMid hs (fun j v hj => by rw [Nat.add_assoc]; exact h i hi (3 + j) v (Step.atC j v hj))

set_option maxRecDepth 100000 in
set_option maxHeartbeats 4000000 in
/-- modelLatest (function 28). -/
theorem mlatest28 (b n c mb' : Nat) (a2 : Option Addr) (ha : n = 0 ∨ a2 = some ⟨b, 0, none⟩) (S : Nat → Step) (a : Int) (w : World) (hs : ∀ i, i < n → Sv (S i)) (hl : Lies w b 0 n S) (hf : FlagR n (fun j => (hist S j).made (S j)) w mb') (hn : n ≤ 4096) (hb : 0 < n → b < w.heap.size) (hmb : mb' < w.heap.size) :
    Calls Try.prog 28 #[.slice a2 n c, .slice (some ⟨mb', 0, none⟩) n n, .int .i64 a] w fun e w' => (∃ found t c, e = .returned (.tuple #[candV c, .bool found]) ∧ Latest (hist S n).q a found t c ∧ Cv c) ∧ Below w.heap.size w w' := by
  have hal := al28_is
  have e4 : ((w.alloc (candO noCand)).alloc (candO noCand)).heap[w.heap.size]? = some (candO noCand) := by
    rw [Below.heap_alloc _ _ _ (by simp)]; exact (MapKept.heap_alloc w _).1
  have e6 : ((w.alloc (candO noCand)).alloc (candO noCand)).heap[w.heap.size + 1]? = some (candO noCand) := by
    have := (MapKept.heap_alloc (w.alloc (candO noCand)) (candO noCand)).1
    rw [World.size_alloc] at this; exact this
  have V := ((Below.refl w.heap.size w).alloc (Nat.le_refl _) (candO noCand)).alloc (by simp) (candO noCand)
  have hL0 : Latest (hist S 0).q a false 0 noCand := Or.inl ⟨rfl, fun _ _ => rfl, rfl⟩
  have H0 := hide (And.intro V (And.intro e4 (And.intro e6 (And.intro noCand_cv hL0))))
  have HS := hide hs
  have HL := hide hl
  have HF := hide hf
  have HA := hide ha
  clear ha hs hl hf e4 e6 V hL0
  go_enter Try.func28, Try.ntmps28
  go_upto_region 2 with fail
  generalize (w.alloc (candO noCand)).alloc (candO noCand) = w2 at *
  obtain ⟨N, hN⟩ : ∃ N, N = w.heap.size := ⟨_, rfl⟩
  rw [← hN] at H0 hb hmb ⊢
  have HN := hide hN
  have HBs := hide hb
  clear hN hal hb
  go_wp2
  go_loopg [9, 10, 11] n (fun g t9 t10 t11 wr => ∃ (k : Nat) (found : Bool) (t : Int) (d : List Int), k ≤ n ∧ g = n - k ∧ t9 = .bool found ∧ t10 = .int .i64 t ∧ t11 = .int .i64 (k : Int) ∧ Hid (Below N w wr ∧ wr.heap[N]? = some (candO noCand) ∧ wr.heap[N + 1]? = some (candO d) ∧ Cv d ∧ Latest (hist S k).q a found t d))
  case atStart => exact ⟨0, false, 0, noCand, Nat.zero_le _, rfl, rfl, rfl, rfl, H0⟩
  case round =>
    clear H0
    obtain ⟨k, found, t, d, hk, hg, rfl, rfl, rfl, HB⟩ := hrel
    by_cases hlt : k < n
    · have hlt' : (k : Int) < (n : Int) := by omega
      obtain rfl : a2 = some ⟨b, 0, none⟩ := HA.out.resolve_left (by omega)
      have hb := HBs.out (by omega)
      have hsk := HS.out k hlt
      have hlk := HL.out.below HB.out.1 hb
      have ca := hlk.att hlt
      have cm := (HF.out.keep (HB.out.1.block _ hmb)).cell hlt
      obtain ⟨cm, _⟩ := cm
      have lc := hlk.cand hlt hsk.c
      have sv := stVar hsk.c HB.out.2.2.2.1 HB.out.2.2.1
      have hst := HB.out.2.2.2.2.step
      have j6 : (wr.setRow (N + 1) (cc (S k).c).toArray).heap[N + 1]? = some (candO (S k).c) := setRow_heap _ _ _ _ _ _ HB.out.2.2.1
      have j4 : (wr.setRow (N + 1) (cc (S k).c).toArray).heap[N]? = some (candO noCand) := (setRow_other _ _ _ _ (by omega)).trans HB.out.2.1
      have b3 := below_setRow' HB.out.1 (show N ≤ N + 1 by omega) (cc (S k).c).toArray
      have ca2 := (HL.out.below b3 hb).att hlt
      have HY := hide (And.intro b3 (And.intro j4 (And.intro j6 hsk.c)))
      have HSt := hide hst
      clear hlk hsk hst j6 j4 b3
      rw [Nat.zero_add] at ca ca2 lc
      generalize (S k).att = x at ca ca2 HSt
      generalize (S k).c = e at lc sv ca2 HY HSt
      have hyes : ∀ wz, wz = wr.setRow (N + 1) (cc e).toArray → Latest (hist S (k + 1)).q a true x e → Hid (Below N w wz ∧ wz.heap[N]? = some (candO noCand) ∧ wz.heap[N + 1]? = some (candO e) ∧ Cv e ∧ Latest (hist S (k + 1)).q a true x e) := fun wz hz h => by
        subst hz; exact ⟨HY.out.1, HY.out.2.1, HY.out.2.2.1, HY.out.2.2.2, h⟩
      have hno : Latest (hist S (k + 1)).q a found t d → Hid (Below N w wr ∧ wr.heap[N]? = some (candO noCand) ∧ wr.heap[N + 1]? = some (candO d) ∧ Cv d ∧ Latest (hist S (k + 1)).q a found t d) := fun h => ⟨HB.out.1, HB.out.2.1, HB.out.2.2.1, HB.out.2.2.2.1, h⟩
      have HYes := hide hyes
      have HNo := hide hno
      clear hyes hno
      cases hmd : (hist S k).made (S k) with
      | false =>
        rw [hmd] at cm
        have hl : Latest (hist S (k + 1)).q a found t d := by
          have := HSt.out
          rw [hmd] at this; simpa using this
        have HL2 := hide hl
        clear hl hmd
        go_wp2
        go_roundg (n - (k + 1))
        case measure => omega
        case rel => exact ⟨k + 1, found, t, d, by omega, rfl, rfl, rfl, by go_num, HNo.out HL2.out⟩
      | true =>
        rw [hmd] at cm
        by_cases hxa : x ≤ a
        · have hxa' : decide (x ≤ a) = true := decide_eq_true hxa
          cases found with
          | false =>
            have hl : Latest (hist S (k + 1)).q a true x e := by
              have := HSt.out
              rw [hmd, hxa'] at this; simpa using this
            have HL2 := hide hl
            clear hl hmd
            go_wp2
            go_roundg (n - (k + 1))
            case measure => omega
            case rel => exact ⟨k + 1, true, x, e, by omega, rfl, rfl, rfl, by go_num, HYes.out _ rfl HL2.out⟩
          | true =>
            by_cases htx : t < x
            · have htx' : decide (t < x) = true := decide_eq_true htx
              have hl : Latest (hist S (k + 1)).q a true x e := by
                have := HSt.out
                rw [hmd, hxa', htx'] at this; simpa using this
              have HL2 := hide hl
              clear hl hmd
              go_wp2
              go_roundg (n - (k + 1))
              case measure => omega
              case rel => exact ⟨k + 1, true, x, e, by omega, rfl, rfl, rfl, by go_num, HYes.out _ rfl HL2.out⟩
            · have htx' : decide (t < x) = false := decide_eq_false htx
              have hl : Latest (hist S (k + 1)).q a true t d := by
                have := HSt.out
                rw [hmd, hxa', htx'] at this; simpa using this
              have HL2 := hide hl
              clear hl hmd
              go_wp2
              go_roundg (n - (k + 1))
              case measure => omega
              case rel => exact ⟨k + 1, true, t, d, by omega, rfl, rfl, rfl, by go_num, HNo.out HL2.out⟩
        · have hxa' : decide (x ≤ a) = false := decide_eq_false hxa
          have hl : Latest (hist S (k + 1)).q a found t d := by
            have := HSt.out
            rw [hmd, hxa'] at this; simpa using this
          have HL2 := hide hl
          clear hl hmd
          go_wp2
          go_roundg (n - (k + 1))
          case measure => omega
          case rel => exact ⟨k + 1, found, t, d, by omega, rfl, rfl, rfl, by go_num, HNo.out HL2.out⟩
    · obtain rfl : k = n := by omega
      have hlt' : decide ((k : Int) < (k : Int)) = false := decide_eq_false (by omega)
      have hcv := HB.out.2.2.2.1
      have lc := ldCand hcv HB.out.2.2.1
      have sv := stVar hcv noCand_cv HB.out.2.1
      have hr4 : (wr.setRow N (cc d).toArray).heap[N]? = some (candO d) := setRow_heap _ _ _ _ _ _ HB.out.2.1
      have HX := hide (And.intro (below_setRow' HB.out.1 (Nat.le_refl _) (cc d).toArray) HB.out.2.2.2.2)
      go_wp2
      (try simp only [Exit.inBlock, Exit.then])
      refine bodyPost_ret (results_cell2 rfl _ rfl hcv hr4) rfl ?_
      exact ⟨⟨found, t, d, rfl, HX.out.2, hcv⟩, by rw [← HN.out]; exact HX.out.1⟩
end Go.Proofs.Qxb6603231a
