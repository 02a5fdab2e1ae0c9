import Derived.Test.Qxb6603231aRead
namespace Go.Proofs.Qxb6603231a
open Go Go.RowKit
attribute [local go_sem ↓] to_ld28 to_st28 to_al28 to_bx28

theorem Latest.add {q q' : Int → Option (List Int)} {x : Int} {d : List Int} {a : Int} {f : Bool} {t : Int} {c : List Int} (h : Latest q a f t c) (hq : ∀ b, q' b = if x = b then some d else q b) (hx : q x = none) :
    if decide (x ≤ a) && (!f || decide (t < x)) then Latest q' a true x d else Latest q' a f t c := by
  by_cases ha : x ≤ a
  · rw [decide_eq_true ha, Bool.true_and]
    rcases h with ⟨rfl, h1, rfl⟩ | ⟨rfl, h1, h2, h3⟩
    · simp only [Bool.not_false, Bool.true_or, if_true]
      refine Or.inr ⟨rfl, ha, by rw [hq]; simp, fun b hb hlt => ?_⟩
      rw [hq, if_neg (by omega)]; exact h1 b hb
    · simp only [Bool.not_true, Bool.false_or]
      by_cases hlt : t < x
      · rw [if_pos (decide_eq_true hlt)]
        refine Or.inr ⟨rfl, ha, by rw [hq]; simp, fun b hb hlt2 => ?_⟩
        rw [hq, if_neg (by omega)]; exact h3 b hb (by omega)
      · rw [if_neg (by simpa using hlt)]
        have hne : x ≠ t := fun e => by rw [e, h2] at hx; cases hx
        refine Or.inr ⟨rfl, h1, by rw [hq, if_neg hne]; exact h2, fun b hb hlt2 => ?_⟩
        rw [hq, if_neg (by omega)]; exact h3 b hb hlt2
  · rw [decide_eq_false ha, Bool.false_and, if_neg (by simp)]
    rcases h with ⟨rfl, h1, rfl⟩ | ⟨rfl, h1, h2, h3⟩
    · refine Or.inl ⟨rfl, fun b hb => ?_, rfl⟩
      rw [hq, if_neg (by omega)]; exact h1 b hb
    · refine Or.inr ⟨rfl, h1, by rw [hq, if_neg (by omega)]; exact h2, fun b hb hlt2 => ?_⟩
      rw [hq, if_neg (by omega)]; exact h3 b hb hlt2

/-- What has come up. -/
def vis (left : Lit → Bool) (q : Int → Option (List Int)) : Int → Option (List Int) := fun a => if left (.int .i64 a) then none else q a
theorem vis_step {left : Lit → Bool} {q : Int → Option (List Int)} {x : Int} {d : List Int} (hq : q x = some d) (b : Int) : vis (fun z => left z && !z.sameKey (.int .i64 x)) q b = if x = b then some d else vis left q b := by
  unfold vis
  by_cases e : x = b
  · subst e
    have := WideAt.sameKey_self (show WideAt.IsKeyLit (.int .i64 x) from trivial)
    simp [this, hq]
  · have : (Lit.int .i64 b).sameKey (.int .i64 x) = false := by
      cases hs : (Lit.int .i64 b).sameKey (.int .i64 x) with
      | false => rfl
      | true => have := WideAt.sameKey_eq hs; simp at this; exact absurd this.symm e
    simp [this, e]
theorem below_setRow' {S b : Nat} {w w' : World} (h : Below S w w') (hb : S ≤ b) (cs : Array Value) : Below S w (w'.setRow b cs) :=
  h.trans ⟨rfl, rfl, rfl, by simp [World.setRow], fun k hk => setRow_other _ _ _ _ (by omega)⟩
theorem grown_setRow (w : World) (b : Nat) (cs : Array Value) : w.grownBy (w.setRow b cs) (some b) :=
  ⟨rfl, rfl, rfl, by simp [World.setRow], fun k _ hk => setRow_other _ _ _ _ (fun e => hk (by rw [e]))⟩

set_option maxRecDepth 100000 in
set_option maxHeartbeats 4000000 in
/-- 'latest' (function 30). -/
theorem latest2 {H m tb mb qb n : Nat} {B : Int → Option Blk} {A : ASt} {ex : List (Nat × Obj)} {w : World} (h : Tal2 H m tb mb qb n B A ex w) (hwf : ∀ b d, A.q b = some d → (Lit.int .i64 b).wf = true) (a : Int) :
    Calls Try.prog 30 #[.pointer (some ⟨tb, 0, none⟩), .int .i64 a] w fun e w' => (∃ found t c, e = .returned (.tuple #[candV c, .bool found]) ∧ Latest A.q a found t c ∧ Cv c) ∧ Below w.heap.size w w' := by
  obtain ⟨fq, cntq, ⟨D, ho, hsays, hsz⟩, hfq⟩ := h.quorum
  have hqcv := h.qcv
  have HWf := hide hwf
  clear hwf
  have c3 := ((h.alloc (candO noCand)).alloc (candO noCand)).cell3
  have ho2 := (ho.alloc (candO noCand)).alloc (candO noCand)
  have hal := al28_is
  have e4 : ((w.alloc (candO noCand)).alloc (candO noCand)).heap[w.heap.size]? = some (candO noCand) := by
    rw [Below.heap_alloc _ _ _ (by simp)]; exact (MapKept.heap_alloc w _).1
  have e6 : ((w.alloc (candO noCand)).alloc (candO noCand)).heap[w.heap.size + 1]? = some (candO noCand) := by
    have := (MapKept.heap_alloc (w.alloc (candO noCand)) (candO noCand)).1
    rw [World.size_alloc] at this; exact this
  have es : ((w.alloc (candO noCand)).alloc (candO noCand)).heap.size = w.heap.size + 2 := by simp
  have V := ((Below.refl w.heap.size w).alloc (Nat.le_refl _) (candO noCand)).alloc (by simp) (candO noCand)
  have hqlt := ho.lt
  have HO := hide ho2
  have HE := hide (And.intro e4 (And.intro e6 (And.intro es V)))
  have HSay := hide hsays
  have HF := hide hfq
  have HQ := hide hqcv
  have HL := hide hqlt
  clear h ho ho2 hsays hfq hqcv e4 e6 es V hqlt
  go_enter Try.func30, Try.ntmps30
  go_upto_region 3 with fail
  generalize (w.alloc (candO noCand)).alloc (candO noCand) = w2 at *
  obtain ⟨S, hS⟩ : ∃ S, S = w.heap.size := ⟨_, rfl⟩
  rw [← hS] at HE HL ⊢
  have es := HE.out.2.2.1
  have HS := hide hS
  clear hS
  go_wp2_with (first
    | (at_range; refine wpList_range_own _ rfl _ 54 rfl 2 28 keyed2 Try.underlying54 anyR qb n D rfl HO.out ?_; intro w0 hrg0 hg0 hs0)
    | go_in)
  go_frame
  rw [es] at hrg0 hs0 ⊢
  have be0 : Below S w w0 := HE.out.2.2.2.grown hg0 (by omega) (fun k hk => by cases hk)
  have h40 : w0.heap[S]? = some (candO noCand) := (hg0.block _ (by omega) (by simp)).trans HE.out.1
  have h60 : w0.heap[S + 1]? = some (candO noCand) := (hg0.block _ (by omega) (by simp)).trans HE.out.2.1
  have hv0 : Latest (vis (Maps.has D) A.q) a false 0 noCand := by
    refine Or.inl ⟨rfl, fun b _ => ?_, rfl⟩
    unfold vis
    by_cases hb : Maps.has D (.int .i64 b) = true
    · rw [if_pos hb]
    · rw [if_neg hb]
      cases hq : A.q b with
      | none => rfl
      | some d =>
        have h1 := HF.out b
        rw [hq] at h1
        by_cases hwf : (Lit.int .i64 b).wf = true
        · rcases HSay.out (.int .i64 b) (.int .i64 b) (Maps.keyOf_int_mk Try.underlying2 hwf) with ⟨h2, _⟩ | ⟨u, _, h3, _⟩
          · rw [h2] at h1; cases h1
          · exact absurd h3 hb
        · exact absurd (HWf.out b d hq) hwf
  have HR0 := hide (And.intro hrg0 (And.intro be0 (And.intro h40 (And.intro h60 (And.intro noCand_cv hv0)))))
  clear hrg0 hg0 hs0 be0 h40 h60 hv0 HE HO c3 es
  go_loopw [7, 8] (fun t7 t8 wr => ∃ (left : Lit → Bool) (cnt : Nat) (found : Bool) (t : Int) (c : List Int), t7 = .bool found ∧ t8 = .int .i64 t ∧ Hid (wr.ranges Try.prog 2 anyR qb (S + 2) n D left cnt ∧ Below S w wr ∧ wr.heap[S]? = some (candO noCand) ∧ wr.heap[S + 1]? = some (candO c) ∧ Cv c ∧ Latest (vis left A.q) a found t c)) (fun _ _ wr => wr.rangeLeft qb (S + 2))
  case atStart => exact ⟨_, _, false, 0, noCand, rfl, rfl, HR0⟩
  case round =>
    clear HR0
    obtain ⟨left, cnt, found, t, c, rfl, rfl, HR⟩ := hrel
    have hrg := HR.out.1
    go_wp2_with (first
      | (at_next; refine wpList_next_ranges _ rfl _ rfl 2 keyed2 anyR (Value.int .i64) (fun v : Value => v) (fun key kl hkey => by obtain ⟨x, rfl, _⟩ := Maps.keyOf_int_inv Try.underlying2 hkey; exact ⟨x, rfl⟩) (fun v y _ => ⟨v, rfl⟩) qb (S + 2) n D left cnt rfl hrg ?_ ?_)
      | go_in)
    · intro _ hl0
      have hcv := HR.out.2.2.2.2.1
      have lc := ldCand hcv HR.out.2.2.2.1
      have sv := stVar hcv noCand_cv HR.out.2.2.1
      have hvis : vis left A.q = A.q := by
        funext b; unfold vis; rw [hl0]; rfl
      have hlat := HR.out.2.2.2.2.2
      rw [hvis] at hlat
      have hr4 : (wr.setRow S (cc c).toArray).heap[S]? = some (candO c) := setRow_heap _ _ _ _ _ _ HR.out.2.2.1
      have HB := hide (below_setRow' HR.out.2.1 (Nat.le_refl _) (cc c).toArray)
      have HLa := hide hlat
      clear hvis hlat
      go_wp2
      (try simp only [Exit.inBlock, Exit.then])
      refine bodyPost_ret (results_cell2 rfl _ rfl hcv hr4) rfl ?_
      exact ⟨⟨found, t, c, rfl, HLa.out, hcv⟩, by rw [← HS.out]; exact HB.out⟩
    · intro x v kl y ps w1 cnt1 hkey hlk hv hat hrg1 hlt hg1 hs1 hen
      obtain ⟨x', ex, rfl, hwx⟩ := Maps.keyOf_int_inv Try.underlying2 hkey
      cases ex
      have hd : ∃ d, A.q x = some d ∧ v = candV d := by
        simp only [anyR, Option.some.injEq, Prod.mk.injEq] at hv
        obtain ⟨rfl, rfl⟩ := hv
        rcases HSay.out (.int .i64 x) (.int .i64 x) hkey with ⟨_, _, h3⟩ | ⟨u, h1, _, h3⟩
        · have e1 := hat (.lit (.bool true))
          rw [h3] at e1; cases e1
        · have e1 := hat (.lit (.bool true))
          rw [h3] at e1
          simp only [DataW.held.injEq] at e1
          subst e1
          have h4 := HF.out x
          rw [h1] at h4
          cases hq : A.q x with
          | none => rw [hq] at h4; cases h4
          | some d =>
            rw [hq] at h4
            simp only [Option.map_some, Option.some.injEq] at h4
            exact ⟨d, rfl, h4⟩
      obtain ⟨d, hqd, rfl⟩ := hd
      have hdc := HQ.out x d hqd
      have hsn := stNew hdc
      have hszr : S + 2 < wr.heap.size := hrg.lt
      have lt1 : S + 2 < w1.heap.size := by omega
      have l10 := ldCand hdc (MapKept.heap_alloc w1 (candO d)).1
      have b1 : Below S w w1 := HR.out.2.1.grown hg1 (by omega) (fun k hk => by cases hk; omega)
      have g4 : w1.heap[S]? = some (candO noCand) := (hg1.block _ (by omega) (by simp)).trans HR.out.2.2.1
      have g6 : w1.heap[S + 1]? = some (candO c) := (hg1.block _ (by omega) (by simp)).trans HR.out.2.2.2.1
      have k6 : (w1.alloc (candO d)).heap[S + 1]? = some (candO c) := (Below.heap_alloc _ _ _ (by omega)).trans g6
      have k4 : (w1.alloc (candO d)).heap[S]? = some (candO noCand) := (Below.heap_alloc _ _ _ (by omega)).trans g4
      have hcv := HR.out.2.2.2.2.1
      have sv := stVar hdc hcv k6
      have b2 := b1.alloc (by omega) (candO d)
      have b3 := below_setRow' b2 (show S ≤ S + 1 by omega) (cc d).toArray
      have j6 : ((w1.alloc (candO d)).setRow (S + 1) (cc d).toArray).heap[S + 1]? = some (candO d) := setRow_heap _ _ _ _ _ _ k6
      have j4 : ((w1.alloc (candO d)).setRow (S + 1) (cc d).toArray).heap[S]? = some (candO noCand) := (setRow_other _ _ _ _ (by omega)).trans k4
      have rg2 := hrg1.alloc (candO d)
      have rg3 := rg2.kept (grown_setRow (w1.alloc (candO d)) (S + 1) (cc d).toArray) (by have := HL.out; simp; omega) (by simp)
      have hstep := HR.out.2.2.2.2.2.add (q' := vis (fun z => left z && !z.sameKey (.int .i64 x)) A.q) (x := x) (d := d) (fun b => vis_step hqd b) (by unfold vis; rw [if_pos hlk])
      have HY := hide (And.intro rg3 (And.intro b3 (And.intro j4 (And.intro j6 hdc))))
      have HNo := hide (And.intro rg2 (And.intro b2 (And.intro k4 (And.intro k6 hcv))))
      have HSt := hide hstep
      have hle := hrg.left_eq
      have HM := hide (And.intro hle hlt)
      clear hrg rg2 rg3 b1 b2 b3 g4 g6 k6 k4 j6 j4 hstep hrg1 hat hv hlk hkey hg1 hle hqd hwx hs1 hszr lt1
      have hfin : ∀ (f' : Bool) (t' : Int) (c' : List Int) (wz : World), (wz.ranges Try.prog 2 anyR qb (S + 2) n D (fun z => left z && !z.sameKey (.int .i64 x)) cnt1 ∧ Below S w wz ∧ wz.heap[S]? = some (candO noCand) ∧ wz.heap[S + 1]? = some (candO c') ∧ Cv c') → Latest (vis (fun z => left z && !z.sameKey (.int .i64 x)) A.q) a f' t' c' →
          Hid (wz.ranges Try.prog 2 anyR qb (S + 2) n D (fun z => left z && !z.sameKey (.int .i64 x)) cnt1 ∧ Below S w wz ∧ wz.heap[S]? = some (candO noCand) ∧ wz.heap[S + 1]? = some (candO c') ∧ Cv c' ∧ Latest (vis (fun z => left z && !z.sameKey (.int .i64 x)) A.q) a f' t' c') :=
        fun f' t' c' wz h1 h2 => ⟨h1.1, h1.2.1, h1.2.2.1, h1.2.2.2.1, h1.2.2.2.2, h2⟩
      have HFin := hide hfin
      clear hfin hcv hdc
      by_cases hxa : x ≤ a
      · have hxa' : decide (x ≤ a) = true := decide_eq_true hxa
        cases found with
        | false =>
          have hl : Latest (vis (fun z => left z && !z.sameKey (.int .i64 x)) A.q) a true x d := by
            have := HSt.out
            rw [hxa'] at this; simpa using this
          have HL2 := hide hl
          clear hl
          go_wp2
          go_roundw
          case rel => exact ⟨_, cnt1, true, x, d, rfl, rfl, HFin.out _ _ _ _ HY.out HL2.out⟩
          case measure => rw [HY.out.1.left_eq, HM.out.1]; exact HM.out.2
        | true =>
          by_cases htx : t < x
          · have htx' : decide (t < x) = true := decide_eq_true htx
            have hl : Latest (vis (fun z => left z && !z.sameKey (.int .i64 x)) A.q) a true x d := by
              have := HSt.out
              rw [hxa', htx'] at this; simpa using this
            have HL2 := hide hl
            clear hl
            go_wp2
            go_roundw
            case rel => exact ⟨_, cnt1, true, x, d, rfl, rfl, HFin.out _ _ _ _ HY.out HL2.out⟩
            case measure => rw [HY.out.1.left_eq, HM.out.1]; exact HM.out.2
          · have htx' : decide (t < x) = false := decide_eq_false htx
            have hl : Latest (vis (fun z => left z && !z.sameKey (.int .i64 x)) A.q) a true t c := by
              have := HSt.out
              rw [hxa', htx'] at this; simpa using this
            have HL2 := hide hl
            clear hl
            go_wp2
            go_roundw
            case rel => exact ⟨_, cnt1, true, t, c, rfl, rfl, HFin.out _ _ _ _ HNo.out HL2.out⟩
            case measure => rw [HNo.out.1.left_eq, HM.out.1]; exact HM.out.2
      · have hxa' : decide (x ≤ a) = false := decide_eq_false hxa
        have hl : Latest (vis (fun z => left z && !z.sameKey (.int .i64 x)) A.q) a found t c := by
          have := HSt.out
          rw [hxa'] at this; simpa using this
        have HL2 := hide hl
        clear hl
        go_wp2
        go_roundw
        case rel => exact ⟨_, cnt1, found, t, c, rfl, rfl, HFin.out _ _ _ _ HNo.out HL2.out⟩
        case measure => rw [HNo.out.1.left_eq, HM.out.1]; exact HM.out.2

/-- ZZLatest (function 13). -/
theorem zzlatest2 {H m tb mb qb n : Nat} {B : Int → Option Blk} {A : ASt} {ex : List (Nat × Obj)} {w : World} (h : Tal2 H m tb mb qb n B A ex w) (hwf : ∀ b d, A.q b = some d → (Lit.int .i64 b).wf = true) (a : Int) :
    Calls Try.prog 13 #[.pointer (some ⟨tb, 0, none⟩), .int .i64 a] w fun e w' => (∃ found t c, e = .returned (.tuple #[candV c, .bool found]) ∧ Latest A.q a found t c ∧ Cv c) ∧ Below w.heap.size w w' := by
  have hl := latest2 (h.alloc (candO noCand)) hwf a
  have hal := al28_is
  clear h hwf
  go_enter Try.func13, Try.ntmps13
  go_wp2_with fail
  refine hl.mono ?_
  rintro e w1 ⟨⟨found, t, c, rfl, hlat, hcv⟩, hb⟩
  rw [World.size_alloc] at hb
  have k4 : w1.heap[w.heap.size]? = some (candO noCand) := (hb.block _ (by omega)).trans (MapKept.heap_alloc w _).1
  have sv := stVar hcv noCand_cv k4
  have j4 : (w1.setRow w.heap.size (cc c).toArray).heap[w.heap.size]? = some (candO c) := setRow_heap _ _ _ _ _ _ k4
  have HB := hide (below_setRow' (((Below.refl w.heap.size w).alloc (Nat.le_refl _) (candO noCand)).trans (hb.mono (by omega))) (Nat.le_refl _) (cc c).toArray)
  have HLa := hide hlat
  clear hl hlat hb k4
  go_wp2
  (try simp only [Exit.inBlock, Exit.then])
  refine bodyPost_ret (results_cell2 rfl _ rfl hcv j4) rfl ?_
  exact ⟨⟨found, t, c, rfl, HLa.out, hcv⟩, HB.out⟩
end Go.Proofs.Qxb6603231a
