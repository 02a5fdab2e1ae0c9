import Derived.Test.Qxb6603231aRep
namespace Go.Proofs.Qxb6603231a
open Go Go.RowKit

/-- 'in' (function 31), asked to make. -/
theorem in2 {T H m tb mb qb n : Nat} {B : Int → Option Blk} {A : ASt} {ex : List (Nat × Obj)} {w : World} (h : Tal2 H m tb mb qb n B A ex w) (h1 : T ≤ tb) (h2 : T ≤ mb) (hm : m ≤ 4096) (hn : n < maxLen) (att : Int) (hatt : (Lit.int .i64 att).wf = true) :
    Calls Try.prog 31 #[.pointer (some ⟨tb, 0, none⟩), .int .i64 att, .bool true] w fun e w' => ∃ b B', e = .returned (.pointer (some ⟨b.z, 0, none⟩)) ∧ B' att = some b ∧ Tal2 H m tb mb qb (n + 1) B' A ex w' ∧ Below T w w' := by
  obtain ⟨lv, hc, hl⟩ := h.cells
  obtain ⟨D, hown, hD⟩ := h.map
  have c0 : w.cell? ⟨tb, 0, none⟩ = some (.int .i64 (m : Int)) := by rw [cell_of hc]; rfl
  have c1 : w.cell? ⟨tb, 1, none⟩ = some (.map (some mb)) := by rw [cell_of hc]; rfl
  have c2 : w.cell? ⟨tb, 2, none⟩ = some lv := by rw [cell_of hc]; rfl
  have f2 : w.frozen? ⟨tb, 2, none⟩ = false := frozen_of hc
  have hat := hD att
  have htbH := h.htb
  have hmbH := h.hmb
  have hqbH := h.hqb
  have hH := h.hH
  have bset : ∀ u, Below T w (w.setCell ⟨tb, 2, none⟩ u) := fun u => (Below.refl T w).setCell (p := ⟨tb, 2, none⟩) h1 u
  have hmiss : (∃ b, B att = some b ∧ lv = .pointer (some ⟨b.z, 0, none⟩)) ∨ LastMiss w tb att := by
    rcases hl with rfl | ⟨a, b, hb, rfl⟩
    · exact Or.inr (Or.inl c2)
    · by_cases e : a = att
      · subst e; exact Or.inl ⟨b, hb, rfl⟩
      · exact Or.inr (Or.inr ⟨b.z, a, c2, (h.balls a b hb).att, e⟩)
  rcases hmiss with ⟨b, hb, rfl⟩ | hmiss
  · refine (in_hit tb b.z att true w c2 (h.balls att b hb).att).mono ?_
    rintro e w' ⟨rfl, rfl⟩
    exact ⟨b, B, rfl, hb, h.mono (by omega), Below.refl _ _⟩
  · unfold lookB at hat
    cases hlk : B att with
    | some b =>
      rw [hlk] at hat
      refine (in_found tb mb n b.z att true hatt w D c1 hmiss f2 hown hat).mono ?_
      rintro e w' ⟨rfl, rfl⟩
      exact ⟨b, B, rfl, hlk, (h.setLast hlk).mono (by omega), bset _⟩
    | none =>
      rw [hlk] at hat
      have htb : tb < w.heap.size := Nat.lt_of_lt_of_le h.htb h.hH
      refine (in_make tb mb m n hm att hatt w D htb h.n1 c0 c1 hmiss f2 hown hn hat).mono ?_
      rintro e w' ⟨z, w1, w2, rfl, hbl, hsz, hball, hown2, hturn, rfl⟩
      have hg := hturn.grown
      have hs2 : w.heap.size ≤ w2.heap.size := Nat.le_trans hsz hg.size
      have hb2 : ∀ k, k < w1.heap.size → k ≠ mb → w2.heap[k]? = w1.heap[k]? := fun k hk hne => hg.block k hk (fun e => hne (Option.some.inj e))
      have hw2 : ∀ k, k < w.heap.size → k ≠ mb → w2.heap[k]? = w.heap[k]? := fun k hk hne => (hb2 k (by omega) hne).trans (hbl.block k hk)
      obtain ⟨b, hbz, hbr⟩ := hball.bare (n := n + 1)
      subst hbz
      have hnew : ∀ a b', B a = some b' → ∀ x ∈ b'.all, x < w.heap.size := fun a b' hb' => (h.balls a b' hb').lt
      have hT : Tal2 H m tb mb qb (n + 1) (fun a => if att = a then some b else B a) A ex w2 := by
        refine ⟨h.htb, h.hmb, h.hqb, h.n1, h.n2, h.n3, by omega, ?_, ?_, ?_, ?_, ?_, h.qcv, ?_, ?_⟩
        · refine ⟨lv, (hw2 tb htb h.n1).trans hc, ?_⟩
          rcases hl with e | ⟨a, b', hb', e⟩
          · exact Or.inl e
          · refine Or.inr ⟨a, b', ?_, e⟩
            have : att ≠ a := fun e => by rw [← e, hlk] at hb'; cases hb'
            simp [this, hb']
        · refine ⟨_, hown2, fun a => ?_⟩
          unfold lookB
          by_cases ea : att = a
          · subst ea
            rw [Maps.atKey_put_same hown.isMap (show WideAt.IsKeyLit (.int .i64 att) from trivial)]
            simp
          · rw [Maps.atKey_put_other (by simpa using Ne.symm ea), hD a]
            simp [ea, lookB]
        · intro a b' hb'
          by_cases ea : att = a
          · subst ea
            simp only [if_true, Option.some.injEq] at hb'
            subst hb'
            rw [h.bare att hlk]
            have hbr' : BallR H m (n + 1) BA.bare att w1 b := ⟨fun x hx => Nat.le_trans hH (hbr.ge x hx), hbr.nd, hbr.cell, hbr.cast, hbr.forks, hbr.inn, hbr.wt⟩
            refine hbr'.keep (Nat.le_refl _) fun x hx => hb2 x (hbr.lt x hx) fun e => ?_
            have := hbr.ge x hx
            omega
          · simp only [ea, if_false] at hb'
            have hB := h.balls a b' hb'
            refine hB.keep (Nat.le_succ _) fun x hx => hw2 x (hB.lt x hx) fun e => ?_
            have := hB.ge x hx
            omega
        · intro a a' b1 b2 hb1 hb2' hne x hx hx'
          by_cases ea : att = a
          · subst ea
            simp only [if_true, Option.some.injEq] at hb1
            subst hb1
            simp only [hne, if_false] at hb2'
            have := hnew a' b2 hb2' x hx'
            have := hbr.ge x hx
            omega
          · simp only [ea, if_false] at hb1
            by_cases ea' : att = a'
            · subst ea'
              simp only [if_true, Option.some.injEq] at hb2'
              subst hb2'
              have := hnew a b1 hb1 x hx
              have := hbr.ge x hx'
              omega
            · simp only [ea', if_false] at hb2'
              exact h.apart a a' b1 b2 hb1 hb2' hne x hx hx'
        · obtain ⟨f, cnt, g1, g2⟩ := h.quorum
          exact ⟨f, cnt, (g1.mono (Nat.le_succ _)).keep (hw2 qb (by omega) (Ne.symm h.n3)), g2⟩
        · intro a ha
          by_cases ea : att = a
          · simp [ea] at ha
          · simp only [ea, if_false] at ha; exact h.bare a ha
        · intro p hp
          obtain ⟨e1, e2, e3⟩ := h.extra p hp
          have hlt := lt_of_heap e2
          refine ⟨e1, (hw2 _ hlt (by omega)).trans e2, fun a b' hb' hx => ?_⟩
          by_cases ea : att = a
          · subst ea
            simp only [if_true, Option.some.injEq] at hb'
            subst hb'
            have := hbr.ge _ hx
            omega
          · simp only [ea, if_false] at hb'
            exact e3 a b' hb' hx
      refine ⟨b, fun a => if att = a then some b else B a, rfl, by simp, hT.setLast (a := att) (by simp), ?_⟩
      have b1 : Below T w w1 := hbl.mono (by omega)
      have b2 : Below T w w2 := b1.grown hg (by omega) (fun k hk => by cases hk; exact h2)
      exact b2.setCell (p := ⟨tb, 2, none⟩) h1 _

theorem zero4 (w : World) : (zeroValue 4).run Try.prog w = .ok (.bool false) w := by kernel_rfl
theorem keyed77 : Maps.Keyed Try.prog 77 := Maps.Keyed.of_law law77
theorem keyed79 : Maps.Keyed Try.prog 79 := Maps.Keyed.of_law law79
theorem keyed28 : Maps.Keyed Try.prog 28 := Maps.Keyed.of_law law28
theorem getD_ite (c : Bool) : ((if c then some (Value.bool true) else none).getD (.bool false)) = .bool c := by cases c <;> rfl

/-- 'has' (function 32). -/
theorem has2 {H m n : Nat} {X : BA} {att : Int} {w : World} {b : Blk} (h : BallR H m n X att w b) (mem : Nat) (hmem : mem < m) (hm : m ≤ 4096) (br : Int) (hbr : (Lit.int .i64 br).wf = true) :
    Calls Try.prog 32 #[.pointer (some ⟨b.z, 0, none⟩), .int .i64 (mem : Int), .int .i64 br] w fun e w' => e = .returned (.bool (X.cast mem br)) ∧ w = w' := by
  have c1 : w.cell? ⟨b.z, 1, none⟩ = some (.slice (some ⟨b.x5, 0, none⟩) m m) := by rw [cell_of h.cell]; rfl
  have c2 : w.cell? ⟨b.z, 2, none⟩ = some (.map (some b.x6)) := by rw [cell_of h.cell]; rfl
  have hmi : (mem : Int) < (m : Int) := by omega
  by_cases e : br = 0
  · subst e
    obtain ⟨cs, g1, g2, g3⟩ := h.cast
    have c3 : w.cell? ⟨b.x5, mem, none⟩ = some (.bool (X.cast mem 0)) := by rw [cell_of g1]; exact g3 mem hmem
    clear h g1 g2 g3 hbr
    go_enter Try.func32, Try.ntmps32
    go_wp2
    go_ret
    exact ⟨rfl, rfl⟩
  · obtain ⟨f, cnt, g1, g2⟩ := h.forks
    obtain ⟨l, hl⟩ := key77 (m := (mem : Int)) (b := br) (WalkArith.wf_i64 (by omega)) hbr
    have r := g1.look keyed77 Try.underlying69 (zero4 w) hl
    rw [g2 mem br e, getD_ite] at r
    unfold pairV at r
    have e' : (br == 0) = false := by simpa using e
    clear h g1 g2 hbr hl
    go_enter Try.func32, Try.ntmps32
    go_wp2
    go_ret
    exact ⟨rfl, rfl⟩

/-- 'quorum' (function 33). -/
theorem quorum2 (x y : Int) (hx : -576460752303423488 ≤ x ∧ x ≤ 576460752303423488) (hy : -576460752303423488 ≤ y ∧ y ≤ 576460752303423488) (w : World) : Calls Try.prog 33 #[.int .i64 x, .int .i64 y] w fun e w' => e = .returned (.bool (decide (y * 2 < x * 3))) ∧ w = w' := by
  go_enter Try.func33, Try.ntmps33
  go_wp2
  go_ret
  refine ⟨?_, rfl⟩
  have e : decide (y * 2 < x * 3) = decide (2 * y < 3 * x) := by
    rw [decide_eq_decide]; omega
  rw [e]; rfl
end Go.Proofs.Qxb6603231a
