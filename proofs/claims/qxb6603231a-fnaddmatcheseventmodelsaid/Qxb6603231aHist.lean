import Derived.Test.Qxb6603231aStep
namespace Go.Proofs.Qxb6603231a
open Go Go.RowKit

/-! ### The history: what the calls of add up to now have left (no Go in sight) -/
/-- An attempt's ballots. -/
structure BA where
  cast : Int → Int → Bool
  inn : Int → List Int → Bool
  wt : List Int → Option Int
  kinds : Nat
def BA.bare : BA := ⟨fun _ _ => false, fun _ _ => false, fun _ => none, 0⟩
def BA.doCast (X : BA) (m b : Int) : BA := { X with cast := fun m' b' => X.cast m' b' || (decide (m = m') && decide (b = b')) }
def BA.doIn (X : BA) (m : Int) (c : List Int) : BA := { X with inn := fun m' c' => X.inn m' c' || (decide (m = m') && decide (c = c')) }
def BA.sum (X : BA) (c : List Int) (v : Int) : Int := (X.wt c).getD 0 + v
def BA.doWt (X : BA) (c : List Int) (v : Int) : BA := { X with wt := fun c' => if c = c' then some (X.sum c v) else X.wt c', kinds := if (X.wt c).isSome then X.kinds else X.kinds + 1 }
def BA.counted (X : BA) (s : Step) : Bool := !X.cast s.mem s.br
def BA.added (X : BA) (s : Step) : Bool := X.counted s && !X.inn s.mem s.c
def BA.fresh (X : BA) (s : Step) : Bool := X.added s && !(X.wt s.c).isSome
def BA.next (X : BA) (s : Step) : BA := if X.cast s.mem s.br then X else if X.inn s.mem s.c then X.doCast s.mem s.br else ((X.doCast s.mem s.br).doIn s.mem s.c).doWt s.c s.wt
/-- The tally. -/
structure ASt where
  of : Int → BA
  q : Int → Option (List Int)
def ASt.bare : ASt := ⟨fun _ => .bare, fun _ => none⟩
def ASt.put (A : ASt) (a : Int) (X : BA) : ASt := { A with of := fun a' => if a = a' then X else A.of a' }
def ASt.setQ (A : ASt) (a : Int) (c : List Int) : ASt := { A with q := fun a' => if a = a' then some c else A.q a' }
def ASt.counted (A : ASt) (s : Step) : Bool := (A.of s.att).counted s
def ASt.added (A : ASt) (s : Step) : Bool := (A.of s.att).added s
def ASt.fresh (A : ASt) (s : Step) : Bool := (A.of s.att).fresh s
def ASt.weigh (A : ASt) (s : Step) : Int := (A.of s.att).sum s.c (if A.added s then s.wt else 0)
def ASt.made (A : ASt) (s : Step) : Bool := A.added s && !(A.q s.att).isSome && decide (s.tot * 2 < A.weigh s * 3)
def ASt.kindsAt (A : ASt) (s : Step) : Nat := (A.of s.att).kinds + if A.fresh s then 1 else 0
def ASt.next (A : ASt) (s : Step) : ASt := if A.made s then (A.put s.att ((A.of s.att).next s)).setQ s.att s.c else A.put s.att ((A.of s.att).next s)
/-- After k calls. -/
def hist (S : Nat → Step) : Nat → ASt
  | 0 => .bare
  | k + 1 => (hist S k).next (S k)

theorem ASt.next_of (A : ASt) (s : Step) (a : Int) : (A.next s).of a = if s.att = a then (A.of a).next s else A.of a := by
  unfold ASt.next
  by_cases e : s.att = a
  · subst e; split <;> simp [ASt.put, ASt.setQ]
  · split <;> simp [ASt.put, ASt.setQ, e]
theorem ASt.next_q (A : ASt) (s : Step) (a : Int) : (A.next s).q a = if A.made s && decide (s.att = a) then some s.c else A.q a := by
  unfold ASt.next
  cases A.made s with
  | false => simp [ASt.put]
  | true => simp [ASt.put, ASt.setQ]

theorem BA.next_cast (X : BA) (s : Step) (m b : Int) : (X.next s).cast m b = (X.cast m b || (decide (s.mem = m) && decide (s.br = b))) := by
  unfold BA.next
  split
  · rename_i h
    by_cases e : s.mem = m ∧ s.br = b
    · obtain ⟨rfl, rfl⟩ := e; simp [h]
    · have : (decide (s.mem = m) && decide (s.br = b)) = false := by
        rw [Bool.and_eq_false_iff]; simp only [decide_eq_false_iff_not]; omega
      rw [this, Bool.or_false]
  · split <;> rfl
theorem BA.next_inn (X : BA) (s : Step) (m : Int) (c : List Int) : (X.next s).inn m c = (X.inn m c || (X.counted s && decide (s.mem = m) && decide (s.c = c))) := by
  unfold BA.next BA.counted
  split
  · rename_i h; simp [h]
  · rename_i h
    split
    · rename_i h2
      show X.inn m c = _
      by_cases e : s.mem = m ∧ s.c = c
      · obtain ⟨rfl, rfl⟩ := e; simp [h2]
      · have : (decide (s.mem = m) && decide (s.c = c)) = false := by
          rw [Bool.and_eq_false_iff]; simp only [decide_eq_false_iff_not]
          by_cases e1 : s.mem = m
          · exact Or.inr fun e2 => e ⟨e1, e2⟩
          · exact Or.inl e1
        rw [Bool.and_assoc, this, Bool.and_false, Bool.or_false]
    · have h' : X.cast s.mem s.br = false := by simpa using h
      rw [h']
      simp [BA.doWt, BA.doIn, BA.doCast]
theorem BA.next_wt (X : BA) (s : Step) (c : List Int) : (X.next s).wt c = if X.added s && decide (s.c = c) then some ((X.wt c).getD 0 + s.wt) else X.wt c := by
  unfold BA.next BA.added BA.counted
  split
  · rename_i h; simp [h]
  · rename_i h
    split
    · rename_i h2; simp [h2, BA.doCast]
    · rename_i h2
      have h' : X.cast s.mem s.br = false := by simpa using h
      have h2' : X.inn s.mem s.c = false := by simpa using h2
      by_cases e : s.c = c
      · subst e; simp [h', h2', BA.doWt, BA.doIn, BA.doCast, BA.sum]
      · simp [h', h2', e, BA.doWt, BA.doIn, BA.doCast]
theorem BA.next_kinds (X : BA) (s : Step) : (X.next s).kinds = X.kinds + if X.fresh s then 1 else 0 := by
  unfold BA.next BA.fresh BA.added BA.counted
  split
  · rename_i h; simp [h]
  · rename_i h
    split
    · rename_i h2; simp [h2, BA.doCast]
    · rename_i h2
      have h' : X.cast s.mem s.br = false := by simpa using h
      have h2' : X.inn s.mem s.c = false := by simpa using h2
      cases hw : (X.wt s.c).isSome <;> simp [h', h2', BA.doWt, BA.doIn, BA.doCast, hw]

/-! What the model's three inner loops go by. -/
theorem cast_step (S : Nat → Step) (j : Nat) (a m b : Int) : ((hist S (j + 1)).of a).cast m b = (((hist S j).of a).cast m b || (decide ((S j).att = a) && decide ((S j).mem = m) && decide ((S j).br = b))) := by
  rw [hist, ASt.next_of]
  by_cases e : (S j).att = a
  · rw [if_pos e, BA.next_cast]; simp [e]
  · rw [if_neg e]; simp [e]
theorem inn_step (S : Nat → Step) (j : Nat) (a m : Int) (c : List Int) : ((hist S (j + 1)).of a).inn m c = (((hist S j).of a).inn m c || ((hist S j).counted (S j) && decide ((S j).att = a) && decide ((S j).mem = m) && decide ((S j).c = c))) := by
  rw [hist, ASt.next_of]
  by_cases e : (S j).att = a
  · subst e; rw [if_pos rfl, BA.next_inn]; simp [ASt.counted]
  · rw [if_neg e]; simp [e]
theorem wt_step (S : Nat → Step) (j : Nat) (a : Int) (c : List Int) : ((hist S (j + 1)).of a).wt c = if (hist S j).added (S j) && decide ((S j).att = a) && decide ((S j).c = c) then some ((((hist S j).of a).wt c).getD 0 + (S j).wt) else ((hist S j).of a).wt c := by
  rw [hist, ASt.next_of]
  by_cases e : (S j).att = a
  · subst e; rw [if_pos rfl, BA.next_wt]; simp [ASt.added]
  · rw [if_neg e]; simp [e]
theorem kinds_step (S : Nat → Step) (j : Nat) (a : Int) : ((hist S (j + 1)).of a).kinds = ((hist S j).of a).kinds + if (hist S j).fresh (S j) && decide ((S j).att = a) then 1 else 0 := by
  rw [hist, ASt.next_of]
  by_cases e : (S j).att = a
  · subst e; rw [if_pos rfl, BA.next_kinds]; simp [ASt.fresh]
  · rw [if_neg e]; simp [e]
theorem q_step (S : Nat → Step) (j : Nat) (a : Int) : (hist S (j + 1)).q a = if (hist S j).made (S j) && decide ((S j).att = a) then some (S j).c else (hist S j).q a := by
  rw [hist, ASt.next_q]

/-- The weights stay small. -/
theorem wt_bound (S : Nat → Step) (k : Nat) (h : ∀ i, i < k → -70368744177664 ≤ (S i).wt ∧ (S i).wt ≤ 70368744177664) (a : Int) (c : List Int) :
    -(70368744177664 * (k : Int)) ≤ (((hist S k).of a).wt c).getD 0 ∧ (((hist S k).of a).wt c).getD 0 ≤ 70368744177664 * (k : Int) := by
  induction k with
  | zero => simp [hist, ASt.bare, BA.bare]
  | succ k ih =>
    have h1 := ih (fun i hi => h i (by omega))
    have h2 := h k (by omega)
    rw [wt_step]
    split
    · simp only [Option.getD_some]; omega
    · omega
theorem kinds_bound (S : Nat → Step) (k : Nat) (a : Int) : ((hist S k).of a).kinds ≤ k := by
  induction k with
  | zero => simp [hist, ASt.bare, BA.bare]
  | succ k ih =>
    rw [kinds_step]
    split <;> omega
theorem q_cv (S : Nat → Step) (k : Nat) (h : ∀ i, i < k → Cv (S i).c) (a : Int) (c : List Int) (hq : (hist S k).q a = some c) : Cv c := by
  induction k with
  | zero => simp [hist, ASt.bare] at hq
  | succ k ih =>
    rw [q_step] at hq
    split at hq
    · cases hq; exact h k (by omega)
    · exact ih (fun i hi => h i (by omega)) hq

/-! The latest quorum up to an attempt. -/
/-- (found, c) is the answer for q at a; at is where it was found. -/
def Latest (q : Int → Option (List Int)) (a : Int) (found : Bool) (at_ : Int) (c : List Int) : Prop :=
  (found = false ∧ (∀ b, b ≤ a → q b = none) ∧ c = List.replicate 32 0) ∨ (found = true ∧ at_ ≤ a ∧ q at_ = some c ∧ ∀ b, b ≤ a → at_ < b → q b = none)
theorem Latest.same {q : Int → Option (List Int)} {a : Int} {f f' : Bool} {t t' : Int} {c c' : List Int} (h : Latest q a f t c) (h' : Latest q a f' t' c') : f = f' ∧ c = c' := by
  rcases h with ⟨rfl, h1, rfl⟩ | ⟨rfl, h1, h2, h3⟩ <;> rcases h' with ⟨rfl, g1, rfl⟩ | ⟨rfl, g1, g2, g3⟩
  · exact ⟨rfl, rfl⟩
  · rw [h1 _ g1] at g2; cases g2
  · rw [g1 _ h1] at h2; cases h2
  · refine ⟨rfl, ?_⟩
    rcases Int.lt_trichotomy t t' with e | e | e
    · rw [h3 _ g1 e] at g2; cases g2
    · subst e; rw [h2] at g2; exact Option.some.inj g2
    · rw [g3 _ h1 e] at h2; cases h2
/-- One round of the model's loop. -/
theorem Latest.step {S : Nat → Step} {j : Nat} {a : Int} {f : Bool} {t : Int} {c : List Int} (h : Latest (hist S j).q a f t c) :
    if (hist S j).made (S j) && decide ((S j).att ≤ a) && (!f || decide (t < (S j).att)) then Latest (hist S (j + 1)).q a true (S j).att (S j).c else Latest (hist S (j + 1)).q a f t c := by
  have hq := fun b => q_step S j b
  cases hm : (hist S j).made (S j) with
  | false =>
    simp only [hm, Bool.false_and, Bool.false_eq_true, if_false] at hq ⊢
    have : (hist S (j + 1)).q = (hist S j).q := funext hq
    rw [this]; exact h
  | true =>
    simp only [hm, Bool.true_and] at hq ⊢
    have hnone : (hist S j).q (S j).att = none := by
      unfold ASt.made at hm
      simp only [Bool.and_eq_true, Bool.not_eq_true', Option.isSome_eq_false_iff, Option.isNone_iff_eq_none] at hm
      exact hm.1.2
    by_cases ha : (S j).att ≤ a
    · rw [decide_eq_true ha, Bool.true_and]
      rcases h with ⟨rfl, h1, rfl⟩ | ⟨rfl, h1, h2, h3⟩
      · simp only [Bool.not_false, Bool.true_or, if_true]
        refine Or.inr ⟨rfl, ha, by rw [hq]; simp, fun b hb hlt => ?_⟩
        rw [hq, if_neg (by simp; omega)]; exact h1 b hb
      · simp only [Bool.not_true, Bool.false_or]
        by_cases hlt : t < (S j).att
        · rw [if_pos (decide_eq_true hlt)]
          refine Or.inr ⟨rfl, ha, by rw [hq]; simp, fun b hb hlt2 => ?_⟩
          rw [hq, if_neg (by simp; omega)]; exact h3 b hb (by omega)
        · rw [if_neg (by simpa using hlt)]
          have hne : (S j).att ≠ t := fun e => by rw [e, h2] at hnone; cases hnone
          refine Or.inr ⟨rfl, h1, by rw [hq, if_neg (by simpa using hne)]; exact h2, fun b hb hlt2 => ?_⟩
          rw [hq, if_neg (by simp; omega)]; exact h3 b hb hlt2
    · rw [decide_eq_false ha, Bool.false_and, if_neg (by simp)]
      rcases h with ⟨rfl, h1, rfl⟩ | ⟨rfl, h1, h2, h3⟩
      · refine Or.inl ⟨rfl, fun b hb => ?_, rfl⟩
        rw [hq, if_neg (by simp; omega)]; exact h1 b hb
      · refine Or.inr ⟨rfl, h1, by rw [hq, if_neg (by simp; omega)]; exact h2, fun b hb hlt2 => ?_⟩
        rw [hq, if_neg (by simp; omega)]; exact h3 b hb hlt2
end Go.Proofs.Qxb6603231a
