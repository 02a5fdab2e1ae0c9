import Derived.Test.Qxb6603231aHist
namespace Go.Proofs.Qxb6603231a
open Go Go.RowKit

/-! ### The tally in memory, and what it says -/
structure Blk where
  z : Nat
  x5 : Nat
  x6 : Nat
  x11 : Nat
  x16 : Nat
  x17 : Nat
  x18 : Nat
def Blk.all (b : Blk) : List Nat := [b.z, b.x5, b.x6, b.x11, b.x16, b.x17, b.x18]
def FlagR (m : Nat) (ii : Nat → Bool) (w : World) (x : Nat) : Prop := ∃ cs : Array Value, w.heap[x]? = some (.cells cs 4) ∧ cs.size = m ∧ ∀ j, j < m → cs[j]? = some (.bool (ii j))
def FirstR (m : Nat) (fi : Nat → List Int) (w : World) (x : Nat) : Prop := ∃ cs : Array Value, w.heap[x]? = some (.cells cs 28) ∧ cs.size = m * 32 ∧ ∀ j, j < m → Cv (fi j) ∧ ∀ (i : Nat) (v : Value), (cc (fi j))[i]? = some v → cs[j * 32 + i]? = some v
def ForksR (n : Nat) (X : BA) (w : World) (x : Nat) : Prop := ∃ f cnt, MapV 77 x n f cnt w ∧ ∀ mem br : Int, br ≠ 0 → f (pairV mem br) = if X.cast mem br then some (.bool true) else none
def InnSays (m : Nat) (X : BA) (fi : Nat → List Int) (ii : Nat → Bool) (f : Value → Option Value) : Prop := ∀ j : Nat, j < m → ∀ c, (f (pickV j c) = none ∨ f (pickV j c) = some (.bool true)) ∧ (ii j = false → X.inn j c = false ∧ f (pickV j c) = none) ∧ (ii j = true → X.inn j c = (decide (fi j = c) || (f (pickV j c)).isSome))
def InnR (m n : Nat) (X : BA) (w : World) (x11 x16 x17 : Nat) : Prop := ∃ (fi : Nat → List Int) (ii : Nat → Bool) (f : Value → Option Value) (cnt : Nat), FirstR m fi w x11 ∧ FlagR m ii w x16 ∧ MapV 79 x17 n f cnt w ∧ InnSays m X fi ii f
def WtR (n : Nat) (X : BA) (w : World) (x : Nat) : Prop := ∃ f, MapV 28 x n f X.kinds w ∧ ∀ c, f (candV c) = (X.wt c).map (Value.int .i64)

theorem FlagR.keep {m : Nat} {ii : Nat → Bool} {w w' : World} {x : Nat} (h : FlagR m ii w x) (hk : w'.heap[x]? = w.heap[x]?) : FlagR m ii w' x := by
  obtain ⟨cs, h1, h2⟩ := h; exact ⟨cs, hk.trans h1, h2⟩
theorem FirstR.keep {m : Nat} {fi : Nat → List Int} {w w' : World} {x : Nat} (h : FirstR m fi w x) (hk : w'.heap[x]? = w.heap[x]?) : FirstR m fi w' x := by
  obtain ⟨cs, h1, h2⟩ := h; exact ⟨cs, hk.trans h1, h2⟩
theorem ForksR.keep {n n' : Nat} {X : BA} {w w' : World} {x : Nat} (h : ForksR n X w x) (hn : n ≤ n') (hk : w'.heap[x]? = w.heap[x]?) : ForksR n' X w' x := by
  obtain ⟨f, cnt, h1, h2⟩ := h; exact ⟨f, cnt, (h1.mono hn).keep hk, h2⟩
theorem InnR.keep {m n n' : Nat} {X : BA} {w w' : World} {x11 x16 x17 : Nat} (h : InnR m n X w x11 x16 x17) (hn : n ≤ n') (k1 : w'.heap[x11]? = w.heap[x11]?) (k2 : w'.heap[x16]? = w.heap[x16]?) (k3 : w'.heap[x17]? = w.heap[x17]?) : InnR m n' X w' x11 x16 x17 := by
  obtain ⟨fi, ii, f, cnt, h1, h2, h3, h4⟩ := h; exact ⟨fi, ii, f, cnt, h1.keep k1, h2.keep k2, (h3.mono hn).keep k3, h4⟩
theorem WtR.keep {n n' : Nat} {X : BA} {w w' : World} {x : Nat} (h : WtR n X w x) (hn : n ≤ n') (hk : w'.heap[x]? = w.heap[x]?) : WtR n' X w' x := by
  obtain ⟨f, h1, h2⟩ := h; exact ⟨f, (h1.mono hn).keep hk, h2⟩

/-- The ballots b of attempt att say X. -/
structure BallR (H m n : Nat) (X : BA) (att : Int) (w : World) (b : Blk) : Prop where
  ge : ∀ x ∈ b.all, H ≤ x
  nd : b.all.Nodup
  cell : w.heap[b.z]? = some (.cells (ballCells att m b.x5 b.x6 b.x11 b.x16 b.x17 b.x18) 73)
  cast : FlagR m (fun j => X.cast j 0) w b.x5
  forks : ForksR n X w b.x6
  inn : InnR m n X w b.x11 b.x16 b.x17
  wt : WtR n X w b.x18
theorem BallR.keep {H m n n' : Nat} {X : BA} {att : Int} {w w' : World} {b : Blk} (h : BallR H m n X att w b) (hn : n ≤ n') (hk : ∀ x ∈ b.all, w'.heap[x]? = w.heap[x]?) : BallR H m n' X att w' b :=
  ⟨h.ge, h.nd, (hk _ (by simp [Blk.all])).trans h.cell, h.cast.keep (hk _ (by simp [Blk.all])), h.forks.keep hn (hk _ (by simp [Blk.all])), h.inn.keep hn (hk _ (by simp [Blk.all])) (hk _ (by simp [Blk.all])) (hk _ (by simp [Blk.all])), h.wt.keep hn (hk _ (by simp [Blk.all]))⟩
theorem BallR.lt {H m n : Nat} {X : BA} {att : Int} {w : World} {b : Blk} (h : BallR H m n X att w b) : ∀ x ∈ b.all, x < w.heap.size := by
  obtain ⟨_, _, h1, ⟨_, h2, _⟩, ⟨_, _, h3, _⟩, ⟨_, _, _, _, ⟨_, h4, _⟩, ⟨_, h5, _⟩, h6, _⟩, ⟨_, h7, _⟩⟩ := h
  intro x hx
  simp only [Blk.all, List.mem_cons, List.not_mem_nil, or_false] at hx
  rcases hx with rfl | rfl | rfl | rfl | rfl | rfl | rfl
  · exact lt_of_heap h1
  · exact lt_of_heap h2
  · exact h3.lt
  · exact lt_of_heap h4
  · exact lt_of_heap h5
  · exact h6.lt
  · exact h7.lt
theorem BallR.att {H m n : Nat} {X : BA} {att : Int} {w : World} {b : Blk} (h : BallR H m n X att w b) : w.cell? ⟨b.z, 0, none⟩ = some (.int .i64 att) := by rw [cell_of h.cell]; rfl

theorem made_at (z : Array Value) (n i : Nat) (hi : i < n) : (madeCells z n)[i]? = some (z[i % z.size]!) := by
  simp [madeCells, hi]
theorem bool_at (m j : Nat) (hj : j < m) : (boolRow m)[j]? = some (.bool false) := by
  unfold boolRow
  rw [made_at _ _ _ (by omega)]
  simp [Value.cells, Nat.mod_one]
theorem cand_at (m i : Nat) (hi : i < m * 32) : (candRow m)[i]? = some (.int .u8 0) := by
  unfold candRow
  rw [made_at _ _ _ hi]
  have : i % (zero28.cells).size < 32 := by
    have : zero28.cells.size = 32 := by simp [zero28, Value.cells]
    rw [this]; omega
  have e : zero28.cells = Array.replicate 32 (.int .u8 0) := rfl
  rw [e] at this ⊢
  rw [getElem!_pos _ _ (by simpa using this)]
  simp
def noCand : List Int := List.replicate 32 0
theorem noCand_cv : Cv noCand := ⟨by simp [noCand], fun z hz => by
  unfold noCand at hz
  rw [List.eq_of_mem_replicate hz]; rfl⟩
/-- New ballots say nothing. -/
theorem Ball.bare {H m n : Nat} {att : Int} {w : World} {z : Nat} (h : Ball H m att w z) : ∃ b : Blk, b.z = z ∧ BallR H m n BA.bare att w b := by
  obtain ⟨h0, x5, x6, x11, x16, x17, x18, h1, h2, h3⟩ := h
  refine ⟨⟨z, x5, x6, x11, x16, x17, x18⟩, rfl, ?_, ?_, h1, ⟨_, h2.h5, by simp [boolRow, madeCells], fun j hj => bool_at m j hj⟩, ⟨_, _, (MapV.of_empty 77 h2.h6).mono (Nat.zero_le _), fun _ _ _ => rfl⟩,
    ⟨fun _ => noCand, fun _ => false, noMap, 0, ⟨_, h2.h11, by simp [candRow, madeCells], fun j hj => ⟨noCand_cv, fun i v hv => ?_⟩⟩, ⟨_, h2.h16, by simp [boolRow, madeCells], fun j hj => bool_at m j hj⟩, (MapV.of_empty 79 h2.h17).mono (Nat.zero_le _), fun j hj c => ⟨Or.inl rfl, fun _ => ⟨rfl, rfl⟩, fun h => by cases h⟩⟩,
    ⟨_, (MapV.of_empty 28 h2.h18).mono (Nat.zero_le _), fun _ => rfl⟩⟩
  · intro x hx
    rcases List.mem_cons.1 hx with rfl | hx
    · exact h0
    · exact h2.ge x hx
  · exact List.nodup_cons.2 ⟨h3, h2.nd⟩
  · have hi := (List.getElem?_eq_some_iff.1 hv).1
    rw [cc_len noCand_cv] at hi
    rw [cand_at m _ (by omega)]
    have : (cc noCand)[i]? = some (.int .u8 0) := by
      unfold cc noCand
      rw [List.map_replicate, List.getElem?_replicate, if_pos hi]
    rw [this] at hv; exact hv

def lookB (B : Int → Option Blk) (att : Int) : Int := match B att with
  | some b => (b.z : Int)
  | none => -1

/-- The tally at tb, its maps at mb and qb, says A; its ballots are B, all at or above H; ex: further blocks, apart from the ballots. -/
structure Tal2 (H m tb mb qb n : Nat) (B : Int → Option Blk) (A : ASt) (ex : List (Nat × Obj)) (w : World) : Prop where
  htb : tb < H
  hmb : mb < H
  hqb : qb < H
  n1 : tb ≠ mb
  n2 : tb ≠ qb
  n3 : mb ≠ qb
  hH : H ≤ w.heap.size
  cells : ∃ lv, w.heap[tb]? = some (.cells #[.int .i64 (m : Int), .map (some mb), lv, .map (some qb)] 66) ∧ (lv = .pointer none ∨ ∃ a b, B a = some b ∧ lv = .pointer (some ⟨b.z, 0, none⟩))
  map : ∃ D, w.ownsMap Try.prog 2 ptrElem mb n D ∧ ∀ att : Int, D.atKey (.int .i64 att) (.lit (.int .i64 (-1))) = .lit (.int .i64 (lookB B att))
  balls : ∀ a b, B a = some b → BallR H m n (A.of a) a w b
  apart : ∀ a a' b b', B a = some b → B a' = some b' → a ≠ a' → ∀ x ∈ b.all, x ∉ b'.all
  quorum : ∃ f cnt, MapV 2 qb n f cnt w ∧ ∀ a : Int, f (.int .i64 a) = (A.q a).map candV
  qcv : ∀ a c, A.q a = some c → Cv c
  bare : ∀ a, B a = none → A.of a = BA.bare
  extra : ∀ p ∈ ex, H ≤ p.1 ∧ w.heap[p.1]? = some p.2 ∧ ∀ a b, B a = some b → p.1 ∉ b.all

section
variable {H m tb mb qb n : Nat} {B : Int → Option Blk} {A : ASt} {ex : List (Nat × Obj)} {w w' : World}
theorem Tal2.keep (h : Tal2 H m tb mb qb n B A ex w) {n' : Nat} (hn : n ≤ n') (hs : w.heap.size ≤ w'.heap.size) (hk : ∀ k, k < w.heap.size → (k = tb ∨ k = mb ∨ k = qb ∨ H ≤ k) → w'.heap[k]? = w.heap[k]?) : Tal2 H m tb mb qb n' B A ex w' := by
  have hH := h.hH
  have ltb : tb < w.heap.size := Nat.lt_of_lt_of_le h.htb hH
  have lmb : mb < w.heap.size := Nat.lt_of_lt_of_le h.hmb hH
  have lqb : qb < w.heap.size := Nat.lt_of_lt_of_le h.hqb hH
  refine ⟨h.htb, h.hmb, h.hqb, h.n1, h.n2, h.n3, Nat.le_trans hH hs, ?_, ?_, ?_, h.apart, ?_, h.qcv, h.bare, ?_⟩
  · obtain ⟨lv, hc, hl⟩ := h.cells
    exact ⟨lv, (hk tb ltb (Or.inl rfl)).trans hc, hl⟩
  · obtain ⟨D, ho, hD⟩ := h.map
    obtain ⟨es, clock, hb, r⟩ := ho.mono hn
    exact ⟨D, ⟨es, clock, (hk mb lmb (Or.inr (Or.inl rfl))).trans hb, r⟩, hD⟩
  · intro a b hb
    have hB := h.balls a b hb
    exact hB.keep hn fun x hx => hk x (hB.lt x hx) (Or.inr (Or.inr (Or.inr (hB.ge x hx))))
  · obtain ⟨f, cnt, h1, h2⟩ := h.quorum
    exact ⟨f, cnt, (h1.mono hn).keep (hk qb lqb (Or.inr (Or.inr (Or.inl rfl)))), h2⟩
  · intro p hp
    obtain ⟨e1, e2, e3⟩ := h.extra p hp
    exact ⟨e1, (hk _ (lt_of_heap e2) (Or.inr (Or.inr (Or.inr e1)))).trans e2, e3⟩
theorem Tal2.mono (h : Tal2 H m tb mb qb n B A ex w) {n' : Nat} (hn : n ≤ n') : Tal2 H m tb mb qb n' B A ex w := h.keep hn (Nat.le_refl _) fun _ _ _ => rfl
theorem Tal2.alloc (h : Tal2 H m tb mb qb n B A ex w) (o : Obj) : Tal2 H m tb mb qb n B A ex (w.alloc o) := h.keep (Nat.le_refl _) (by simp) fun k hk _ => Below.heap_alloc _ _ _ hk
theorem Tal2.drew (h : Tal2 H m tb mb qb n B A ex w) : Tal2 H m tb mb qb n B A ex w.drew := h.keep (Nat.le_refl _) (Nat.le_refl _) fun _ _ _ => rfl
theorem Tal2.drewN (h : Tal2 H m tb mb qb n B A ex w) (q : Nat) : Tal2 H m tb mb qb n B A ex (w.drewN q) := h.keep (Nat.le_refl _) (Nat.le_refl _) fun _ _ _ => rfl
theorem Tal2.drop (h : Tal2 H m tb mb qb n B A ex w) {ex' : List (Nat × Obj)} (hx : ∀ p ∈ ex', p ∈ ex) : Tal2 H m tb mb qb n B A ex' w :=
  ⟨h.htb, h.hmb, h.hqb, h.n1, h.n2, h.n3, h.hH, h.cells, h.map, h.balls, h.apart, h.quorum, h.qcv, h.bare, fun p hp => h.extra p (hx p hp)⟩
/-- A new block, kept in sight. -/
theorem Tal2.box (h : Tal2 H m tb mb qb n B A ex w) (o : Obj) : Tal2 H m tb mb qb n B A ((w.heap.size, o) :: ex) (w.alloc o) := by
  have h2 := h.alloc o
  refine ⟨h2.htb, h2.hmb, h2.hqb, h2.n1, h2.n2, h2.n3, h2.hH, h2.cells, h2.map, h2.balls, h2.apart, h2.quorum, h2.qcv, h2.bare, fun p hp => ?_⟩
  rcases List.mem_cons.1 hp with rfl | hp
  · refine ⟨h.hH, (MapKept.heap_alloc w o).1, fun a b hb hx => ?_⟩
    have := (h.balls a b hb).lt _ hx
    exact absurd this (Nat.lt_irrefl _)
  · exact h2.extra p hp
/-- One table of one attempt's ballots has turned. -/
theorem Tal2.touch (h : Tal2 H m tb mb qb n B A ex w) {n' : Nat} (hn : n ≤ n') {att : Int} {b : Blk} (hB : B att = some b) {x : Nat → Prop} (hx : ∀ k, x k → k ∈ b.all) (hs : w.heap.size ≤ w'.heap.size) (hk : ∀ k, ¬ x k → w'.heap[k]? = w.heap[k]?) {X : BA} (hb : BallR H m n' X att w' b) : Tal2 H m tb mb qb n' B (A.put att X) ex w' := by
  have ge := (h.balls att b hB).ge
  have ne : ∀ k, k < H → ¬ x k := fun k hlt hxk => by
    have := ge k (hx k hxk); omega
  refine ⟨h.htb, h.hmb, h.hqb, h.n1, h.n2, h.n3, Nat.le_trans h.hH hs, ?_, ?_, ?_, h.apart, ?_, h.qcv, ?_, ?_⟩
  · obtain ⟨lv, hc, hl⟩ := h.cells
    exact ⟨lv, (hk tb (ne tb h.htb)).trans hc, hl⟩
  · obtain ⟨D, ho, hD⟩ := h.map
    obtain ⟨es, clock, hb, r⟩ := ho.mono hn
    exact ⟨D, ⟨es, clock, (hk mb (ne mb h.hmb)).trans hb, r⟩, hD⟩
  · intro a b' hb'
    by_cases e : att = a
    · subst e
      rw [hB] at hb'
      cases hb'
      simpa [ASt.put] using hb
    · have : (A.put att X).of a = A.of a := by simp [ASt.put, e]
      rw [this]
      refine (h.balls a b' hb').keep hn fun k hk' => hk k fun hxk => ?_
      exact h.apart a att b' b hb' hB (Ne.symm e) k hk' (hx k hxk)
  · obtain ⟨f, cnt, h1, h2⟩ := h.quorum
    exact ⟨f, cnt, (h1.mono hn).keep (hk qb (ne qb h.hqb)), h2⟩
  · intro a ha
    have e : att ≠ a := fun e => by rw [← e, hB] at ha; cases ha
    have : (A.put att X).of a = A.of a := by simp [ASt.put, e]
    rw [this]; exact h.bare a ha
  · intro p hp
    obtain ⟨e1, e2, e3⟩ := h.extra p hp
    exact ⟨e1, (hk _ (fun hxk => e3 att b hB (hx _ hxk))).trans e2, e3⟩
/-- The quorum's map has turned. -/
theorem Tal2.touchQ (h : Tal2 H m tb mb qb n B A ex w) {n' : Nat} (hn : n ≤ n') (hs : w.heap.size ≤ w'.heap.size) (hk : ∀ k, k ≠ qb → w'.heap[k]? = w.heap[k]?) {att : Int} {c : List Int} (hc : Cv c) (hq : ∃ f cnt, MapV 2 qb n' f cnt w' ∧ ∀ a : Int, f (.int .i64 a) = ((A.setQ att c).q a).map candV) : Tal2 H m tb mb qb n' B (A.setQ att c) ex w' := by
  have hqb := h.hqb
  refine ⟨h.htb, h.hmb, h.hqb, h.n1, h.n2, h.n3, Nat.le_trans h.hH hs, ?_, ?_, ?_, h.apart, hq, ?_, h.bare, ?_⟩
  · obtain ⟨lv, hc, hl⟩ := h.cells
    exact ⟨lv, (hk tb h.n2).trans hc, hl⟩
  · obtain ⟨D, ho, hD⟩ := h.map
    obtain ⟨es, clock, hb, r⟩ := ho.mono hn
    exact ⟨D, ⟨es, clock, (hk mb h.n3).trans hb, r⟩, hD⟩
  · intro a b hb
    have hB := h.balls a b hb
    refine hB.keep hn fun x hx => hk x fun e => ?_
    have := hB.ge x hx; omega
  · intro a c' hq'
    unfold ASt.setQ at hq'
    by_cases e : att = a
    · simp only [e, if_true, Option.some.injEq] at hq'; exact hq' ▸ hc
    · simp only [e, if_false] at hq'; exact h.qcv a c' hq'
  · intro p hp
    obtain ⟨e1, e2, e3⟩ := h.extra p hp
    exact ⟨e1, (hk _ (by omega)).trans e2, e3⟩
/-- 'last' set to some of the ballots. -/
theorem Tal2.setLast (h : Tal2 H m tb mb qb n B A ex w) {a : Int} {b : Blk} (hb : B a = some b) : Tal2 H m tb mb qb n B A ex (w.setCell ⟨tb, 2, none⟩ (.pointer (some ⟨b.z, 0, none⟩))) := by
  have htb := h.htb
  refine ⟨h.htb, h.hmb, h.hqb, h.n1, h.n2, h.n3, by simpa [World.setCell] using h.hH, ?_, ?_, ?_, h.apart, ?_, h.qcv, h.bare, ?_⟩
  · obtain ⟨lv, hc, hl⟩ := h.cells
    exact ⟨_, heap_set hc _, Or.inr ⟨a, b, hb, rfl⟩⟩
  · obtain ⟨D, hown, hD⟩ := h.map
    exact ⟨D, hown.setCell (Ne.symm h.n1) _, hD⟩
  · intro a b hb
    have hB := h.balls a b hb
    refine hB.keep (Nat.le_refl _) fun x hx => heap_set_other _ fun e => ?_
    have := hB.ge x hx; omega
  · obtain ⟨f, cnt, h1, h2⟩ := h.quorum
    exact ⟨f, cnt, h1.keep (heap_set_other _ (Ne.symm h.n2)), h2⟩
  · intro p hp
    obtain ⟨e1, e2, e3⟩ := h.extra p hp
    exact ⟨e1, (heap_set_other _ (by omega)).trans e2, e3⟩
end
end Go.Proofs.Qxb6603231a
