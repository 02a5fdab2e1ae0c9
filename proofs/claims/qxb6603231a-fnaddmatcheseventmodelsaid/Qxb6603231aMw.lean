import Derived.Test.Qxb6603231aMlat
namespace Go.Proofs.Qxb6603231a
open Go Go.RowKit

/-- A row of one-cell values: those up to k. -/
def RowV (n : Nat) (e : TypeId) (f : Nat → Value) (k : Nat) (w : World) (x : Nat) : Prop := ∃ cs : Array Value, w.heap[x]? = some (.cells cs e) ∧ cs.size = n ∧ ∀ j, j < k → cs[j]? = some (f j)
section
variable {n : Nat} {e : TypeId} {f : Nat → Value} {k : Nat} {w w' : World} {x : Nat}
theorem RowV.keep (h : RowV n e f k w x) (hk : w'.heap[x]? = w.heap[x]?) : RowV n e f k w' x := by
  obtain ⟨cs, h1, h2⟩ := h; exact ⟨cs, hk.trans h1, h2⟩
theorem RowV.cell (h : RowV n e f k w x) {j : Nat} (hj : j < k) : w.cell? ⟨x, j, none⟩ = some (f j) := by
  obtain ⟨cs, h1, _, h3⟩ := h
  rw [cell_of h1]; exact h3 j hj
theorem RowV.room (h : RowV n e f k w x) {j : Nat} (hj : j < n) : (∃ v, w.cell? ⟨x, j, none⟩ = some v) ∧ w.frozen? ⟨x, j, none⟩ = false := by
  obtain ⟨cs, h1, h2, _⟩ := h
  exact ⟨⟨_, by rw [cell_of h1]; exact Array.getElem?_eq_getElem (by omega)⟩, frozen_of h1⟩
theorem RowV.set (h : RowV n e f k w x) (hk : k < n) {v : Value} (hv : v = f k) : RowV n e f (k + 1) (w.setCell ⟨x, k, none⟩ v) x := by
  obtain ⟨cs, h1, h2, h3⟩ := h
  subst hv
  refine ⟨_, heap_set h1 _, by simpa using h2, fun j hj => ?_⟩
  by_cases ej : k = j
  · subst ej; rw [Array.getElem?_setIfInBounds_self_of_lt (by omega)]
  · rw [Array.getElem?_setIfInBounds_ne ej]; exact h3 j (by omega)
theorem RowV.nil {cs : Array Value} (h : w.heap[x]? = some (.cells cs e)) (hs : cs.size = n) : RowV n e f 0 w x := ⟨cs, h, hs, fun j hj => by omega⟩
end

def fC (S : Nat → Step) (j : Nat) : Value := .bool ((hist S j).counted (S j))
def fA (S : Nat → Step) (j : Nat) : Value := .bool ((hist S j).added (S j))
def fF (S : Nat → Step) (j : Nat) : Value := .bool ((hist S j).fresh (S j))
def fM (S : Nat → Step) (j : Nat) : Value := .bool ((hist S j).made (S j))
def fS (S : Nat → Step) (j : Nat) : Value := .int .i64 ((hist S j).weigh (S j))
def fK (S : Nat → Step) (j : Nat) : Value := .int .i64 (((hist S j).kindsAt (S j) : Nat) : Int)

/-- The model's six rows, filled up to k. -/
structure MW (S : Nat → Step) (n N : Nat) (w : World) (k : Nat) (wr : World) : Prop where
  below : Below N w wr
  size : N + 6 ≤ wr.heap.size
  c : RowV n 4 (fC S) k wr N
  a : RowV n 4 (fA S) k wr (N + 1)
  f : RowV n 4 (fF S) k wr (N + 2)
  m : RowV n 4 (fM S) k wr (N + 3)
  s : RowV n 2 (fS S) k wr (N + 4)
  k : RowV n 3 (fK S) k wr (N + 5)
theorem MW.alloc {S : Nat → Step} {n N : Nat} {w : World} {k : Nat} {wr : World} (h : MW S n N w k wr) (o : Obj) : MW S n N w k (wr.alloc o) := by
  have hs := h.size
  have f : ∀ x, x < N + 6 → (wr.alloc o).heap[x]? = wr.heap[x]? := fun x hx => Below.heap_alloc _ _ _ (by omega)
  exact ⟨h.below.alloc (by omega) _, by simp; omega, h.c.keep (f _ (by omega)), h.a.keep (f _ (by omega)), h.f.keep (f _ (by omega)), h.m.keep (f _ (by omega)), h.s.keep (f _ (by omega)), h.k.keep (f _ (by omega))⟩
/-- All six are written. -/
theorem MW.next {S : Nat → Step} {n N : Nat} {w : World} {k : Nat} {wr : World} (h : MW S n N w k wr) (hk : k < n) {v0 v1 v2 v3 v4 v5 : Value} (e0 : v0 = fC S k) (e1 : v1 = fA S k) (e2 : v2 = fF S k) (e3 : v3 = fM S k) (e4 : v4 = fS S k) (e5 : v5 = fK S k) :
    MW S n N w (k + 1) ((((((wr.setCell ⟨N, k, none⟩ v0).setCell ⟨N + 1, k, none⟩ v1).setCell ⟨N + 2, k, none⟩ v2).setCell ⟨N + 3, k, none⟩ v3).setCell ⟨N + 4, k, none⟩ v4).setCell ⟨N + 5, k, none⟩ v5) := by
  have o : ∀ {w : World} {b i x : Nat} {u : Value}, x ≠ b → (w.setCell ⟨b, i, none⟩ u).heap[x]? = w.heap[x]? := fun hx => heap_set_other _ hx
  have bl : ∀ {w1 : World} {b i : Nat} {u : Value}, N ≤ b → Below N w w1 → Below N w (w1.setCell ⟨b, i, none⟩ u) := fun {w1 b i u} hb h => h.setCell (p := ⟨b, i, none⟩) hb u
  have sz : ∀ {w1 : World} {b i : Nat} {u : Value}, N + 6 ≤ w1.heap.size → N + 6 ≤ (w1.setCell ⟨b, i, none⟩ u).heap.size := fun h => by simpa [World.setCell] using h
  refine ⟨?_, ?_, ?_, ?_, ?_, ?_, ?_, ?_⟩
  · exact bl (by omega) (bl (by omega) (bl (by omega) (bl (by omega) (bl (by omega) (bl (by omega) h.below)))))
  · exact sz (sz (sz (sz (sz (sz h.size)))))
  · exact (((((h.c.set hk e0).keep (o (by omega))).keep (o (by omega))).keep (o (by omega))).keep (o (by omega))).keep (o (by omega))
  · exact (((((h.a.keep (o (by omega))).set hk e1).keep (o (by omega))).keep (o (by omega))).keep (o (by omega))).keep (o (by omega))
  · exact (((((h.f.keep (o (by omega))).keep (o (by omega))).set hk e2).keep (o (by omega))).keep (o (by omega))).keep (o (by omega))
  · exact (((((h.m.keep (o (by omega))).keep (o (by omega))).keep (o (by omega))).set hk e3).keep (o (by omega))).keep (o (by omega))
  · exact (((((h.s.keep (o (by omega))).keep (o (by omega))).keep (o (by omega))).keep (o (by omega))).set hk e4).keep (o (by omega))
  · exact ((((((h.k.keep (o (by omega))).keep (o (by omega))).keep (o (by omega))).keep (o (by omega))).keep (o (by omega))).set hk e5)

theorem make_nn (t e : TypeId) (z : Value) (bytes : Nat) (hu : Try.prog.underlying t = some (.slice e)) (hi : (Try.prog.info? e).map (fun i => (i.zero, i.size, i.bytes)) = some (some z, 1, bytes)) (hby : bytes ≤ 64) (n : Nat) (hn : n ≤ 4096) :
    ∃ ss : Array Value, ss.size = n ∧ ∀ w : World, (Instr.makeSlice t (.int .i64 (n : Int)) (.int .i64 (n : Int))).run Try.prog w = .ok (.slice (some ⟨w.heap.size, 0, none⟩) n n) (w.alloc (.cells ss e)) := by
  cases hq : Try.prog.info? e with
  | none => rw [hq] at hi; cases hi
  | some q =>
    rw [hq] at hi
    simp only [Option.map_some, Option.some.injEq, Prod.mk.injEq] at hi
    refine ⟨madeCells z.cells (n * q.size), ?_, fun w => ?_⟩
    · rw [hi.2.1]; simp [madeCells]
    · have hb : (q.bytes : Int) * (n : Int) ≤ 281474976710656 := by
        rw [hi.2.2]
        have : bytes * n ≤ 64 * 4096 := Nat.mul_le_mul hby hn
        have h2 : ((bytes * n : Nat) : Int) ≤ ((64 * 4096 : Nat) : Int) := Int.ofNat_le.2 this
        rw [Int.natCast_mul] at h2
        omega
      have := run_make (P := Try.prog) w t e q z hu hq hi.1 .i64 .i64 (n : Int) (n : Int) (by omega) (by omega) hb (by omega)
      rw [Int.toNat_natCast] at this
      exact this
theorem info2' : (Try.prog.info? 2).map (fun i => (i.zero, i.size, i.bytes)) = some (some (.int .i64 0), 1, 8) := by kernel_rfl
theorem info3' : (Try.prog.info? 3).map (fun i => (i.zero, i.size, i.bytes)) = some (some (.int .i64 0), 1, 8) := by kernel_rfl

/-- The fields of a step's own variable. -/
structure Fields (s : Step) (w : World) (p : Nat) : Prop where
  c0 : w.cell? ⟨p, 0, none⟩ = some (.int .i64 s.att)
  c1 : w.cell? ⟨p, 1, none⟩ = some (.int .i64 s.mem)
  c2 : w.cell? ⟨p, 2, none⟩ = some (.int .i64 s.br)
  c3 : ld 28 w (.pointer (some ⟨p, 3, none⟩)) = .ok (candV s.c) w
  c35 : w.cell? ⟨p, 35, none⟩ = some (.int .i64 s.wt)
  c36 : w.cell? ⟨p, 36, none⟩ = some (.int .i64 s.tot)
theorem fields_of {s : Step} (hs : Sv s) {w : World} {p : Nat} (h : w.heap[p]? = some (stepO s)) : Fields s w p := by
  have f : ∀ (j : Nat) (v : Value), s.cells[j]? = some v → w.cell? ⟨p, j, none⟩ = some v := fun j v hj => by rw [cell_of h]; simpa using hj
  exact ⟨f 0 _ (Step.at0 s), f 1 _ (Step.at1 s), f 2 _ (Step.at2 s), ldMid hs.c (fun j v hj => f _ _ (Step.atC j v hj)), f 35 _ (Step.at35 hs), f 36 _ (Step.at36 hs)⟩

/-- Within a round of the model: its step's variable lies at p. -/
structure InR (S : Nat → Step) (n N : Nat) (w : World) (k p : Nat) (wr : World) : Prop where
  mw : MW S n N w k wr
  hp : N + 6 ≤ p
  at_ : wr.heap[p]? = some (stepO (S k))
theorem InR.alloc {S : Nat → Step} {n N : Nat} {w : World} {k p : Nat} {wr : World} (h : InR S n N w k p wr) (o : Obj) : InR S n N w k p (wr.alloc o) :=
  ⟨h.mw.alloc o, h.hp, (Below.heap_alloc _ _ _ (lt_of_heap h.at_)).trans h.at_⟩
end Go.Proofs.Qxb6603231a
