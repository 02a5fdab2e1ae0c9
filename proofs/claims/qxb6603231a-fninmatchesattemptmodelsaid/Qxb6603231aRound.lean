import Derived.Test.Qxb6603231aDistinct
import Derived.Deep.CutBlock
import Derived.ArgAppend
namespace Go.Proofs.Qxb6603231a
open Go Go.RowKit

theorem wpList_append1 {ops : Array Oper} {rest : List Oper} {o : Oper} {a : Act} {w : World} {Q : Exit → Act → World → Prop} (hgd : o.guard = none) (s x : Operand) (t e : TypeId)
    (ho : o.op = .call { callee := .builtin .append, args := #[s, x], argTypes := #[t, t] }) (ht : Try.prog.underlying t = some (.slice e)) (hi : (Try.prog.info? e).map (·.size) = some 1)
    (b len cap : Nat) (ad : Addr) (v : Value) (cs : Array Value) (hs : a.eval s = .slice (some ⟨b, 0, none⟩) len cap) (hx : a.eval x = .slice (some ad) 1 1) (hv : w.cell? ad = some v) (h1 : v.oneCell' = true) (hroom : len + 1 ≤ cap)
    (hb : w.heap[b]? = some (.cells cs e)) (hlen : len < cs.size)
    (h : wpList Try.prog ops Q rest (a.put o.dst (.slice (some ⟨b, 0, none⟩) (len + 1) cap)) (w.setCell ⟨b, len, none⟩ v)) : wpList Try.prog ops Q (o :: rest) a w := by
  refine wpList_plain hgd fun _ hK => ?_
  cases hq : Try.prog.info? e with
  | none => rw [hq] at hi; cases hi
  | some i =>
    rw [hq] at hi
    have h1' : i.size = 1 := by simpa using hi
    have hr := run_append_room_cells (P := Try.prog) w t o.type e i ht hq b 0 len cap ad 1 1 [v] (by rw [h1']; rfl)
      (by
        intro j u hj
        cases j with
        | zero => simp at hj; subst hj; simpa [Addr.add] using hv
        | succ j => simp at hj)
      (by intro u hu; rw [List.mem_singleton] at hu; subst hu; exact h1) hroom
      (by
        intro j hj
        have : j = 0 := by simp at hj; exact hj
        subst this
        rw [h1', cell_of hb]
        simp [hlen])
      (by intro j _; exact frozen_of hb)
    rw [h1'] at hr
    simp only [Nat.mul_one, Nat.zero_add, World.setCells] at hr
    unfold Oper.wp execOp
    simp only [ho, resolve, invoke, builtin, Sem.run_bind, Sem.run_pure, Result.andThen_ok, List.map_toArray, List.map_cons, List.map_nil, hs, hx, hr]
    exact hK _ _ h

/-- A row that holds what L says. -/
def RowIs (b : Nat) (e : TypeId) (n : Nat) (f : Int × Nat → Value) (L : List (Int × Nat)) (wr : World) : Prop :=
  ∃ ss : Array Value, wr.heap[b]? = some (.cells ss e) ∧ ss.size = n ∧ ∀ (j : Nat) (p : Int × Nat), L[j]? = some p → ss[j]? = some (f p)
theorem RowIs.keep {b : Nat} {e : TypeId} {n : Nat} {f : Int × Nat → Value} {L : List (Int × Nat)} {wr wr' : World} (h : RowIs b e n f L wr) (hk : wr'.heap[b]? = wr.heap[b]?) : RowIs b e n f L wr' := by
  obtain ⟨ss, h1, h2⟩ := h
  exact ⟨ss, hk.trans h1, h2⟩
theorem RowIs.snoc {b : Nat} {e : TypeId} {n : Nat} {f : Int × Nat → Value} {L : List (Int × Nat)} {wr : World} (h : RowIs b e n f L wr) (hlt : L.length < n) (p : Int × Nat) : RowIs b e n f (L ++ [p]) (wr.setCell ⟨b, L.length, none⟩ (f p)) := by
  obtain ⟨ss, h1, h2, h3⟩ := h
  refine ⟨_, heap_set h1 _, by simpa using h2, fun j q hj => ?_⟩
  by_cases e : j = L.length
  · subst e
    rw [List.getElem?_append_right (Nat.le_refl _), Nat.sub_self, List.getElem?_cons_zero] at hj
    cases hj
    exact Array.getElem?_setIfInBounds_self_of_lt (by omega)
  · have hjl : j < L.length := by
      have := (List.getElem?_eq_some_iff.1 hj).1
      simp at this; omega
    rw [List.getElem?_append_left hjl] at hj
    rw [Array.getElem?_setIfInBounds_ne (by omega)]
    exact h3 j q hj
theorem RowIs.cell {b : Nat} {e : TypeId} {n : Nat} {f : Int × Nat → Value} {L : List (Int × Nat)} {wr : World} (h : RowIs b e n f L wr) {j : Nat} {p : Int × Nat} (hj : L[j]? = some p) : wr.cell? ⟨b, j, none⟩ = some (f p) := by
  obtain ⟨ss, h1, h2, h3⟩ := h
  rw [cell_of h1]; exact h3 j p hj

def seenF (p : Int × Nat) : Value := .int .i64 p.1
def ptrF (p : Int × Nat) : Value := .pointer (some ⟨p.2, 0, none⟩)

/-- What the loop keeps, beside the tally. -/
structure Rest (H n : Nat) (A : Nat → Int) (M : Nat → Bool) (w : World) (L : List (Int × Nat)) (wr : World) : Prop where
  below : Below H w wr
  size : H + 6 ≤ wr.heap.size
  steps : ∃ cs, wr.heap[H]? = some (.cells cs 45) ∧ Steps A M n cs
  seen : RowIs (H + 4) 2 n seenF L wr
  ptrs : RowIs (H + 5) 46 n ptrF L wr
theorem Rest.kept {H n : Nat} {A : Nat → Int} {M : Nat → Bool} {w : World} {L : List (Int × Nat)} {wr wr' : World} (h : Rest H n A M w L wr) (hk : Kept (H + 3) (H + 1) wr wr') : Rest H n A M w L wr' := by
  have hs := h.size
  have hb : ∀ k, k < wr.heap.size → k ≠ H + 3 → k ≠ H + 1 → wr'.heap[k]? = wr.heap[k]? := hk.block
  refine ⟨⟨hk.os.trans h.below.os, hk.tape.trans h.below.tape, hk.output.trans h.below.output, Nat.le_trans h.below.size hk.size, fun k hk' => (hb k (by omega) (by omega) (by omega)).trans (h.below.block k hk')⟩, Nat.le_trans hs hk.size, ?_, h.seen.keep (hb _ (by omega) (by omega) (by omega)), h.ptrs.keep (hb _ (by omega) (by omega) (by omega))⟩
  obtain ⟨cs, h1, h2⟩ := h.steps
  exact ⟨cs, (hb _ (by omega) (by omega) (by omega)).trans h1, h2⟩
theorem kept_alloc (tb mb : Nat) (w : World) (o : Obj) : Kept tb mb w (w.alloc o) := ⟨rfl, rfl, rfl, by simp, fun k hk _ _ => Below.heap_alloc w o k hk⟩
theorem kept_drewN (tb mb : Nat) (w : World) (q : Nat) : Kept tb mb w (w.drewN q) := ⟨rfl, rfl, rfl, Nat.le_refl _, fun _ _ _ _ => rfl⟩
theorem Tal.drewN {H m tb mb n : Nat} {L : List (Int × Nat)} {w : World} (h : Tal H m tb mb n L w) (q : Nat) : Tal H m tb mb n L (w.drewN q) := h.keep (Nat.le_refl _) fun _ _ => rfl

theorem make_one (t e : TypeId) (z : Value) (bytes : Nat) (hu : Try.prog.underlying t = some (.slice e)) (hi : (Try.prog.info? e).map (fun i => (i.zero, i.size, i.bytes)) = some (some z, 1, bytes)) (hby : bytes ≤ 64) (n : Nat) (hn : n ≤ 4096) :
    ∃ ss : Array Value, ss.size = n ∧ ∀ w : World, (Instr.makeSlice t (.int .i64 0) (.int .i64 (n : Int))).run Try.prog w = .ok (.slice (some ⟨w.heap.size, 0, none⟩) 0 n) (w.alloc (.cells ss e)) := by
  cases hq : Try.prog.info? e with
  | none => rw [hq] at hi; cases hi
  | some q =>
    rw [hq] at hi
    simp only [Option.map_some, Option.some.injEq, Prod.mk.injEq] at hi
    refine ⟨madeCells z.cells (n * q.size), ?_, fun w => ?_⟩
    · rw [hi.2.1]; simp [madeCells]
    · have hb : (q.bytes : Int) * (n : Int) ≤ 281474976710656 := by
        rw [hi.2.2]
        have : bytes * n ≤ 64 * 4096 := Nat.mul_le_mul hby hn
        have h2 : ((bytes * n : Nat) : Int) ≤ ((64 * 4096 : Nat) : Int) := Int.ofNat_le.2 this
        rw [Int.natCast_mul] at h2
        omega
      have := run_make (P := Try.prog) w t e q z hu hq hi.1 .i64 .i64 0 (n : Int) (by omega) (by omega) hb (by omega)
      simpa using this
theorem info2 : (Try.prog.info? 2).map (fun i => (i.zero, i.size, i.bytes)) = some (some (.int .i64 0), 1, 8) := by kernel_rfl
theorem info46 : (Try.prog.info? 46).map (fun i => (i.zero, i.size, i.bytes)) = some (some (.pointer none), 1, 8) := by kernel_rfl

theorem Tal.raise {H H' m tb mb n : Nat} {w : World} (h : Tal H m tb mb n [] w) (h1 : H ≤ H') (h2 : H' ≤ w.heap.size) : Tal H' m tb mb n [] w :=
  ⟨Nat.lt_of_lt_of_le h.htb h1, Nat.lt_of_lt_of_le h.hmb h1, h.hne, h2, h.cells, h.map, fun _ hp => absurd hp List.not_mem_nil, h.nd⟩
end Go.Proofs.Qxb6603231a
