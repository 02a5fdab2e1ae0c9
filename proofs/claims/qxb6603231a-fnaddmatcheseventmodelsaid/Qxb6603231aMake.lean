import Derived.Test.Qxb6603231aRows
import Derived.Test.Qxb6603231aAnyOrder
import Derived.WalkKit
import Derived.Laws.Tables
import Derived.Carry
import Derived.Below
namespace Go.Proofs.Qxb6603231a
open Go Go.RowKit

/-! ### One operation at a time -/
section
variable {ρ : Operand → Value} {w : World} {dst : Option Tmp} {ty : TypeId} {pos : String} {after : Array Edge}
theorem run_nil (x : Operand) (p : Addr) (h : ρ x = .pointer (some p)) : (execOp ρ { dst, op := .nilCheck x, type := ty, pos, after, guard := none }).run Try.prog w = .ok (.value (.pointer (some p))) w := by
  simp [execOp, h, go_sem]
theorem run_field66 (x : Operand) (b off k : Nat) (hk : k = 0 ∨ k = 1 ∨ k = 2 ∨ k = 3) (h : ρ x = .pointer (some ⟨b, off, none⟩)) : (execOp ρ { dst, op := .fieldAddr 66 x k, type := ty, pos, after, guard := none }).run Try.prog w = .ok (.value (.pointer (some ⟨b, off + k, none⟩))) w := by
  rcases hk with rfl | rfl | rfl | rfl <;> simp [execOp, h, go_sem]
theorem run_load3 (x : Operand) (p : Addr) (n : Int) (h : ρ x = .pointer (some p)) (hc : w.cell? p = some (.int .i64 n)) : (execOp ρ { dst, op := .load 3 x, type := ty, pos, after, guard := none }).run Try.prog w = .ok (.value (.int .i64 n)) w := by
  simp [execOp, h, go_sem, hc]
theorem run_mkmap (t : TypeId) : (execOp ρ { dst, op := .makeMap t none, type := ty, pos, after, guard := none }).run Try.prog w = .ok (.value (.map (some w.heap.size))) (w.alloc (.map #[] 0)) := by
  simp [execOp, run_makeMap]
theorem run_box73 (x : Operand) (cs : Array Value) (h : ρ x = .agg cs) : (execOp ρ { dst, op := .box 73 x, type := ty, pos, after, guard := none }).run Try.prog w = .ok (.value (.pointer (some ⟨w.heap.size, 0, none⟩))) (w.alloc (.cells cs 73)) := by
  simp [execOp, h, go_sem]
theorem run_moved (x : Operand) (v : Value) (h : ρ x = v) : (execOp ρ { dst, op := .move x, type := ty, pos, after, guard := none }).run Try.prog w = .ok (.value v) w := by
  simp [execOp, h]
theorem run_assigned (x : Operand) (v : Value) (h : ρ x = v) : (execOp ρ { dst, op := .assign x, type := ty, pos, after, guard := none }).run Try.prog w = .ok (.value v) w := by
  simp [execOp, h]
theorem run_mkslice (t e : TypeId) (x : Operand) (i : TypeInfo) (z : Value) (m : Nat) (ht : Try.prog.underlying t = some (.slice e)) (hi : Try.prog.info? e = some i) (hz : i.zero = some z) (h : ρ x = .int .i64 (m : Int))
    (hb : (i.bytes : Int) * (m : Int) ≤ 281474976710656) (hm : m ≤ 4096) :
    (execOp ρ { dst, op := .makeSlice t x x, type := ty, pos, after, guard := none }).run Try.prog w = .ok (.value (.slice (some ⟨w.heap.size, 0, none⟩) m m)) (w.alloc (.cells (madeCells z.cells (m * i.size)) e)) := by
  have := run_make (P := Try.prog) w t e i z ht hi hz .i64 .i64 (m : Int) (m : Int) (by omega) (by omega) hb (by omega)
  rw [Int.toNat_natCast] at this
  simp [execOp, h, this]
theorem wp_value {o : Oper} {a : Act} {w w2 : World} {K : Act → World → Prop} {Q : Exit → Act → World → Prop} {v : Value} (h : (execOp a.eval o).run Try.prog w = .ok (.value v) w2) (hk : K (a.put o.dst v) w2) : o.wp Try.prog a w K Q := by
  unfold Oper.wp; rw [h]; exact hk
end

/-! ### What 'in' makes: the tables of an attempt -/
theorem info4 : (Try.prog.info? 4).map (fun i => (i.zero, i.size, i.bytes)) = some (some (.bool false), 1, 1) := by kernel_rfl
def zero28 : Value := .agg (Array.replicate 32 (.int .u8 0))
theorem info28 : (Try.prog.info? 28).map (fun i => (i.zero, i.size, i.bytes)) = some (some zero28, 32, 32) := by kernel_rfl
def boolRow (m : Nat) : Array Value := madeCells (Value.bool false).cells (m * 1)
def candRow (m : Nat) : Array Value := madeCells zero28.cells (m * 32)

/-- The six parts. -/
structure Parts (H m : Nat) (w : World) (x5 x6 x11 x16 x17 x18 : Nat) : Prop where
  h5 : w.heap[x5]? = some (.cells (boolRow m) 4)
  h6 : w.heap[x6]? = some (.map #[] 0)
  h11 : w.heap[x11]? = some (.cells (candRow m) 28)
  h16 : w.heap[x16]? = some (.cells (boolRow m) 4)
  h17 : w.heap[x17]? = some (.map #[] 0)
  h18 : w.heap[x18]? = some (.map #[] 0)
  ge : ∀ x ∈ [x5, x6, x11, x16, x17, x18], H ≤ x
  nd : [x5, x6, x11, x16, x17, x18].Nodup
def ballCells (att : Int) (m x5 x6 x11 x16 x17 x18 : Nat) : Array Value :=
  #[.int .i64 att, .slice (some ⟨x5, 0, none⟩) m m, .map (some x6), .slice (some ⟨x11, 0, none⟩) m m, .slice (some ⟨x16, 0, none⟩) m m, .map (some x17), .map (some x18)]
/-- The ballots at block z. -/
def Ball (H m : Nat) (att : Int) (w : World) (z : Nat) : Prop :=
  H ≤ z ∧ ∃ x5 x6 x11 x16 x17 x18, w.heap[z]? = some (.cells (ballCells att m x5 x6 x11 x16 x17 x18) 73) ∧ Parts H m w x5 x6 x11 x16 x17 x18 ∧ z ∉ [x5, x6, x11, x16, x17, x18]

theorem heap_old {w : World} {x : Nat} {o o' : Obj} (h : w.heap[x]? = some o) : (w.alloc o').heap[x]? = some o := by
  rw [Below.heap_alloc w o' x (Array.getElem?_eq_some_iff.1 h).1]; exact h
theorem Parts.alloc {H m : Nat} {w : World} {x5 x6 x11 x16 x17 x18 : Nat} (h : Parts H m w x5 x6 x11 x16 x17 x18) (o : Obj) : Parts H m (w.alloc o) x5 x6 x11 x16 x17 x18 :=
  ⟨heap_old h.h5, heap_old h.h6, heap_old h.h11, heap_old h.h16, heap_old h.h17, heap_old h.h18, h.ge, h.nd⟩
theorem Ball.alloc {H m : Nat} {att : Int} {w : World} {z : Nat} (h : Ball H m att w z) (o : Obj) : Ball H m att (w.alloc o) z := by
  obtain ⟨h0, x5, x6, x11, x16, x17, x18, h1, h2, h3⟩ := h
  exact ⟨h0, x5, x6, x11, x16, x17, x18, heap_old h1, h2.alloc o, h3⟩

/-- What operation i of the region has left, once it has come up. -/
def good (tb m H : Nat) (att : Int) (i : Nat) (v : Value) (w : World) : Prop :=
  if i = 0 then v = .int .i64 att
  else if i = 4 ∨ i = 10 ∨ i = 15 then v = .int .i64 (m : Int)
  else if i = 5 ∨ i = 16 then ∃ x, v = .slice (some ⟨x, 0, none⟩) m m ∧ H ≤ x ∧ w.heap[x]? = some (.cells (boolRow m) 4)
  else if i = 11 then ∃ x, v = .slice (some ⟨x, 0, none⟩) m m ∧ H ≤ x ∧ w.heap[x]? = some (.cells (candRow m) 28)
  else if i = 6 ∨ i = 17 ∨ i = 18 then ∃ x, v = .map (some x) ∧ H ≤ x ∧ w.heap[x]? = some (.map #[] 0)
  else if i = 19 then ∃ x5 x6 x11 x16 x17 x18, v = .agg (ballCells att m x5 x6 x11 x16 x17 x18) ∧ Parts H m w x5 x6 x11 x16 x17 x18
  else if i = 20 ∨ i = 21 then ∃ z, v = .pointer (some ⟨z, 0, none⟩) ∧ Ball H m att w z
  else v = .pointer (some ⟨tb, 0, none⟩)

theorem good_alloc {tb m H : Nat} {att : Int} {i : Nat} {v : Value} {w : World} (h : good tb m H att i v w) (o : Obj) : good tb m H att i v (w.alloc o) := by
  unfold good at *
  split
  · rename_i h0; rw [if_pos h0] at h; exact h
  · rename_i h0; rw [if_neg h0] at h
    split
    · rename_i h1; rw [if_pos h1] at h; exact h
    · rename_i h1; rw [if_neg h1] at h
      split
      · rename_i h2; rw [if_pos h2] at h; obtain ⟨x, e, g, hx⟩ := h; exact ⟨x, e, g, heap_old hx⟩
      · rename_i h2; rw [if_neg h2] at h
        split
        · rename_i h3; rw [if_pos h3] at h; obtain ⟨x, e, g, hx⟩ := h; exact ⟨x, e, g, heap_old hx⟩
        · rename_i h3; rw [if_neg h3] at h
          split
          · rename_i h4; rw [if_pos h4] at h; obtain ⟨x, e, g, hx⟩ := h; exact ⟨x, e, g, heap_old hx⟩
          · rename_i h4; rw [if_neg h4] at h
            split
            · rename_i h5; rw [if_pos h5] at h; obtain ⟨x5, x6, x11, x16, x17, x18, e, hp⟩ := h; exact ⟨x5, x6, x11, x16, x17, x18, e, hp.alloc o⟩
            · rename_i h5; rw [if_neg h5] at h
              split
              · rename_i h6; rw [if_pos h6] at h; obtain ⟨z, e, hp⟩ := h; exact ⟨z, e, hp.alloc o⟩
              · rename_i h6; rw [if_neg h6] at h; exact h

/-- The slot that operation i writes. -/
def slot (i : Nat) : Nat := if i = 21 then 7 else 39 + i
def isMk (i : Nat) : Prop := i = 5 ∨ i = 6 ∨ i = 11 ∨ i = 16 ∨ i = 17 ∨ i = 18
def blk : Value → Nat
  | .slice (some a) _ _ => a.block
  | .map (some b) => b
  | _ => 0

theorem good_blk {tb m H : Nat} {att : Int} {i : Nat} {v : Value} {w : World} (hi : isMk i) (h : good tb m H att i v w) : blk v < w.heap.size := by
  rcases hi with rfl | rfl | rfl | rfl | rfl | rfl <;> simp only [good] at h <;> simp at h <;> (obtain ⟨x, rfl, _, hx⟩ := h; exact (Array.getElem?_eq_some_iff.1 hx).1)

/-- What holds once some operations of the region have come up. -/
structure Inv (tb m H : Nat) (att : Int) (a0 : Act) (w0 : World) (listed : Array Bool) (a : Act) (w : World) : Prop where
  defers : a.defers = a0.defers
  size : a.tmps.size = a0.tmps.size
  below : Below H w0 w
  hsz : H ≤ w.heap.size
  other : ∀ j, j ≠ 7 → ¬ (39 ≤ j ∧ j ≤ 59) → a.tmps.getD j undef = a0.tmps.getD j undef
  gd : ∀ i, i < 22 → listed.getD i true = true → good tb m H att i (a.tmps.getD (slot i) undef) w
  apart : ∀ i j, isMk i → isMk j → i ≠ j → listed.getD i true = true → listed.getD j true = true → blk (a.tmps.getD (slot i) undef) ≠ blk (a.tmps.getD (slot j) undef)

theorem put_get (a : Act) (d j : Nat) (v : Value) (hd : d < a.tmps.size) : (a.put (some d) v).tmps.getD j undef = if j = d then v else a.tmps.getD j undef := by
  unfold Act.put
  by_cases h : j = d
  · subst h; simp [hd]
  · rw [if_neg h]; simp [Array.getD_eq_getD_getElem?, Ne.symm h]

theorem slot_inj {i j : Nat} (hi : i < 22) (hj : j < 22) (h : slot i = slot j) : i = j := by
  unfold slot at h; split at h <;> split at h <;> omega

theorem Inv.step {tb m H : Nat} {att : Int} {a0 : Act} {w0 : World} {listed : Array Bool} {a : Act} {w w2 : World} (h : Inv tb m H att a0 w0 listed a w) (i : Nat) (hi : i < 22) (hs : listed.size = 22) (hl : listed.getD i true = false)
    (h73 : a0.tmps.size = 73) (v : Value) (hw : w2 = w ∨ ∃ o, w2 = w.alloc o) (hg : good tb m H att i v w2) (hmk : isMk i → blk v = w.heap.size) :
    Inv tb m H att a0 w0 (listed.setIfInBounds i true) (a.put (some (slot i)) v) w2 := by
  have hsl : slot i < a.tmps.size := by rw [h.size, h73]; unfold slot; split <;> omega
  have hgood : ∀ j u, good tb m H att j u w → good tb m H att j u w2 := fun j u hu => by
    rcases hw with rfl | ⟨o, rfl⟩
    · exact hu
    · exact good_alloc hu o
  have hget : ∀ j, j < 22 → j ≠ i → (a.put (some (slot i)) v).tmps.getD (slot j) undef = a.tmps.getD (slot j) undef := fun j hj hji => by
    rw [put_get a _ _ v hsl, if_neg (fun e => hji (slot_inj hj hi e))]
  have hown : (a.put (some (slot i)) v).tmps.getD (slot i) undef = v := by rw [put_get a _ _ v hsl, if_pos rfl]
  have hmk22 : ∀ k, isMk k → k < 22 := fun k hk => by rcases hk with rfl | rfl | rfl | rfl | rfl | rfl <;> omega
  have hlist : ∀ j, j ≠ i → (listed.setIfInBounds i true).getD j true = true → listed.getD j true = true := fun j hji hj => by
    rw [getD_setTrue _ _ _ (by omega), if_neg hji] at hj; exact hj
  refine ⟨h.defers, by simp [Act.put, h.size], ?_, ?_, ?_, ?_, ?_⟩
  · rcases hw with rfl | ⟨o, rfl⟩
    · exact h.below
    · exact h.below.alloc h.hsz o
  · rcases hw with rfl | ⟨o, rfl⟩
    · exact h.hsz
    · have := h.hsz; simp; omega
  · intro j h7 hj
    rw [put_get a _ _ v hsl, if_neg (by unfold slot; split <;> omega)]
    exact h.other j h7 hj
  · intro j hj hjl
    by_cases hji : j = i
    · subst hji; rw [hown]; exact hg
    · rw [hget j hj hji]; exact hgood _ _ (h.gd j hj (hlist j hji hjl))
  · intro p q hp hq hpq hpl hql
    by_cases hpi : p = i
    · subst hpi
      rw [hown, hget q (hmk22 q hq) (Ne.symm hpq), hmk hp]
      have := good_blk hq (h.gd q (hmk22 q hq) (hlist q (Ne.symm hpq) hql))
      omega
    · by_cases hqi : q = i
      · subst hqi
        rw [hown, hget p (hmk22 p hp) hpi, hmk hq]
        have := good_blk hp (h.gd p (hmk22 p hp) (hlist p hpi hpl))
        omega
      · rw [hget p (hmk22 p hp) hpi, hget q (hmk22 q hq) hqi]
        exact h.apart p q hp hq hpq (hlist p hpi hpl) (hlist q hqi hql)
end Go.Proofs.Qxb6603231a
