import Derived.Test.Qxb6600831aRows
import Derived.WalkKit
import Derived.Laws.Tables
namespace Go.Proofs.Qxb6600831a
open Go.RowKit

/-! The Options value that the laws build: 25 cells, of which two are set. Kept behind a name: the walk never goes through the cells. -/
def opts (d p : Bool) : Array Value :=
  #[.bool false, .bool false, .bool false, .bool p, .bool false, .bool false, .bool false, .int .i64 0, .bool false, .bool false, .bool false, .bool false,
    .bool d, .bool false, .bool false, .bool false, .string ⟨#[]⟩, .bool false, .bool false, .bool false, .bool false, .string ⟨#[]⟩, .bool false, .bool false, .int .i64 0]

theorem built2 (d p : Bool) : Try.prog.built 25 [(12, .bool d), (3, .bool p)] = some (opts d p) := by kernel_rfl
theorem built1 (d : Bool) : Try.prog.built 25 [(12, .bool d)] = some (opts d false) := by kernel_rfl
theorem size25 : (Try.prog.info? 25).map (·.size) = some 25 := by kernel_rfl
theorem one25 (d p : Bool) : (opts d p).all (·.oneCell') = true := by cases d <;> cases p <;> kernel_rfl
theorem opts12 (d p : Bool) : (opts d p)[12]? = some (.bool d) := rfl
theorem opts3 (d p : Bool) : (opts d p)[3]? = some (.bool p) := rfl

theorem wpList_opts2 {ops : Array Oper} {rest : List Oper} {o : Oper} {a : Act} {w : World} {Q : Exit → Act → World → Prop} (hg : o.guard = none) (x y : Operand)
    (ho : o.op = .build 25 #[(12, x), (3, y)]) (d p : Bool) (hx : a.eval x = .bool d) (hy : a.eval y = .bool p)
    (h : wpList Try.prog ops Q rest (a.put o.dst (.agg (opts d p))) w) : wpList Try.prog ops Q (o :: rest) a w := by
  have e : (#[(12, x), (3, y)].map fun (q : Nat × Operand) => (q.1, a.eval q.2)).toList = [(12, .bool d), (3, .bool p)] := by simp [hx, hy]
  refine wpList_build hg 25 _ ho ?_ ?_
  · show (Try.prog.built 25 ((#[(12, x), (3, y)].map fun (q : Nat × Operand) => (q.1, a.eval q.2)).toList)).isSome = true
    rw [e, built2]; rfl
  · show wpList Try.prog ops Q rest (a.put o.dst (.agg ((Try.prog.built 25 ((#[(12, x), (3, y)].map fun (q : Nat × Operand) => (q.1, a.eval q.2)).toList)).getD #[]))) w
    rw [e, built2]; exact h

theorem wpList_opts1 {ops : Array Oper} {rest : List Oper} {o : Oper} {a : Act} {w : World} {Q : Exit → Act → World → Prop} (hg : o.guard = none) (x : Operand)
    (ho : o.op = .build 25 #[(12, x)]) (d : Bool) (hx : a.eval x = .bool d)
    (h : wpList Try.prog ops Q rest (a.put o.dst (.agg (opts d false))) w) : wpList Try.prog ops Q (o :: rest) a w := by
  have e : (#[(12, x)].map fun (q : Nat × Operand) => (q.1, a.eval q.2)).toList = [(12, .bool d)] := by simp [hx]
  refine wpList_build hg 25 _ ho ?_ ?_
  · show (Try.prog.built 25 ((#[(12, x)].map fun (q : Nat × Operand) => (q.1, a.eval q.2)).toList)).isSome = true
    rw [e, built1]; rfl
  · show wpList Try.prog ops Q rest (a.put o.dst (.agg ((Try.prog.built 25 ((#[(12, x)].map fun (q : Nat × Operand) => (q.1, a.eval q.2)).toList)).getD #[]))) w
    rw [e, built1]; exact h

theorem setRow_alloc (w : World) (old cs : Array Value) (t : TypeId) : (w.alloc (.cells old t)).setRow w.heap.size cs = w.alloc (.cells cs t) := by
  unfold World.setRow World.alloc
  congr 1
  apply Array.ext
  · simp
  · intro i h1 h2
    simp only [Array.getElem_modify]
    simp only [Array.size_push] at h2
    by_cases hi : i = w.heap.size
    · subst hi; simp
    · rw [if_neg (Ne.symm hi)]; rw [Array.getElem_push_lt (by omega), Array.getElem_push_lt (by omega)]

theorem heap_new (w : World) (o : Obj) : (w.alloc o).heap[w.heap.size]? = some o := by
  show (w.heap.push o)[w.heap.size]? = some o
  exact Array.getElem?_push_size

theorem wpList_storeOpts {ops : Array Oper} {rest : List Oper} {o : Oper} {a : Act} {w : World} {Q : Exit → Act → World → Prop} (hg : o.guard = none) (x y : Operand)
    (ho : o.op = .store 25 x y) (d p : Bool) (old : Array Value) (hx : a.eval x = .pointer (some ⟨w.heap.size, 0, none⟩)) (hy : a.eval y = .agg (opts d p)) (hold : old.size = 25)
    (h : wpList Try.prog ops Q rest (a.put o.dst undef) (w.alloc (.cells (opts d p) 25))) : wpList Try.prog ops Q (o :: rest) a (w.alloc (.cells old 25)) := by
  refine wpList_store_row hg 25 x y ho w.heap.size (opts d p) hx hy 25 old ?_ size25 hold (one25 d p) ?_
  · exact heap_new w _
  · rw [setRow_alloc]; exact h

theorem cell12 (w : World) (d p : Bool) : (w.alloc (.cells (opts d p) 25)).cell? ⟨w.heap.size, 12, none⟩ = some (.bool d) := by
  unfold World.cell?; rw [show ({ block := w.heap.size, off := 12, spot := none } : Addr).block = w.heap.size from rfl, heap_new]; exact opts12 d p
theorem cell3 (w : World) (d p : Bool) : (w.alloc (.cells (opts d p) 25)).cell? ⟨w.heap.size, 3, none⟩ = some (.bool p) := by
  unfold World.cell?; rw [show ({ block := w.heap.size, off := 3, spot := none } : Addr).block = w.heap.size from rfl, heap_new]; exact opts3 d p
end Go.Proofs.Qxb6600831a
