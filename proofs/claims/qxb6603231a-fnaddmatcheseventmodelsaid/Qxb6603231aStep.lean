import Derived.Test.Qxb6603231aCandEq
import Derived.Deep.LoopGhost
namespace Go.Proofs.Qxb6603231a
open Go Go.RowKit

/-- One call of add: its arguments. -/
structure Step where
  att : Int
  mem : Int
  br : Int
  c : List Int
  wt : Int
  tot : Int
structure Sv (s : Step) : Prop where
  c : Cv s.c
  att : (Lit.int .i64 s.att).wf = true
  mem : (Lit.int .i64 s.mem).wf = true
  br : (Lit.int .i64 s.br).wf = true
  wt : (Lit.int .i64 s.wt).wf = true
  tot : (Lit.int .i64 s.tot).wf = true
def Step.cells (s : Step) : List Value := Value.int .i64 s.att :: Value.int .i64 s.mem :: Value.int .i64 s.br :: (cc s.c ++ [Value.int .i64 s.wt, Value.int .i64 s.tot])
def Step.v (s : Step) : Value := .agg s.cells.toArray
theorem Step.len {s : Step} (h : Sv s) : s.cells.length = 37 := by simp [Step.cells, cc_len h.c]
theorem Step.at0 (s : Step) : s.cells[0]? = some (.int .i64 s.att) := rfl
theorem Step.at1 (s : Step) : s.cells[1]? = some (.int .i64 s.mem) := rfl
theorem Step.at2 (s : Step) : s.cells[2]? = some (.int .i64 s.br) := rfl
theorem Step.atC {s : Step} (j : Nat) (v : Value) (hj : (cc s.c)[j]? = some v) : s.cells[3 + j]? = some v := by
  have hl := (List.getElem?_eq_some_iff.1 hj).1
  rw [show 3 + j = j + 1 + 1 + 1 by omega]
  simp only [Step.cells, List.getElem?_cons_succ]
  rw [List.getElem?_append_left hl]; exact hj
theorem Step.at35 {s : Step} (h : Sv s) : s.cells[35]? = some (.int .i64 s.wt) := by
  have := cc_len h.c
  simp only [Step.cells, List.getElem?_cons_succ]
  rw [List.getElem?_append_right (by omega), this]; rfl
theorem Step.at36 {s : Step} (h : Sv s) : s.cells[36]? = some (.int .i64 s.tot) := by
  have := cc_len h.c
  simp only [Step.cells, List.getElem?_cons_succ]
  rw [List.getElem?_append_right (by omega), this]; rfl
theorem cc_one (c : List Int) : ∀ v ∈ cc c, v.oneCell' = true := by
  intro v hv
  unfold cc at hv
  obtain ⟨x, _, rfl⟩ := List.mem_map.1 hv
  rfl
theorem Step.one (s : Step) : s.cells.toArray.all (·.oneCell') = true := by
  rw [Array.all_eq_true_iff_forall_mem]
  intro v hv
  simp only [Step.cells, List.mem_toArray, List.mem_cons, List.mem_append, List.not_mem_nil, or_false] at hv
  rcases hv with rfl | rfl | rfl | hv | rfl | rfl
  · rfl
  · rfl
  · rfl
  · exact cc_one _ v hv
  · rfl
  · rfl

/-- A value of many cells, read at an address. -/
theorem run_load_row {w : World} (ty : TypeId) (n : Nat) (hi : (Try.prog.info? ty).map (·.size) = some n) (ha : ∀ w : World, (isAgg ty).run Try.prog w = .ok true w) (b off : Nat) (cs : List Value) (hl : cs.length = n) (hc : ∀ (j : Nat) (v : Value), cs[j]? = some v → w.cell? ⟨b, off + j, none⟩ = some v) :
    (Instr.loadAt ty (.pointer (some ⟨b, off, none⟩))).run Try.prog w = .ok (.agg cs.toArray) w := by
  have h := run_loadCells_list (P := Try.prog) w ⟨b, off, none⟩ cs (fun j v hj => by rw [Addr.add_lit]; exact hc j v hj)
  cases hq : Try.prog.info? ty with
  | none => rw [hq] at hi; cases hi
  | some i =>
    rw [hq] at hi
    have hs : i.size = cs.length := by simp at hi; omega
    simp [Instr.loadAt, Instr.sureAddr, loadVar, ha, sizeOf, typeInfo, hq, hs, h]
theorem isAgg30 : ∀ w : World, (isAgg 30).run Try.prog w = .ok true w := fun w => by simp [isAgg, run_underlying Try.underlying30]
theorem isAgg28 : ∀ w : World, (isAgg 28).run Try.prog w = .ok true w := fun w => by simp [isAgg, run_underlying Try.underlying28]
theorem size30 : (Try.prog.info? 30).map (·.size) = some 37 := by kernel_rfl
theorem size28 : (Try.prog.info? 28).map (·.size) = some 32 := by kernel_rfl
theorem load30 {w : World} {s : Step} (h : Sv s) (b off : Nat) (hc : ∀ (j : Nat) (v : Value), s.cells[j]? = some v → w.cell? ⟨b, off + j, none⟩ = some v) : (Instr.loadAt 30 (.pointer (some ⟨b, off, none⟩))).run Try.prog w = .ok s.v w :=
  run_load_row 30 37 size30 isAgg30 b off s.cells (Step.len h) hc
theorem load28 {w : World} {c : List Int} (h : Cv c) (b off : Nat) (hc : ∀ (j : Nat) (v : Value), (cc c)[j]? = some v → w.cell? ⟨b, off + j, none⟩ = some v) : (Instr.loadAt 28 (.pointer (some ⟨b, off, none⟩))).run Try.prog w = .ok (candV c) w :=
  run_load_row 28 32 size28 isAgg28 b off (cc c) (cc_len h) hc

/-! ### At the operation, for the walk -/
section
variable {ops : Array Oper} {rest : List Oper} {o : Oper} {a : Act} {w : World} {Q : Exit → Act → World → Prop}
theorem wpList_load30 (hgd : o.guard = none) (x : Operand) (ho : o.op = .load 30 x) (s : Step) (hs : Sv s) (b off : Nat) (hx : a.eval x = .pointer (some ⟨b, off, none⟩)) (hc : ∀ (j : Nat) (v : Value), s.cells[j]? = some v → w.cell? ⟨b, off + j, none⟩ = some v)
    (h : wpList Try.prog ops Q rest (a.put o.dst s.v) w) : wpList Try.prog ops Q (o :: rest) a w := by
  refine wpList_plain hgd fun _ hK => ?_
  unfold Oper.wp
  simp only [execOp, ho, hx, Sem.run_bind, load30 hs b off hc, Result.andThen_ok]
  exact hK _ _ h
theorem wpList_load28 (hgd : o.guard = none) (x : Operand) (ho : o.op = .load 28 x) (c : List Int) (hs : Cv c) (b off : Nat) (hx : a.eval x = .pointer (some ⟨b, off, none⟩)) (hc : ∀ (j : Nat) (v : Value), (cc c)[j]? = some v → w.cell? ⟨b, off + j, none⟩ = some v)
    (h : wpList Try.prog ops Q rest (a.put o.dst (candV c)) w) : wpList Try.prog ops Q (o :: rest) a w := by
  refine wpList_plain hgd fun _ hK => ?_
  unfold Oper.wp
  simp only [execOp, ho, hx, Sem.run_bind, load28 hs b off hc, Result.andThen_ok]
  exact hK _ _ h
theorem zeroed (ty : TypeId) (n : Nat) (hi : (Try.prog.info? ty).map (fun i => (i.zero.map (·.cells.size), i.size)) = some (some n, n)) : ∃ z : Array Value, z.size = n ∧ ∀ w : World, (Instr.alloc ty true (.tuple #[])).run Try.prog w = .ok (.pointer (some ⟨w.heap.size, 0, none⟩)) (w.alloc (.cells z ty)) := by
  cases hq : Try.prog.info? ty with
  | none => rw [hq] at hi; cases hi
  | some i =>
    rw [hq] at hi
    simp only [Option.map_some, Option.some.injEq, Prod.mk.injEq] at hi
    cases hz : i.zero with
    | none => rw [hz] at hi; cases hi.1
    | some z =>
      rw [hz] at hi
      refine ⟨z.cells, by simpa using hi.1, fun w => ?_⟩
      simp [Instr.alloc, zeroValue, typeInfo, hq, hz, go_sem]
theorem zero30 : (Try.prog.info? 30).map (fun i => (i.zero.map (·.cells.size), i.size)) = some (some 37, 37) := by kernel_rfl
theorem zero28' : (Try.prog.info? 28).map (fun i => (i.zero.map (·.cells.size), i.size)) = some (some 32, 32) := by kernel_rfl
theorem setRow_alloc (w : World) (old cs : Array Value) (t : TypeId) : (w.alloc (.cells old t)).setRow w.heap.size cs = w.alloc (.cells cs t) := by
  unfold World.setRow World.alloc
  congr 1
  apply Array.ext_getElem?
  intro i
  rw [Array.getElem?_modify]
  by_cases h : w.heap.size = i
  · subst h; simp
  · rw [if_neg h]
    by_cases h2 : i < w.heap.size
    · rw [Array.getElem?_push_lt h2, Array.getElem?_push_lt h2]
    · rw [Array.getElem?_eq_none (by simp; omega), Array.getElem?_eq_none (by simp; omega)]
theorem wpList_alloc_row (hgd : o.guard = none) (ty : TypeId) (n : Nat) (ho : o.op = .alloc ty) (hi : (Try.prog.info? ty).map (fun i => (i.zero.map (·.cells.size), i.size)) = some (some n, n))
    (h : ∀ z : Array Value, z.size = n → wpList Try.prog ops Q rest (a.put o.dst (.pointer (some ⟨w.heap.size, 0, none⟩))) (w.alloc (.cells z ty))) : wpList Try.prog ops Q (o :: rest) a w := by
  obtain ⟨z, hz, hr⟩ := zeroed ty n hi
  refine wpList_plain hgd fun _ hK => ?_
  unfold Oper.wp
  simp only [execOp, ho, Sem.run_bind, hr, Result.andThen_ok]
  exact hK _ _ (h z hz)
theorem wpList_store_new (hgd : o.guard = none) (ty : TypeId) (n : Nat) (x y : Operand) (ho : o.op = .store ty x y) (hi : (Try.prog.info? ty).map (·.size) = some n) (z : Array Value) (hz : z.size = n) (cs : List Value) (hcs : cs.length = n) (h1 : cs.toArray.all (·.oneCell') = true)
    (hx : a.eval x = .pointer (some ⟨w.heap.size, 0, none⟩)) (hy : a.eval y = .agg cs.toArray)
    (h : wpList Try.prog ops Q rest (a.put o.dst undef) (w.alloc (.cells cs.toArray ty))) : wpList Try.prog ops Q (o :: rest) a (w.alloc (.cells z ty)) := by
  refine wpList_store_row hgd ty x y ho w.heap.size cs.toArray hx hy ty z (MapKept.heap_alloc w _).1 (by rw [hi]; simp [hcs]) (by simp [hz, hcs]) h1 ?_
  rw [setRow_alloc]; exact h
theorem cc_all (c : List Int) : (cc c).toArray.all (·.oneCell') = true := by
  rw [Array.all_eq_true_iff_forall_mem]
  intro v hv
  exact cc_one c v (by simpa using hv)
end
end Go.Proofs.Qxb6603231a
