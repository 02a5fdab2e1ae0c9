import Derived.Test.Qxb6603231aUpd
namespace Go.Proofs.Qxb6603231a
open Go Go.RowKit

/-! ### Operations on values of many cells, each behind a name: the walk does not lay them open -/
noncomputable def ld (t : TypeId) (w : World) (p : Value) := Sem.run Try.prog (Instr.loadAt t p) w
noncomputable def st (t : TypeId) (w : World) (p v : Value) := Sem.run Try.prog (Instr.storeAt t p v) w
noncomputable def al (t : TypeId) (w : World) := Sem.run Try.prog (Instr.alloc t true (.tuple #[])) w
noncomputable def bd79 (w : World) (x y : Value) := Sem.run Try.prog (Instr.build 79 #[(0, x), (1, y)]) w
noncomputable def eq28 (w : World) (x y : Operand) (u v : Value) := Sem.run Try.prog (do eqGuard .eql 28 x y u v; binOp .eql 28 u v) w
noncomputable def ne28 (w : World) (x y : Operand) (u v : Value) := Sem.run Try.prog (do eqGuard .neq 28 x y u v; binOp .neq 28 u v) w
section
variable (ρ : Operand → Value) (dst : Option Tmp) (ty : TypeId) (pos : String) (after : Array Edge) (guard : Option (Nat × Bool)) (x y : Operand) (w : World)
theorem to_ld28 : Sem.run Try.prog (execOp ρ { dst, op := .load 28 x, type := ty, pos, after, guard }) w = (ld 28 w (ρ x)).andThen fun v w => .ok (.value v) w := by
  simp [execOp, ld]
theorem to_st28 : Sem.run Try.prog (execOp ρ { dst, op := .store 28 x y, type := ty, pos, after, guard }) w = (st 28 w (ρ x) (ρ y)).andThen fun _ w => .ok .skip w := by
  simp [execOp, st]
theorem to_al28 : Sem.run Try.prog (execOp ρ { dst, op := .alloc 28, type := ty, pos, after, guard }) w = (al 28 w).andThen fun v w => .ok (.value v) w := by
  simp [execOp, al]
theorem to_ld30 : Sem.run Try.prog (execOp ρ { dst, op := .load 30 x, type := ty, pos, after, guard }) w = (ld 30 w (ρ x)).andThen fun v w => .ok (.value v) w := by
  simp [execOp, ld]
theorem to_st30 : Sem.run Try.prog (execOp ρ { dst, op := .store 30 x y, type := ty, pos, after, guard }) w = (st 30 w (ρ x) (ρ y)).andThen fun _ w => .ok .skip w := by
  simp [execOp, st]
theorem to_al30 : Sem.run Try.prog (execOp ρ { dst, op := .alloc 30, type := ty, pos, after, guard }) w = (al 30 w).andThen fun v w => .ok (.value v) w := by
  simp [execOp, al]
theorem to_ld79 : Sem.run Try.prog (execOp ρ { dst, op := .load 79 x, type := ty, pos, after, guard }) w = (ld 79 w (ρ x)).andThen fun v w => .ok (.value v) w := by
  simp [execOp, ld]
theorem to_st79 : Sem.run Try.prog (execOp ρ { dst, op := .store 79 x y, type := ty, pos, after, guard }) w = (st 79 w (ρ x) (ρ y)).andThen fun _ w => .ok .skip w := by
  simp [execOp, st]
theorem to_al79 : Sem.run Try.prog (execOp ρ { dst, op := .alloc 79, type := ty, pos, after, guard }) w = (al 79 w).andThen fun v w => .ok (.value v) w := by
  simp [execOp, al]
theorem to_bd79 : Sem.run Try.prog (execOp ρ { dst, op := .build 79 #[(0, x), (1, y)], type := ty, pos, after, guard }) w = (bd79 w (ρ x) (ρ y)).andThen fun v w => .ok (.value v) w := by
  simp [execOp, bd79]
theorem to_eq28 : Sem.run Try.prog (execOp ρ { dst, op := .binOp .eql 28 x y 28, type := ty, pos, after, guard }) w = (eq28 w x y (ρ x) (ρ y)).andThen fun v w => .ok (.value v) w := by
  simp only [execOp, eq28, Sem.run_bind, Sem.run_pure]
theorem to_ne28 : Sem.run Try.prog (execOp ρ { dst, op := .binOp .neq 28 x y 28, type := ty, pos, after, guard }) w = (ne28 w x y (ρ x) (ρ y)).andThen fun v w => .ok (.value v) w := by
  simp only [execOp, ne28, Sem.run_bind, Sem.run_pure]
end

/-! What they give. -/

theorem uncons {c : List Int} {n : Nat} (h : c.length = n + 1) : ∃ x r, c = x :: r ∧ r.length = n := by
  cases c with
  | nil => simp at h
  | cons x r => exact ⟨x, r, rfl, by simpa using h⟩
theorem built79' (m : Int) (c : List Int) (h : c.length = 32) : Try.prog.built 79 [(0, .int .i64 m), (1, candV c)] = some (Value.int .i64 m :: cc c).toArray := by
  obtain ⟨c0, r0, rfl, h0⟩ := uncons h
  obtain ⟨c1, r1, rfl, h1⟩ := uncons h0
  obtain ⟨c2, r2, rfl, h2⟩ := uncons h1
  obtain ⟨c3, r3, rfl, h3⟩ := uncons h2
  obtain ⟨c4, r4, rfl, h4⟩ := uncons h3
  obtain ⟨c5, r5, rfl, h5⟩ := uncons h4
  obtain ⟨c6, r6, rfl, h6⟩ := uncons h5
  obtain ⟨c7, r7, rfl, h7⟩ := uncons h6
  obtain ⟨c8, r8, rfl, h8⟩ := uncons h7
  obtain ⟨c9, r9, rfl, h9⟩ := uncons h8
  obtain ⟨c10, r10, rfl, h10⟩ := uncons h9
  obtain ⟨c11, r11, rfl, h11⟩ := uncons h10
  obtain ⟨c12, r12, rfl, h12⟩ := uncons h11
  obtain ⟨c13, r13, rfl, h13⟩ := uncons h12
  obtain ⟨c14, r14, rfl, h14⟩ := uncons h13
  obtain ⟨c15, r15, rfl, h15⟩ := uncons h14
  obtain ⟨c16, r16, rfl, h16⟩ := uncons h15
  obtain ⟨c17, r17, rfl, h17⟩ := uncons h16
  obtain ⟨c18, r18, rfl, h18⟩ := uncons h17
  obtain ⟨c19, r19, rfl, h19⟩ := uncons h18
  obtain ⟨c20, r20, rfl, h20⟩ := uncons h19
  obtain ⟨c21, r21, rfl, h21⟩ := uncons h20
  obtain ⟨c22, r22, rfl, h22⟩ := uncons h21
  obtain ⟨c23, r23, rfl, h23⟩ := uncons h22
  obtain ⟨c24, r24, rfl, h24⟩ := uncons h23
  obtain ⟨c25, r25, rfl, h25⟩ := uncons h24
  obtain ⟨c26, r26, rfl, h26⟩ := uncons h25
  obtain ⟨c27, r27, rfl, h27⟩ := uncons h26
  obtain ⟨c28, r28, rfl, h28⟩ := uncons h27
  obtain ⟨c29, r29, rfl, h29⟩ := uncons h28
  obtain ⟨c30, r30, rfl, h30⟩ := uncons h29
  obtain ⟨c31, r31, rfl, h31⟩ := uncons h30
  obtain rfl : r31 = [] := List.length_eq_zero_iff.1 h31
  kernel_rfl
theorem build79 (m : Int) {c : List Int} (h : Cv c) (w : World) : (Instr.build 79 #[(0, .int .i64 m), (1, candV c)]).run Try.prog w = .ok (pickV m c) w :=
  run_build (P := Try.prog) w 79 #[(0, .int .i64 m), (1, candV c)] _ (built79' m c h.len)
theorem zero79 : (Try.prog.info? 79).map (fun i => (i.zero.map (·.cells.size), i.size)) = some (some 33, 33) := by kernel_rfl
theorem size79 : (Try.prog.info? 79).map (·.size) = some 33 := by kernel_rfl
theorem isAgg79 : ∀ w : World, (isAgg 79).run Try.prog w = .ok true w := fun w => by simp [isAgg, run_underlying Try.underlying79]
theorem pick_one (m : Int) (c : List Int) : ((Value.int .i64 m :: cc c).toArray).all (·.oneCell') = true := by
  rw [Array.all_eq_true_iff_forall_mem]
  intro v hv
  rcases List.mem_cons.1 (by simpa using hv) with rfl | hv
  · rfl
  · exact cc_one c v hv
def pickO (m : Int) (c : List Int) : Obj := .cells (Value.int .i64 m :: cc c).toArray 79
def candO (c : List Int) : Obj := .cells (cc c).toArray 28
def stepO (s : Step) : Obj := .cells s.cells.toArray 30
/-- A variable of many cells is made, and filled. -/
theorem new_filled (t : TypeId) (n : Nat) (hz : (Try.prog.info? t).map (fun i => (i.zero.map (·.cells.size), i.size)) = some (some n, n)) (hs : (Try.prog.info? t).map (·.size) = some n) :
    ∃ z : Array Value, (∀ w : World, al t w = .ok (.pointer (some ⟨w.heap.size, 0, none⟩)) (w.alloc (.cells z t))) ∧
      ∀ cs : List Value, cs.length = n → cs.toArray.all (·.oneCell') = true → ∀ w : World, st t (w.alloc (.cells z t)) (.pointer (some ⟨w.heap.size, 0, none⟩)) (.agg cs.toArray) = .ok () (w.alloc (.cells cs.toArray t)) := by
  obtain ⟨z, hz1, hr⟩ := zeroed t n hz
  refine ⟨z, hr, fun cs hl h1 w => ?_⟩
  unfold st
  simp only [Instr.storeAt, Instr.sureAddr, Sem.run_bind, Sem.run_pure, Result.andThen_ok]
  rw [run_storeVar_row _ _ t t z cs.toArray (MapKept.heap_alloc w _).1 (by rw [hs]; simp [hl]) (by simp [hz1, hl]) h1, setRow_alloc]
theorem new79 : ∃ z : Array Value, (∀ w : World, al 79 w = .ok (.pointer (some ⟨w.heap.size, 0, none⟩)) (w.alloc (.cells z 79))) ∧
    ∀ (m : Int) (c : List Int), Cv c → ∀ w : World, st 79 (w.alloc (.cells z 79)) (.pointer (some ⟨w.heap.size, 0, none⟩)) (pickV m c) = .ok () (w.alloc (pickO m c)) := by
  obtain ⟨z, h1, h2⟩ := new_filled 79 33 zero79 size79
  exact ⟨z, h1, fun m c hc w => h2 _ (by simp [cc_len hc]) (pick_one m c) w⟩
theorem new28 : ∃ z : Array Value, (∀ w : World, al 28 w = .ok (.pointer (some ⟨w.heap.size, 0, none⟩)) (w.alloc (.cells z 28))) ∧
    ∀ c : List Int, Cv c → ∀ w : World, st 28 (w.alloc (.cells z 28)) (.pointer (some ⟨w.heap.size, 0, none⟩)) (candV c) = .ok () (w.alloc (candO c)) := by
  obtain ⟨z, h1, h2⟩ := new_filled 28 32 zero28' size28
  exact ⟨z, h1, fun c hc w => h2 _ (cc_len hc) (cc_all c) w⟩
theorem new30 : ∃ z : Array Value, (∀ w : World, al 30 w = .ok (.pointer (some ⟨w.heap.size, 0, none⟩)) (w.alloc (.cells z 30))) ∧
    ∀ s : Step, Sv s → ∀ w : World, st 30 (w.alloc (.cells z 30)) (.pointer (some ⟨w.heap.size, 0, none⟩)) s.v = .ok () (w.alloc (stepO s)) := by
  obtain ⟨z, h1, h2⟩ := new_filled 30 37 zero30 size30
  exact ⟨z, h1, fun s hs w => h2 _ (Step.len hs) (Step.one s) w⟩
theorem ldPick {w : World} {m : Int} {c : List Int} (hc : Cv c) {b : Nat} (h : w.heap[b]? = some (pickO m c)) : ld 79 w (.pointer (some ⟨b, 0, none⟩)) = .ok (pickV m c) w :=
  run_load_row 79 33 size79 isAgg79 b 0 (Value.int .i64 m :: cc c) (by simp [cc_len hc]) (fun j v hj => by rw [Nat.zero_add, cell_of h]; simpa using hj)
theorem ldCand {w : World} {c : List Int} (hc : Cv c) {b : Nat} (h : w.heap[b]? = some (candO c)) : ld 28 w (.pointer (some ⟨b, 0, none⟩)) = .ok (candV c) w :=
  load28 hc b 0 (fun j v hj => by rw [Nat.zero_add, cell_of h]; simpa using hj)
theorem ldStep {w : World} {s : Step} (hs : Sv s) {b : Nat} (h : w.heap[b]? = some (stepO s)) : ld 30 w (.pointer (some ⟨b, 0, none⟩)) = .ok s.v w :=
  load30 hs b 0 (fun j v hj => by rw [Nat.zero_add, cell_of h]; simpa using hj)
/-- Into the middle of a row. -/
theorem stMid {w : World} {c : List Int} (hc : Cv c) {b o : Nat} {cur : Array Value} (h : w.heap[b]? = some (.cells cur 28)) (hr : o + 32 ≤ cur.size) : st 28 w (.pointer (some ⟨b, o, none⟩)) (candV c) = .ok () (w.setRow b (splice cur o (cc c))) := by
  have hl := cc_len hc
  have := run_storeCells_at (P := Try.prog) b o 28 (cc c) 0 cur w h (by omega) (cc_one c)
  unfold st splice candV
  cases hq : Try.prog.info? 28 with
  | none => have := size28; rw [hq] at this; cases this
  | some i =>
    have hs : i.size = 32 := by have := size28; rw [hq] at this; simpa using this
    simpa [Instr.storeAt, Instr.sureAddr, storeVar, sizeOf, typeInfo, hq, Value.cells, hs, hl] using this
theorem ldMid {w : World} {c : List Int} (hc : Cv c) {b o : Nat} (h : ∀ (j : Nat) (v : Value), (cc c)[j]? = some v → w.cell? ⟨b, o + j, none⟩ = some v) : ld 28 w (.pointer (some ⟨b, o, none⟩)) = .ok (candV c) w := load28 hc b o h
theorem box28 (c : List Int) (w : World) : (Instr.box 28 (candV c)).run Try.prog w = .ok (.pointer (some ⟨w.heap.size, 0, none⟩)) (w.alloc (candO c)) := by unfold candV candO; simp [go_sem]
theorem bd79_is (m : Int) {c : List Int} (h : Cv c) (w : World) : bd79 w (.int .i64 m) (candV c) = .ok (pickV m c) w := build79 m h w
theorem eq28_is {c d : List Int} (hc : Cv c) (hd : Cv d) (w : World) (x y : Operand) : eq28 w x y (candV c) (candV d) = .ok (.bool (decide (c = d))) w := by
  have h := eql28 hc hd w
  unfold candV at h
  unfold eq28 candV
  rw [Sem.run_bind, run_eqGuard_agg _ _ _ _ _ _ _ Try.eqGuardType28, Result.andThen_ok]; exact h
theorem ne28_is {c d : List Int} (hc : Cv c) (hd : Cv d) (w : World) (x y : Operand) : ne28 w x y (candV c) (candV d) = .ok (.bool (!decide (c = d))) w := by
  have h := neq28 hc hd w
  unfold candV at h
  unfold ne28 candV
  rw [Sem.run_bind, run_eqGuard_agg _ _ _ _ _ _ _ Try.eqGuardType28, Result.andThen_ok]; exact h
end Go.Proofs.Qxb6603231a
