import Derived.Test.Qxb6603231aAdd
import Derived.Maps.RangeWalk
namespace Go.Proofs.Qxb6603231a
open Go Go.RowKit
noncomputable def bx28 (w : World) (v : Value) := Sem.run Try.prog (Instr.box 28 v) w
theorem to_bx28 (ρ : Operand → Value) (dst : Option Tmp) (ty : TypeId) (pos : String) (after : Array Edge) (guard : Option (Nat × Bool)) (x : Operand) (w : World) : Sem.run Try.prog (execOp ρ { dst, op := .box 28 x, type := ty, pos, after, guard }) w = (bx28 w (ρ x)).andThen fun v w => .ok (.value v) w := by
  simp [execOp, bx28]
theorem bx28_is (c : List Int) (w : World) : bx28 w (candV c) = .ok (.pointer (some ⟨w.heap.size, 0, none⟩)) (w.alloc (candO c)) := box28 c w
attribute [local go_sem ↓] to_ld28 to_st28 to_al28 to_bx28

theorem noCells : zero28.cells = (cc noCand).toArray := by
  unfold zero28 noCand cc
  rw [List.map_replicate]
  rfl
theorem al28_is (w : World) : al 28 w = .ok (.pointer (some ⟨w.heap.size, 0, none⟩)) (w.alloc (candO noCand)) := by
  have hi := info28
  cases hq : Try.prog.info? 28 with
  | none => rw [hq] at hi; cases hi
  | some q =>
    rw [hq] at hi
    simp only [Option.map_some, Option.some.injEq, Prod.mk.injEq] at hi
    have := noCells
    unfold al candO
    rw [← this]
    simp [Instr.alloc, zeroValue, typeInfo, hq, hi.1, go_sem]
/-- A candidate into its variable. -/
theorem stVar {w : World} {c d : List Int} (hc : Cv c) (hd : Cv d) {b : Nat} (h : w.heap[b]? = some (candO d)) : st 28 w (.pointer (some ⟨b, 0, none⟩)) (candV c) = .ok () (w.setRow b (cc c).toArray) := by
  unfold st candV
  simp only [Instr.storeAt, Instr.sureAddr, Sem.run_bind, Sem.run_pure, Result.andThen_ok]
  exact run_storeVar_row _ _ 28 28 (cc d).toArray (cc c).toArray h (by rw [size28]; simp [cc_len hc]) (by simp [cc_len hc, cc_len hd]) (cc_all c)
theorem stNew {c : List Int} (hc : Cv c) (w : World) : st 28 (w.alloc (candO noCand)) (.pointer (some ⟨w.heap.size, 0, none⟩)) (candV c) = .ok () (w.alloc (candO c)) := by
  rw [stVar hc noCand_cv (MapKept.heap_alloc w _).1]
  unfold candO
  rw [setRow_alloc]
theorem results_cell2 {fn : Func} {t u : Tmp} (h : fn.results = #[.cell t 28, .tmp u]) (tmps : Array Value) {w : World} {b : Nat} {c : List Int} (hb : tmps.getD t undef = .pointer (some ⟨b, 0, none⟩)) (hc : Cv c) (hh : w.heap[b]? = some (candO c)) :
    (results fn tmps).run Try.prog w = .ok (.tuple #[candV c, tmps.getD u undef]) w := by
  have := ldCand hc hh
  unfold ld at this
  simp only [Instr.loadAt, Instr.sureAddr, Sem.run_bind, Sem.run_pure, Result.andThen_ok] at this
  have e : (asAddr (tmps.getD t undef)).run Try.prog w = .ok ⟨b, 0, none⟩ w := by rw [hb]; rfl
  simp only [results, h, Sem.run_bind, List.mapM_toArray, List.mapM_cons, List.mapM_nil, Sem.run_map, e, this, Result.andThen_ok, Sem.run_pure]
  rfl

section
variable {T H m tb mb qb n : Nat} {B : Int → Option Blk} {A : ASt} {ex : List (Nat × Obj)} {w w' : World}
theorem Tal2.below (h : Tal2 H m tb mb qb n B A ex w) (hb : Below w.heap.size w w') : Tal2 H m tb mb qb n B A ex w' := h.keep (Nat.le_refl _) hb.size fun k hk _ => hb.block k hk

/-- The attempts' map, looked up. -/
theorem Tal2.find (h : Tal2 H m tb mb qb n B A ex w) {att : Int} {b : Blk} (hB : B att = some b) (hatt : (Lit.int .i64 att).wf = true) : (Instr.lookup 64 (.map (some mb)) (.int .i64 att) false).run Try.prog w = .ok (.pointer (some ⟨b.z, 0, none⟩)) w := by
  obtain ⟨D, hown, hD⟩ := h.map
  have hkey : keyOf Try.prog 2 (.int .i64 att) = some (.int .i64 att) := Maps.keyOf_int_mk Try.underlying2 hatt
  have hz : (zeroValue 46).run Try.prog w = .ok (.pointer none) w := by kernel_rfl
  obtain ⟨v, ps, hrun, hv⟩ := hown.lookup keyed2 Try.underlying64 hz (zd := .lit (.int .i64 (-1))) (zp := []) rfl hkey
  rw [hD att, lookB, hB] at hv
  obtain rfl := ptrElem_some hv
  exact hrun
theorem Tal2.cell1 (h : Tal2 H m tb mb qb n B A ex w) : w.cell? ⟨tb, 1, none⟩ = some (.map (some mb)) := by
  obtain ⟨lv, hc, _⟩ := h.cells
  rw [cell_of hc]; rfl
theorem Tal2.cell3 (h : Tal2 H m tb mb qb n B A ex w) : w.cell? ⟨tb, 3, none⟩ = some (.map (some qb)) := by
  obtain ⟨lv, hc, _⟩ := h.cells
  rw [cell_of hc]; rfl
theorem zero2 (u : World) : (zeroValue 2).run Try.prog u = .ok (.int .i64 0) u := by kernel_rfl

/-- ZZWeightAt (function 14). -/
theorem weightAt2 (h : Tal2 H m tb mb qb n B A ex w) {att : Int} {b : Blk} (hB : B att = some b) (hatt : (Lit.int .i64 att).wf = true) {c : List Int} (hc : Cv c) :
    Calls Try.prog 14 #[.pointer (some ⟨tb, 0, none⟩), .int .i64 att, candV c] w fun e w' => e = .returned (.int .i64 (((A.of att).wt c).getD 0)) ∧ Below w.heap.size w w' := by
  have hbox := fun w => bx28_is c w
  have h2 := h.alloc (candO c)
  have hf := h2.find hB hatt
  have c1 := h2.cell1
  have hb := h2.balls att b hB
  have c6 := hb.c6
  obtain ⟨f, hM, hfw⟩ := hb.wt
  obtain ⟨l, hk⟩ := key28 hc
  have lkw : ∀ nd, (Instr.lookup 71 (.map (some b.x18)) (candV c) false).run Try.prog ((w.alloc (candO c)).drewN nd) = .ok (.int .i64 (((A.of att).wt c).getD 0)) ((w.alloc (candO c)).drewN nd) := fun nd => by
    have := (hM.keep (w' := (w.alloc (candO c)).drewN nd) rfl).look keyed28 Try.underlying71 (zero2 _) hk
    rw [hfw c] at this
    rw [this]
    cases (A.of att).wt c <;> rfl
  have lc : ∀ nd, ld 28 ((w.alloc (candO c)).drewN nd) (.pointer (some ⟨w.heap.size, 0, none⟩)) = .ok (candV c) ((w.alloc (candO c)).drewN nd) := fun nd => ldCand hc (show ((w.alloc (candO c)).drewN nd).heap[w.heap.size]? = _ from (MapKept.heap_alloc w _).1)
  have V := hide ((Below.refl w.heap.size w).alloc (Nat.le_refl _) (candO c))
  generalize ((A.of att).wt c).getD 0 = x at lkw
  clear h h2 hb hM hfw hk
  go_enter Try.func14, Try.ntmps14
  go_upto_region 1 with fail
  generalize w.alloc (candO c) = w1 at *
  generalize hS : w.heap.size = S at *
  go_wp2
  go_quiet (fail)
  go_wp2
  go_ret
  rw [hS]
  exact ⟨rfl, V.out.trans (show Below S w1 (w1.drewN nq) from ⟨rfl, rfl, rfl, Nat.le_refl _, fun _ _ => rfl⟩)⟩

/-- ZZWeightCount (function 27). -/
theorem weightCount2 (h : Tal2 H m tb mb qb n B A ex w) {att : Int} {b : Blk} (hB : B att = some b) (hatt : (Lit.int .i64 att).wf = true) :
    Calls Try.prog 27 #[.pointer (some ⟨tb, 0, none⟩), .int .i64 att] w fun e w' => e = .returned (.int .i64 ((A.of att).kinds : Int)) ∧ w = w' := by
  have hf := h.find hB hatt
  have c1 := h.cell1
  have hb := h.balls att b hB
  have c6 := hb.c6
  obtain ⟨f, hM, hfw⟩ := hb.wt
  have hl := fun ty => hM.len Try.underlying71 ty
  clear h hb hM hfw
  go_enter Try.func27, Try.ntmps27
  go_wp2
  go_ret
  exact ⟨rfl, rfl⟩

/-- ZZAdd (function 12). -/
theorem zzadd2 (h : Tal2 H m tb mb qb n B A ex w) (t1 : T ≤ tb) (t2 : T ≤ mb) (t3 : T ≤ qb) (hm : m ≤ 4096) (hn : n < 1000000) (att br wt tot : Int) (mem : Nat) (c : List Int) (hmem : mem < m) (hs : Sv ⟨att, mem, br, c, wt, tot⟩)
    (w1' : -288230376151711744 ≤ ((A.of att).wt c).getD 0 ∧ ((A.of att).wt c).getD 0 ≤ 288230376151711744) (w2' : -70368744177664 ≤ wt ∧ wt ≤ 70368744177664) (w3' : -70368744177664 ≤ tot ∧ tot ≤ 70368744177664) :
    Calls Try.prog 12 #[.pointer (some ⟨tb, 0, none⟩), .int .i64 att, .int .i64 (mem : Int), .int .i64 br, candV c, .int .i64 wt, .int .i64 tot] w fun e w' => e = .returned (.tuple #[.bool (A.counted ⟨att, mem, br, c, wt, tot⟩), .bool (A.made ⟨att, mem, br, c, wt, tot⟩)]) ∧ (∃ B' b, Tal2 H m tb mb qb (n + 5) B' (A.next ⟨att, mem, br, c, wt, tot⟩) ex w' ∧ B' att = some b) ∧ Below T w w' := by
  have hbox := fun w => bx28_is c w
  have hTs : T ≤ w.heap.size := by
    have a := h.htb; have b := h.hH; omega
  have ha := add2 (T := T) (h.alloc (candO c)) t1 t2 t3 hm hn att br wt tot mem c hmem hs w1' w2' w3'
  have lc : ld 28 (w.alloc (candO c)) (.pointer (some ⟨w.heap.size, 0, none⟩)) = .ok (candV c) (w.alloc (candO c)) := ldCand hs.c (MapKept.heap_alloc w _).1
  have V := hide ((Below.refl T w).alloc hTs (candO c))
  clear h hs w1' w2' w3'
  go_enter Try.func12, Try.ntmps12
  go_wp2_with fail
  refine ha.mono ?_
  rintro e w1 ⟨rfl, hT, hb⟩
  have HT := hide hT
  have HB := hide hb
  clear hT hb ha lc hbox
  go_wp2
  go_ret2
  exact ⟨rfl, HT.out, V.out.trans HB.out⟩
end
end Go.Proofs.Qxb6603231a
