import Derived.Test.Qxb6603218aRows
import Derived.WalkKit
import Derived.WalkSpells
import Derived.Laws.Tables
import Derived.LoopTactic
import Derived.Below
namespace Go.Proofs.Qxb6603218a
open Go.RowKit

theorem hide {p : Prop} (h : p) : Hid p := h

/-- A row of bytes in memory. -/
def R (l : List Int) : Array Value := (l.map (Value.int .u8)).toArray
theorem R_get (l : List Int) (i : Nat) : (R l)[i]? = (l[i]?).map (Value.int .u8) := by simp [R]
theorem R_at (l : List Int) (i : Nat) (h : i < l.length) : (R l)[i]? = some (.int .u8 (l.getD i 0)) := by
  rw [R_get, List.getElem?_eq_getElem h, List.getD_eq_getElem?_getD, List.getElem?_eq_getElem h]; rfl
theorem R_set (l : List Int) (i : Nat) (x : Int) : (R l).setIfInBounds i (.int .u8 x) = R (l.set i x) := by
  unfold R
  apply Array.ext'
  simp [List.map_set]
theorem R_size (l : List Int) : (R l).size = l.length := by simp [R]

theorem info5 : (Try.prog.info? 5).map (fun i => (i.zero, i.size, i.bytes)) = some (some (.int .u8 0), 1, 1) := by kernel_rfl

theorem made (n : Nat) : madeCells (Value.int .u8 0).cells n = R (List.replicate n 0) := by
  unfold madeCells R
  apply Array.ext'
  simp only [Array.toList_map, Array.toList_range, List.map_replicate]
  apply List.ext_getElem
  · simp
  · intro i h1 h2
    simp [Value.cells, Nat.mod_one]

theorem make_run (n : Nat) (k : Nat) (hk : k ≤ n) (hn : n ≤ 1048576) (w : World) :
    (Instr.makeSlice 22 (.int .i64 (k : Int)) (.int .i64 (n : Int))).run Try.prog w = .ok (.slice (some ⟨w.heap.size, 0, none⟩) k n) (w.alloc (.cells (R (List.replicate n 0)) 5)) := by
  obtain ⟨i, hi, hz, h1, h2⟩ := info_parts info5
  have := run_make (P := Try.prog) w 22 5 i _ Try.underlying22 hi hz .i64 .i64 (k : Int) (n : Int) (by omega) (by omega) (by rw [h2]; omega) (by omega)
  rw [h1, Nat.mul_one, Int.toNat_natCast, Int.toNat_natCast, made] at this
  exact this

theorem heap_new (w : World) (o : Obj) : (w.alloc o).heap[w.heap.size]? = some o := by
  show (w.heap.push o)[w.heap.size]? = some o
  exact Array.getElem?_push_size

theorem setRow_alloc (w : World) (old cs : Array Value) (t : TypeId) : (w.alloc (.cells old t)).setRow w.heap.size cs = w.alloc (.cells cs t) := by
  unfold World.setRow World.alloc
  congr 1
  apply Array.ext
  · simp
  · intro i h1 h2
    simp only [Array.getElem_modify]
    simp only [Array.size_push] at h2
    by_cases hi : i = w.heap.size
    · subst hi; simp
    · rw [if_neg (Ne.symm hi)]; rw [Array.getElem_push_lt (by omega), Array.getElem_push_lt (by omega)]

/-- 'append(s, x...)' where s is the newest row and has room. -/
theorem wpList_append_row {ops : Array Oper} {rest : List Oper} {o : Oper} {a : Act} {w0 : World} {Q : Exit → Act → World → Prop} (hgd : o.guard = none) (s x : Operand)
    (ho : o.op = .call { callee := .builtin .append, args := #[s, x], argTypes := #[22, 22] }) (l news : List Int) (n m cap c : Nat) (ad : Addr)
    (hs : a.eval s = .slice (some ⟨w0.heap.size, 0, none⟩) n cap) (hx : a.eval x = .slice (some ad) m c) (hl : news.length = m)
    (hnews : ∀ j, j < m → (w0.alloc (.cells (R l) 5)).cell? (ad.add j) = some (.int .u8 (news.getD j 0))) (hroom : n + m ≤ cap) (hfit : n + m ≤ l.length)
    (h : wpList Try.prog ops Q rest (a.put o.dst (.slice (some ⟨w0.heap.size, 0, none⟩) (n + m) cap)) (w0.alloc (.cells (R (l.take n ++ news ++ l.drop (n + m))) 5))) :
    wpList Try.prog ops Q (o :: rest) a (w0.alloc (.cells (R l) 5)) := by
  obtain ⟨i, hi, hz, h1, h2⟩ := info_parts info5
  have hr := run_append_room (P := Try.prog) (w0.alloc (.cells (R l) 5)) 22 o.type 5 i Try.underlying22 hi w0.heap.size n cap (R l) (heap_new _ _) ad m c (news.map (Value.int .u8)) (by rw [h1]; simpa using hl)
    (by
      intro j u hj
      rw [List.getElem?_map] at hj
      have hjl : j < news.length := by
        by_cases hh : j < news.length
        · exact hh
        · rw [List.getElem?_eq_none (by omega)] at hj; cases hj
      rw [hnews j (by omega), List.getD_eq_getElem?_getD]
      rw [List.getElem?_eq_getElem hjl] at hj ⊢
      simpa using hj)
    (ints_oneCell .u8 news) hroom (by rw [h1, R_size]; simp [hl]; omega)
  have e : ((R l).toList.take (n * i.size) ++ news.map (Value.int .u8) ++ (R l).toList.drop (n * i.size + (news.map (Value.int .u8)).length)).toArray = R (l.take n ++ news ++ l.drop (n + m)) := by
    rw [h1]; simp [R, hl, List.map_take, List.map_drop]
  rw [e, setRow_alloc] at hr
  refine wpList_plain hgd fun K hK => ?_
  unfold Oper.wp execOp
  simp only [ho, resolve, invoke, builtin, Sem.run_bind, Sem.run_pure, Result.andThen_ok, List.map_toArray, List.map_cons, List.map_nil, hs, hx, hr]
  exact hK _ _ h
end Go.Proofs.Qxb6603218a
