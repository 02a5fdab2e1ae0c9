import Derived.Test.Qxb6603218aRow
import Derived.Lib.SliceRun
import Derived.Deep.QuietTactic
import Derived.BigQuiet
import Derived.Deep.LoopGhost
namespace Go.Proofs.Qxb6603218a
open Go.RowKit
attribute [local go_sem] R_set

/-- What has been copied behind k rounds. -/
def part (zs : List Int) (k : Nat) : List Int := zs.take k ++ List.replicate (zs.length - k) 0
theorem part_len (zs : List Int) (k : Nat) (h : k ≤ zs.length) : (part zs k).length = zs.length := by
  unfold part; simp; omega
theorem part_zero (zs : List Int) : part zs 0 = List.replicate zs.length 0 := by simp [part]
theorem part_all (zs : List Int) : part zs zs.length = zs := by simp [part]
theorem part_step (zs : List Int) (k : Nat) (h : k < zs.length) : (part zs k).set k (zs.getD k 0) = part zs (k + 1) := by
  unfold part
  obtain ⟨m, hm⟩ : ∃ m, zs.length - k = m + 1 := ⟨zs.length - k - 1, by omega⟩
  rw [hm, List.replicate_succ, show zs.length - (k + 1) = m by omega]
  rw [List.set_append_right _ _ (by simp; omega), List.length_take, Nat.min_eq_left (by omega), Nat.sub_self, List.set_cons_zero]
  rw [List.take_succ_eq_append_getElem h, List.getD_eq_getElem?_getD, List.getElem?_eq_getElem h, List.append_assoc]
  rfl

set_option maxHeartbeats 1000000 in
/-- zzB1CloneBytes (function 6), at a slice that is not empty. -/
theorem clone_any (b off n c : Nat) (zs : List Int) (w : World) (hz : zs.length = n) (hn : n ≤ 1048576) (hb : b < w.heap.size)
    (hcell : ∀ j, j < n → w.cell? ⟨b, off + j, none⟩ = some (.int .u8 (zs.getD j 0))) :
    Calls Try.prog 6 #[.slice (some ⟨b, off, none⟩) n c] w fun e w' => e = .returned (.slice (some ⟨w.heap.size, 0, none⟩) n n) ∧ w' = w.alloc (.cells (R zs) 5) := by
  have hmk := make_run n n (Nat.le_refl _) hn
  subst hz
  rw [← part_zero] at hmk
  have hnil := fun (wx : World) (c' : Nat) => Lib.run_eql_slice_nil (P := Try.prog) wx 22 5 (some ⟨b, off, none⟩) zs.length c' 0 0 Try.underlying22
  have Hcell := hide hcell
  clear hcell
  go_enter Try.func6, Try.ntmps6
  go_wp2
  go_loopw [4] (fun i wr => ∃ k : Nat, k ≤ zs.length ∧ i = .int .i64 k ∧ wr = w.alloc (.cells (R (part zs k)) 5)) (fun i _ => zs.length - (intOf i).toNat)
  case atStart => exact ⟨0, Nat.zero_le _, rfl, rfl⟩
  case round =>
    obtain ⟨k, hk, rfl, rfl⟩ := hrel
    by_cases hlt : k < zs.length
    · have hlt' : (k : Int) < (zs.length : Int) := by omega
      have hc := Hcell.out k hlt
      have hr := R_at (part zs k) k (by rw [part_len zs k hk]; exact hlt)
      have hs := part_step zs k hlt
      generalize zs.getD k 0 = z at hc hs
      generalize (part zs k).getD k 0 = y at hr
      have HS := hide hs
      clear hs
      go_wp2
      go_roundw
      case rel => exact ⟨k + 1, by omega, by go_num, by rw [← HS.out]⟩
      case measure => simp [intOf]; omega
    · obtain rfl : k = zs.length := by omega
      go_wp2
      go_ret
      exact ⟨rfl, by rw [part_all]⟩

theorem R_cell (w : World) (l : List Int) (j : Nat) (h : j < l.length) : (w.alloc (.cells (R l) 5)).cell? ⟨w.heap.size, 0 + j, none⟩ = some (.int .u8 (l.getD j 0)) := by
  rw [Nat.zero_add, World.cell?_alloc_at _ _ _ _ rfl]; exact R_at l j h

/-- 'append(msg, b[:145]...)'. -/
theorem wpList_append_one {ops : Array Oper} {rest : List Oper} {o : Oper} {a : Act} {w0 : World} {Q : Exit → Act → World → Prop} (hgd : o.guard = none) (s x : Operand)
    (ho : o.op = .call { callee := .builtin .append, args := #[s, x], argTypes := #[22, 22] }) (zs : List Int) (m b off c : Nat) (hz : zs.length = m + 209) (hb : b < w0.heap.size)
    (hcell : ∀ j, j < m + 209 → w0.cell? ⟨b, off + j, none⟩ = some (.int .u8 (zs.getD j 0)))
    (hs : a.eval s = .slice (some ⟨w0.heap.size, 0, none⟩) 0 (m + 145)) (hx : a.eval x = .slice (some ⟨b, off, none⟩) 145 c)
    (h : wpList Try.prog ops Q rest (a.put o.dst (.slice (some ⟨w0.heap.size, 0, none⟩) 145 (m + 145))) (w0.alloc (.cells (R (zs.take 145 ++ List.replicate m 0)) 5))) :
    wpList Try.prog ops Q (o :: rest) a (w0.alloc (.cells (R (List.replicate (m + 145) 0)) 5)) := by
  refine wpList_append_row hgd s x ho (List.replicate (m + 145) 0) (zs.take 145) 0 145 (m + 145) c ⟨b, off, none⟩ hs hx (by rw [List.length_take]; omega) ?_ (by omega) (by simp) ?_
  · intro j hj
    rw [Addr.add_lit, World.cell?_alloc_past _ _ _ hb, hcell j (by omega), List.getD_eq_getElem?_getD, List.getD_eq_getElem?_getD, List.getElem?_take, if_pos hj]
  · have e : (List.replicate (m + 145) (0 : Int)).take 0 ++ zs.take 145 ++ (List.replicate (m + 145) (0 : Int)).drop (0 + 145) = zs.take 145 ++ List.replicate m 0 := by simp
    rw [e, Nat.zero_add]; exact h

/-- 'append(msg, b[209:]...)'. -/
theorem wpList_append_two {ops : Array Oper} {rest : List Oper} {o : Oper} {a : Act} {w0 : World} {Q : Exit → Act → World → Prop} (hgd : o.guard = none) (s x : Operand)
    (ho : o.op = .call { callee := .builtin .append, args := #[s, x], argTypes := #[22, 22] }) (zs : List Int) (m b off c : Nat) (ad : Addr) (hz : zs.length = m + 209) (hb : b < w0.heap.size)
    (hcell : ∀ j, j < m + 209 → w0.cell? ⟨b, off + j, none⟩ = some (.int .u8 (zs.getD j 0)))
    (hs : a.eval s = .slice (some ⟨w0.heap.size, 0, none⟩) 145 (m + 145)) (hx : a.eval x = .slice (some ad) m c) (had : 0 < m → ad = ⟨b, off + 209, none⟩)
    (h : wpList Try.prog ops Q rest (a.put o.dst (.slice (some ⟨w0.heap.size, 0, none⟩) (145 + m) (m + 145))) (w0.alloc (.cells (R (zs.take 145 ++ zs.drop 209)) 5))) :
    wpList Try.prog ops Q (o :: rest) a (w0.alloc (.cells (R (zs.take 145 ++ List.replicate m 0)) 5)) := by
  have hl : (zs.take 145).length = 145 := by rw [List.length_take]; omega
  refine wpList_append_row hgd s x ho (zs.take 145 ++ List.replicate m 0) (zs.drop 209) 145 m (m + 145) c ad hs hx (by rw [List.length_drop]; omega) ?_ (by omega) (by rw [List.length_append, hl]; simp) ?_
  · intro j hj
    rw [had (by omega), Addr.add_lit, World.cell?_alloc_past _ _ _ hb, Nat.add_assoc, hcell (209 + j) (by omega), List.getD_eq_getElem?_getD, List.getD_eq_getElem?_getD, List.getElem?_drop]
  · have e : (zs.take 145 ++ List.replicate m (0 : Int)).take 145 ++ zs.drop 209 ++ (zs.take 145 ++ List.replicate m (0 : Int)).drop (145 + m) = zs.take 145 ++ zs.drop 209 := by
      have hd : (zs.take 145 ++ List.replicate m (0 : Int)).drop (145 + m) = [] := List.drop_eq_nil_of_le (by rw [List.length_append, hl]; simp)
      rw [List.take_left' hl, hd, List.append_nil]
    rw [e]; exact h

set_option maxRecDepth 100000 in
set_option maxHeartbeats 1000000 in
/-- signedBytes (function 10), at a slice whose length is its capacity. -/
theorem signed_any (b off m : Nat) (zs : List Int) (w : World) (hz : zs.length = m + 209) (hn : m + 209 ≤ 1048576) (hb : b < w.heap.size)
    (hcell : ∀ j, j < m + 209 → w.cell? ⟨b, off + j, none⟩ = some (.int .u8 (zs.getD j 0))) :
    Calls Try.prog 10 #[.slice (some ⟨b, off, none⟩) (m + 209) (m + 209)] w fun e w' => e = .returned (.slice (some ⟨w.heap.size, 0, none⟩) (145 + m) (m + 145)) ∧ w' = w.alloc (.cells (R (zs.take 145 ++ zs.drop 209)) 5) := by
  have hmk := make_run (m + 145) 0 (Nat.zero_le _) (by omega)
  rw [show ((m + 145 : Nat) : Int) = (m : Int) + 209 - 64 by omega, show ((0 : Nat) : Int) = 0 from rfl] at hmk
  have Hcell := hide hcell
  have Hz := hide hz
  clear hcell hz
  by_cases hm : 0 < m
  · go_enter Try.func10, Try.ntmps10
    go_wp2_with (first
      | (at_builtin; refine wpList_append_one rfl _ _ rfl zs m b off _ Hz hb Hcell rfl rfl ?_)
      | (at_builtin; refine wpList_append_two rfl _ _ rfl zs m b off _ _ Hz hb Hcell rfl rfl (fun _ => rfl) ?_))
    go_ret
    exact ⟨rfl, rfl⟩
  · obtain rfl : m = 0 := by omega
    clear hm hmk
    have hmk : ∀ w : World, (Instr.makeSlice 22 (.int .i64 0) (.int .i64 145)).run Try.prog w = .ok (.slice (some ⟨w.heap.size, 0, none⟩) 0 145) (w.alloc (.cells (R (List.replicate (0 + 145) 0)) 5)) := make_run 145 0 (Nat.zero_le _) (by omega)
    go_enter Try.func10, Try.ntmps10
    go_wp2_with (at_builtin; refine wpList_append_one rfl _ _ rfl zs 0 b off _ Hz hb Hcell rfl rfl ?_)
    go_ret
    exact ⟨rfl, by rw [List.drop_eq_nil_of_le (by have := Hz.out; omega), List.append_nil]⟩

/-- ZZSignedBytes (function 7). -/
theorem zzsigned_any (b off m : Nat) (zs : List Int) (w : World) (hz : zs.length = m + 209) (hn : m + 209 ≤ 1048576) (hb : b < w.heap.size)
    (hcell : ∀ j, j < m + 209 → w.cell? ⟨b, off + j, none⟩ = some (.int .u8 (zs.getD j 0))) :
    Calls Try.prog 7 #[.slice (some ⟨b, off, none⟩) (m + 209) (m + 209)] w fun e w' => e = .returned (.slice (some ⟨w.heap.size, 0, none⟩) (145 + m) (m + 145)) ∧ w' = w.alloc (.cells (R (zs.take 145 ++ zs.drop 209)) 5) := by
  have sg := signed_any b off m zs w hz hn hb hcell
  clear hcell hz
  go_enter Try.func7, Try.ntmps7
  go_wp2_with (go_at_call 10; refine sg.mono ?_; rintro e w' ⟨rfl, rfl⟩)
  go_ret
  exact ⟨rfl, rfl⟩

set_option maxHeartbeats 1000000 in
/-- zzB1EqualBytes (function 8), at two rows that hold the same bytes. -/
theorem equal_any (b1 o1 b2 o2 n c1 c2 : Nat) (zs : List Int) (w : World) (hn : n ≤ 1048576)
    (h1 : ∀ j, j < n → w.cell? ⟨b1, o1 + j, none⟩ = some (.int .u8 (zs.getD j 0))) (h2 : ∀ j, j < n → w.cell? ⟨b2, o2 + j, none⟩ = some (.int .u8 (zs.getD j 0))) :
    Calls Try.prog 8 #[.slice (some ⟨b1, o1, none⟩) n c1, .slice (some ⟨b2, o2, none⟩) n c2] w fun e w' => e = .returned (.bool true) ∧ ∃ q, w' = w.drewN q := by
  have H1 := hide h1
  have H2 := hide h2
  clear h1 h2
  go_enter Try.func8, Try.ntmps8
  go_wp2
  go_loopg [5] n (fun g i wr => ∃ k q : Nat, k ≤ n ∧ g = n - k ∧ i = .int .i64 (k : Int) ∧ wr = w.drewN q)
  case atStart => exact ⟨0, 0, Nat.zero_le _, rfl, rfl, rfl⟩
  case round =>
    obtain ⟨k, q, hk, hg, rfl, rfl⟩ := hrel
    by_cases hlt : k < n
    · have hlt' : (k : Int) < (n : Int) := by omega
      have c1 := H1.out k hlt
      have c2 := H2.out k hlt
      generalize zs.getD k 0 = z at c1 c2
      obtain ⟨W, hW⟩ : ∃ W, W = w.drewN q := ⟨_, rfl⟩
      have d1 : W.cell? ⟨b1, o1 + k, none⟩ = some (.int .u8 z) := by rw [hW]; exact c1
      have d2 : W.cell? ⟨b2, o2 + k, none⟩ = some (.int .u8 z) := by rw [hW]; exact c2
      rw [← hW]
      have HW := hide hW
      clear hW c1 c2
      go_wp2
      go_quiet (fail)
      go_wp2
      go_roundg (n - (k + 1))
      case measure => omega
      case rel => exact ⟨k + 1, q + nq, by omega, rfl, by go_num, by rw [HW.out, World.drewN_drewN]⟩
    · go_wp2
      go_ret
      exact ⟨rfl, q, rfl⟩
end Go.Proofs.Qxb6603218a
