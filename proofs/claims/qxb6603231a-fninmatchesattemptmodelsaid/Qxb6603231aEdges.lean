import Derived.Test.Qxb6603231aLaw4
namespace Go.Proofs.Qxb6603231a
open Go Go.RowKit

theorem law4_huge (x : Int) (a : Option Addr) (n c : Nat) (w : World) (h : (1048576 : Int) < n) :
    Calls Try.prog 4 #[.int .i64 x, .slice a n c] w fun e w' => e = .returned (.bool true) ∧ Below w.heap.size w w' := by
  have b15 := bytes15_no (.int .i64 x) a n c w h
  clear h
  go_enter Try.func4, Try.ntmps4
  go_wp2_with (go_at_call 15; refine b15.mono ?_; rintro e w' ⟨rfl, rfl⟩)
  go_ret
  exact ⟨rfl, Below.refl _ _⟩
theorem law4_long (x : Int) (a : Option Addr) (n c : Nat) (w : World) (h1 : (n : Int) ≤ 1048576) (h2 : (4096 : Int) < n) :
    Calls Try.prog 4 #[.int .i64 x, .slice a n c] w fun e w' => e = .returned (.bool true) ∧ Below w.heap.size w w' := by
  have b15 := bytes15_yes (.int .i64 x) a n c w h1
  have p1 : decide ((4096 : Int) < (n : Int)) = true := decide_eq_true h2
  clear h1 h2
  go_enter Try.func4, Try.ntmps4
  go_wp2_with (go_at_call 15; refine b15.mono ?_; rintro e w' ⟨rfl, rfl⟩)
  go_ret
  exact ⟨rfl, Below.refl _ _⟩
theorem law4_neg (x : Int) (a : Option Addr) (n c : Nat) (w : World) (h1 : (n : Int) ≤ 4096) (h2 : x < 0) :
    Calls Try.prog 4 #[.int .i64 x, .slice a n c] w fun e w' => e = .returned (.bool true) ∧ Below w.heap.size w w' := by
  have b15 := bytes15_yes (.int .i64 x) a n c w (by omega)
  have p1 : decide ((4096 : Int) < (n : Int)) = false := decide_eq_false (by omega)
  have p2 : decide (x < 0) = true := decide_eq_true h2
  clear h1 h2
  go_enter Try.func4, Try.ntmps4
  go_wp2_with (go_at_call 15; refine b15.mono ?_; rintro e w' ⟨rfl, rfl⟩)
  go_ret
  exact ⟨rfl, Below.refl _ _⟩
theorem law4_wide (x : Int) (a : Option Addr) (n c : Nat) (w : World) (h1 : (n : Int) ≤ 4096) (h2 : 4096 < x) :
    Calls Try.prog 4 #[.int .i64 x, .slice a n c] w fun e w' => e = .returned (.bool true) ∧ Below w.heap.size w w' := by
  have b15 := bytes15_yes (.int .i64 x) a n c w (by omega)
  have p1 : decide ((4096 : Int) < (n : Int)) = false := decide_eq_false (by omega)
  have p2 : decide (x < 0) = false := decide_eq_false (by omega)
  have p3 : decide (4096 < x) = true := decide_eq_true h2
  clear h1 h2
  go_enter Try.func4, Try.ntmps4
  go_wp2_with (go_at_call 15; refine b15.mono ?_; rintro e w' ⟨rfl, rfl⟩)
  go_ret
  exact ⟨rfl, Below.refl _ _⟩

theorem distinct_zero (a : Option Addr) (c : Nat) (w : World) : Calls Try.prog 16 #[.slice a 0 c] w fun e w' => e = .returned (.int .i64 0) ∧ w = w' := by
  go_enter Try.func16, Try.ntmps16
  go_wp2
  go_loopg [3, 4] 0 (fun _ t3 t4 wr => t3 = .int .i64 0 ∧ t4 = .int .i64 0 ∧ w = wr)
  case atStart => exact ⟨rfl, rfl, rfl⟩
  case round =>
    obtain ⟨rfl, rfl, rfl⟩ := hrel
    go_wp2
    go_ret
    exact ⟨rfl, rfl⟩
theorem copy_nil (w : World) : Calls Try.prog 17 #[.slice none 0 0] w fun e w' => e = .returned (.slice none 0 0) ∧ Below w.heap.size w w' := by
  have hnil := fun (wx : World) => Lib.run_eql_slice_nil (P := Try.prog) wx 39 45 none 0 0 0 0 Try.underlying39
  go_enter Try.func17, Try.ntmps17
  go_wp2
  go_ret
  exact ⟨rfl, Below.refl _ _⟩
theorem copy_zero (a : Addr) (c : Nat) (w : World) : Calls Try.prog 17 #[.slice (some a) 0 c] w fun e w' => e = .returned (.slice (some ⟨w.heap.size, 0, none⟩) 0 0) ∧ Below w.heap.size w w' := by
  obtain ⟨cs0, _, hmk⟩ := make45 0 (by omega) w
  have hmk' : (Instr.makeSlice 39 (.int .i64 0) (.int .i64 0)).run Try.prog w = .ok (.slice (some ⟨w.heap.size, 0, none⟩) 0 0) (w.alloc (.cells cs0 45)) := hmk
  have hnil := fun (wx : World) (c' : Nat) => Lib.run_eql_slice_nil (P := Try.prog) wx 39 45 (some a) 0 c' 0 0 Try.underlying39
  clear hmk
  go_enter Try.func17, Try.ntmps17
  go_wp2
  go_loopw [4] (fun i wr => i = .int .i64 0 ∧ w.alloc (.cells cs0 45) = wr) (fun _ _ => 0)
  case atStart => exact ⟨rfl, rfl⟩
  case round =>
    obtain ⟨rfl, rfl⟩ := hrel
    go_wp2
    go_ret
    exact ⟨rfl, (Below.refl _ _).alloc (Nat.le_refl _) _⟩

set_option maxRecDepth 100000 in
theorem law4_zero (m : Nat) (hm : m ≤ 4096) (a : Option Addr) (c : Nat) (ha : a = none → c = 0) (w : World) :
    Calls Try.prog 4 #[.int .i64 (m : Int), .slice a 0 c] w fun e w' => e = .returned (.bool true) ∧ Below w.heap.size w w' := by
  have b15 := bytes15_yes (.int .i64 (m : Int)) a 0 c w (by omega)
  have ds := distinct_zero a c w
  have cp : Calls Try.prog 17 #[.slice a 0 c] w fun e w' => ∃ a', e = .returned (.slice a' 0 0) ∧ Below w.heap.size w w' := by
    cases a with
    | none =>
      obtain rfl := ha rfl
      refine (copy_nil w).mono ?_
      rintro e w' ⟨h1, h2⟩; exact ⟨_, h1, h2⟩
    | some a =>
      refine (copy_zero a c w).mono ?_
      rintro e w' ⟨h1, h2⟩; exact ⟨_, h1, h2⟩
  obtain ⟨ss, _, mkS⟩ := make_one 35 2 _ 8 Try.underlying35 info2 (by omega) 0 (by omega)
  obtain ⟨pp, _, mkP⟩ := make_one 43 46 _ 8 Try.underlying43 info46 (by omega) 0 (by omega)
  have mkS' : ∀ w : World, (Instr.makeSlice 35 (.int .i64 0) (.int .i64 0)).run Try.prog w = .ok (.slice (some ⟨w.heap.size, 0, none⟩) 0 0) (w.alloc (.cells ss 2)) := mkS
  have mkP' : ∀ w : World, (Instr.makeSlice 43 (.int .i64 0) (.int .i64 0)).run Try.prog w = .ok (.slice (some ⟨w.heap.size, 0, none⟩) 0 0) (w.alloc (.cells pp 46)) := mkP
  have nw := fun W => new_any m W
  have p2 : decide ((4096 : Int) < (m : Int)) = false := decide_eq_false (by omega)
  have p3 : decide ((m : Int) < 0) = false := decide_eq_false (by omega)
  clear mkS mkP ha
  go_enter Try.func4, Try.ntmps4
  go_wp2_with (first | (go_at_call 15; refine b15.mono ?_; rintro e w' ⟨rfl, rfl⟩) | (go_at_call 16; refine ds.mono ?_; rintro e w' ⟨rfl, rfl⟩))
  refine cp.mono ?_
  rintro e W1 ⟨a', rfl, hb1⟩
  have hs1 := hb1.size
  have B1 := hide hb1
  have S1 := hide hs1
  clear hb1 hs1 cp b15 ds
  go_wp2_with fail
  refine (nw W1).mono ?_
  rintro e W2 ⟨rfl, hw2⟩
  have B2 : Hid (Below w.heap.size w W2 ∧ w.heap.size ≤ W2.heap.size) := by
    have s1 := S1.out
    rw [← hw2]
    exact ⟨((B1.out.alloc s1 _).alloc (by simp; omega) _).alloc (by simp; omega) _, by simp; omega⟩
  clear hw2 nw B1 S1
  go_wp2_with fail
  go_loopg [6, 7, 8] 0 (fun _ _ _ t8 wr => t8 = .int .i64 0 ∧ Hid (Below w.heap.size w wr))
  case atStart =>
    exact ⟨rfl, hide ((B2.out.1.alloc B2.out.2 _).alloc (by have := B2.out.2; simp; omega) _)⟩
  case round =>
    obtain ⟨rfl, HB⟩ := hrel
    go_wp2
    go_ret
    exact ⟨rfl, HB.out⟩
end Go.Proofs.Qxb6603231a
