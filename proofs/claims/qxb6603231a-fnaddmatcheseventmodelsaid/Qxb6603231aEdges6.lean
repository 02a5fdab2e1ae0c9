import Derived.Test.Qxb6603231aLaw6
namespace Go.Proofs.Qxb6603231a
open Go Go.RowKit

theorem law6_long (x : Int) (a : Option Addr) (n c : Nat) (w : World) (h : (4096 : Int) < n) :
    Calls Try.prog 6 #[.int .i64 x, .slice a n c] w fun e w' => e = .returned (.bool true) ∧ Below w.heap.size w w' := by
  have c24 := bytes24 (.int .i64 x) a n c w
  have p1 : decide ((4096 : Int) < (n : Int)) = true := decide_eq_true h
  clear h
  go_enter Try.func6, Try.ntmps6
  go_wp2_with fail
  refine c24.mono ?_
  rintro e w' ⟨⟨r24, rfl, _⟩, rfl⟩
  cases r24 with
  | false =>
    go_wp2
    go_ret
    exact ⟨rfl, Below.refl _ _⟩
  | true =>
    go_wp2
    go_ret
    exact ⟨rfl, Below.refl _ _⟩
theorem law6_neg (x : Int) (a : Option Addr) (n c : Nat) (w : World) (h1 : (n : Int) ≤ 4096) (h2 : x < 0) :
    Calls Try.prog 6 #[.int .i64 x, .slice a n c] w fun e w' => e = .returned (.bool true) ∧ Below w.heap.size w w' := by
  have c24 := bytes24 (.int .i64 x) a n c w
  have p1 : decide ((4096 : Int) < (n : Int)) = false := decide_eq_false (by omega)
  have p2 : decide (x < 0) = true := decide_eq_true h2
  clear h1 h2
  go_enter Try.func6, Try.ntmps6
  go_wp2_with fail
  refine c24.mono ?_
  rintro e w' ⟨⟨r24, rfl, _⟩, rfl⟩
  cases r24 with
  | false =>
    go_wp2
    go_ret
    exact ⟨rfl, Below.refl _ _⟩
  | true =>
    go_wp2
    go_ret
    exact ⟨rfl, Below.refl _ _⟩
theorem law6_wide (x : Int) (a : Option Addr) (n c : Nat) (w : World) (h1 : (n : Int) ≤ 4096) (h2 : 4096 < x) :
    Calls Try.prog 6 #[.int .i64 x, .slice a n c] w fun e w' => e = .returned (.bool true) ∧ Below w.heap.size w w' := by
  have c24 := bytes24 (.int .i64 x) a n c w
  have p1 : decide ((4096 : Int) < (n : Int)) = false := decide_eq_false (by omega)
  have p2 : decide (x < 0) = false := decide_eq_false (by omega)
  have p3 : decide (4096 < x) = true := decide_eq_true h2
  clear h1 h2
  go_enter Try.func6, Try.ntmps6
  go_wp2_with fail
  refine c24.mono ?_
  rintro e w' ⟨⟨r24, rfl, _⟩, rfl⟩
  cases r24 with
  | false =>
    go_wp2
    go_ret
    exact ⟨rfl, Below.refl _ _⟩
  | true =>
    go_wp2
    go_ret
    exact ⟨rfl, Below.refl _ _⟩
end Go.Proofs.Qxb6603231a
