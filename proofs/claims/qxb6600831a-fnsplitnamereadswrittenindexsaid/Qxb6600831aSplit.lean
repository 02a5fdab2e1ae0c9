import Derived.Test.Qxb6600831aRows
import Derived.WalkKit
import Derived.WalkSpells
import Derived.RegionTactic
import Derived.Deep.QuietTactic
import Derived.BigQuiet
namespace Go.Proofs.Qxb6600831a
open Go.RowKit

/-! THE WALKS OF splitName (function 18), a way each. x: name without its last byte. o: the place of the last opening bracket; q: the place of the last bracket with a quote behind it; both in x. -/
/-- No ']' at the end. -/
theorem split_nocut (b off : Nat) (name x : ByteArray) (w : World)
    (cC : ∀ wx, Calls Try.prog 20 #[.string name, .string ⟨#[93]⟩] wx fun e w' => e = .returned (.tuple #[.string x, .bool false]) ∧ wx = w') :
    Calls Try.prog 18 #[.pointer (some ⟨b, off, none⟩), .string name] w fun e w' => e = .returned (.tuple #[.string name, .string ⟨#[]⟩, .int .i64 0]) ∧ ∃ n, w' = w.drewN n := by
  go_enter Try.func18, Try.ntmps18
  go_wp2_with (go_at_call 20; refine (cC _).mono ?_; rintro e w' ⟨rfl, rfl⟩)
  go_ret3
  exact ⟨rfl, 0, rfl⟩

/-- A ']' at the end, a '[' ahead of it, desktop. -/
theorem split_desktop (b off : Nat) (name x : ByteArray) (o : Nat) (w : World) (hx : x.size < 4611686018427387904) (hn : x.size < name.size) (ho : o < x.size)
    (hd : w.cell? ⟨b, off + 12, none⟩ = some (.bool true))
    (cC : ∀ wx, Calls Try.prog 20 #[.string name, .string ⟨#[93]⟩] wx fun e w' => e = .returned (.tuple #[.string x, .bool true]) ∧ wx = w')
    (cL : ∀ wx, Calls Try.prog 21 #[.string x, .int .u8 91] wx fun e w' => e = .returned (.int .i64 (o : Int)) ∧ wx = w') :
    Calls Try.prog 18 #[.pointer (some ⟨b, off, none⟩), .string name] w fun e w' => e = .returned (.tuple #[.string (name.extract 0 o), .string (x.extract (o + 1) x.size), .int .i64 3]) ∧ ∃ n, w' = w.drewN n := by
  go_enter Try.func18, Try.ntmps18
  go_wp2_with (first
    | (go_at_call 20; refine (cC _).mono ?_; rintro e w' ⟨rfl, rfl⟩)
    | (go_at_call 21; refine (cL _).mono ?_; rintro e w' ⟨rfl, rfl⟩))
  go_quiet (fail)
  go_wp2
  go_ret3
  exact ⟨rfl, _, rfl⟩

/-- A ']' at the end, plain, and not (desktop with a '['). -/
theorem split_plain (b off : Nat) (name x : ByteArray) (d : Bool) (o : Int) (w : World) (ho : d = false ∨ o < 0)
    (hd : w.cell? ⟨b, off + 12, none⟩ = some (.bool d)) (hp : w.cell? ⟨b, off + 3, none⟩ = some (.bool true))
    (cC : ∀ wx, Calls Try.prog 20 #[.string name, .string ⟨#[93]⟩] wx fun e w' => e = .returned (.tuple #[.string x, .bool true]) ∧ wx = w')
    (cL : ∀ wx, Calls Try.prog 21 #[.string x, .int .u8 91] wx fun e w' => e = .returned (.int .i64 o) ∧ wx = w') :
    Calls Try.prog 18 #[.pointer (some ⟨b, off, none⟩), .string name] w fun e w' => e = .returned (.tuple #[.string name, .string ⟨#[]⟩, .int .i64 0]) ∧ ∃ n, w' = w.drewN n := by
  rcases ho with rfl | ho
  · go_enter Try.func18, Try.ntmps18
    go_wp2_with (first
      | (go_at_call 20; refine (cC _).mono ?_; rintro e w' ⟨rfl, rfl⟩)
      | (go_at_call 21; refine (cL _).mono ?_; rintro e w' ⟨rfl, rfl⟩))
    go_ret3
    exact ⟨rfl, 0, rfl⟩
  · cases d
    all_goals
      go_enter Try.func18, Try.ntmps18
      go_wp2_with (first
        | (go_at_call 20; refine (cC _).mono ?_; rintro e w' ⟨rfl, rfl⟩)
        | (go_at_call 21; refine (cL _).mono ?_; rintro e w' ⟨rfl, rfl⟩))
      go_ret3
      exact ⟨rfl, 0, rfl⟩

/-- A ']' at the end, no '[' ahead of it, not plain. -/
theorem split_noopen (b off : Nat) (name x : ByteArray) (d : Bool) (o q : Int) (w : World) (ho : o < 0) (hq : q < 0)
    (hd : w.cell? ⟨b, off + 12, none⟩ = some (.bool d)) (hp : w.cell? ⟨b, off + 3, none⟩ = some (.bool false))
    (cC : ∀ wx, Calls Try.prog 20 #[.string name, .string ⟨#[93]⟩] wx fun e w' => e = .returned (.tuple #[.string x, .bool true]) ∧ wx = w')
    (cL : ∀ wx, Calls Try.prog 21 #[.string x, .int .u8 91] wx fun e w' => e = .returned (.int .i64 o) ∧ wx = w')
    (cQ : ∀ wx, Calls Try.prog 22 #[.string x, .string ⟨#[91, 34]⟩] wx fun e w' => e = .returned (.int .i64 q) ∧ wx = w') :
    Calls Try.prog 18 #[.pointer (some ⟨b, off, none⟩), .string name] w fun e w' => e = .returned (.tuple #[.string name, .string ⟨#[]⟩, .int .i64 0]) ∧ ∃ n, w' = w.drewN n := by
  cases d
  all_goals
    go_enter Try.func18, Try.ntmps18
    go_wp2_with (first
      | (go_at_call 20; refine (cC _).mono ?_; rintro e w' ⟨rfl, rfl⟩)
      | (go_at_call 21; refine (cL _).mono ?_; rintro e w' ⟨rfl, rfl⟩)
      | (go_at_call 22; refine (cQ _).mono ?_; rintro e w' ⟨rfl, rfl⟩))
    go_ret3
    exact ⟨rfl, 0, rfl⟩

/-- A quoted index. -/
theorem split_quoted (b off : Nat) (name x : ByteArray) (o : Int) (q : Nat) (w : World) (hx : x.size < 4611686018427387904) (hn : x.size < name.size) (hq : q + 2 < x.size)
    (hd : w.cell? ⟨b, off + 12, none⟩ = some (.bool false)) (hp : w.cell? ⟨b, off + 3, none⟩ = some (.bool false))
    (cC : ∀ wx, Calls Try.prog 20 #[.string name, .string ⟨#[93]⟩] wx fun e w' => e = .returned (.tuple #[.string x, .bool true]) ∧ wx = w')
    (cL : ∀ wx, Calls Try.prog 21 #[.string x, .int .u8 91] wx fun e w' => e = .returned (.int .i64 o) ∧ wx = w')
    (cQ : ∀ wx, Calls Try.prog 22 #[.string x, .string ⟨#[91, 34]⟩] wx fun e w' => e = .returned (.int .i64 (q : Int)) ∧ wx = w')
    (cS : ∀ wx, Calls Try.prog 23 #[.string x, .string ⟨#[34]⟩] wx fun e w' => e = .returned (.bool true) ∧ wx = w') :
    Calls Try.prog 18 #[.pointer (some ⟨b, off, none⟩), .string name] w fun e w' => e = .returned (.tuple #[.string (name.extract 0 q), .string (x.extract (q + 2) (x.size - 1)), .int .i64 2]) ∧ ∃ n, w' = w.drewN n := by
  go_enter Try.func18, Try.ntmps18
  go_wp2_with (first
    | (go_at_call 20; refine (cC _).mono ?_; rintro e w' ⟨rfl, rfl⟩)
    | (go_at_call 21; refine (cL _).mono ?_; rintro e w' ⟨rfl, rfl⟩)
    | (go_at_call 22; refine (cQ _).mono ?_; rintro e w' ⟨rfl, rfl⟩)
    | (go_at_call 23; refine (cS _).mono ?_; rintro e w' ⟨rfl, rfl⟩))
  go_quiet (fail)
  go_wp2
  go_ret3
  exact ⟨rfl, _, rfl⟩

/-- An empty index. -/
theorem split_array (b off : Nat) (name x : ByteArray) (o : Nat) (q : Int) (s : Bool) (w : World) (hx : x.size < 4611686018427387904) (hn : x.size < name.size) (ho : o + 1 = x.size)
    (hq : q < 0 ∨ (0 ≤ q ∧ (x.size : Int) ≤ q + 2 ∧ q < 4611686018427387904) ∨ (0 ≤ q ∧ q + 2 < (x.size : Int) ∧ s = false))
    (hd : w.cell? ⟨b, off + 12, none⟩ = some (.bool false)) (hp : w.cell? ⟨b, off + 3, none⟩ = some (.bool false))
    (cC : ∀ wx, Calls Try.prog 20 #[.string name, .string ⟨#[93]⟩] wx fun e w' => e = .returned (.tuple #[.string x, .bool true]) ∧ wx = w')
    (cL : ∀ wx, Calls Try.prog 21 #[.string x, .int .u8 91] wx fun e w' => e = .returned (.int .i64 (o : Int)) ∧ wx = w')
    (cQ : ∀ wx, Calls Try.prog 22 #[.string x, .string ⟨#[91, 34]⟩] wx fun e w' => e = .returned (.int .i64 q) ∧ wx = w')
    (cS : ∀ wx, Calls Try.prog 23 #[.string x, .string ⟨#[34]⟩] wx fun e w' => e = .returned (.bool s) ∧ wx = w') :
    Calls Try.prog 18 #[.pointer (some ⟨b, off, none⟩), .string name] w fun e w' => e = .returned (.tuple #[.string (name.extract 0 o), .string ⟨#[]⟩, .int .i64 1]) ∧ ∃ n, w' = w.drewN n := by
  have hb : ((o : Int) == (x.size : Int) - 1) = true := beq_iff_eq.2 (by omega)
  have ho1 : o + 1 ≤ x.size := by omega
  clear ho
  rcases hq with hq | ⟨hq, hq2, hq3⟩ | ⟨hq, hq2, rfl⟩
  all_goals
    go_enter Try.func18, Try.ntmps18
    go_wp2_with (first
      | (go_at_call 20; refine (cC _).mono ?_; rintro e w' ⟨rfl, rfl⟩)
      | (go_at_call 21; refine (cL _).mono ?_; rintro e w' ⟨rfl, rfl⟩)
      | (go_at_call 22; refine (cQ _).mono ?_; rintro e w' ⟨rfl, rfl⟩)
      | (go_at_call 23; refine (cS _).mono ?_; rintro e w' ⟨rfl, rfl⟩))
    go_ret3
    exact ⟨rfl, 0, rfl⟩

/-- A bare index. -/
theorem split_map (b off : Nat) (name x : ByteArray) (o : Nat) (q : Int) (s : Bool) (w : World) (hx : x.size < 4611686018427387904) (hn : x.size < name.size) (ho : o + 1 < x.size)
    (hq : q < 0 ∨ (0 ≤ q ∧ (x.size : Int) ≤ q + 2 ∧ q < 4611686018427387904) ∨ (0 ≤ q ∧ q + 2 < (x.size : Int) ∧ s = false))
    (hd : w.cell? ⟨b, off + 12, none⟩ = some (.bool false)) (hp : w.cell? ⟨b, off + 3, none⟩ = some (.bool false))
    (cC : ∀ wx, Calls Try.prog 20 #[.string name, .string ⟨#[93]⟩] wx fun e w' => e = .returned (.tuple #[.string x, .bool true]) ∧ wx = w')
    (cL : ∀ wx, Calls Try.prog 21 #[.string x, .int .u8 91] wx fun e w' => e = .returned (.int .i64 (o : Int)) ∧ wx = w')
    (cQ : ∀ wx, Calls Try.prog 22 #[.string x, .string ⟨#[91, 34]⟩] wx fun e w' => e = .returned (.int .i64 q) ∧ wx = w')
    (cS : ∀ wx, Calls Try.prog 23 #[.string x, .string ⟨#[34]⟩] wx fun e w' => e = .returned (.bool s) ∧ wx = w') :
    Calls Try.prog 18 #[.pointer (some ⟨b, off, none⟩), .string name] w fun e w' => e = .returned (.tuple #[.string (name.extract 0 o), .string (x.extract (o + 1) x.size), .int .i64 2]) ∧ ∃ n, w' = w.drewN n := by
  have hb : ((o : Int) == (x.size : Int) - 1) = false := beq_eq_false_iff_ne.2 (by omega)
  rcases hq with hq | ⟨hq, hq2, hq3⟩ | ⟨hq, hq2, rfl⟩
  all_goals
    go_enter Try.func18, Try.ntmps18
    go_wp2_with (first
      | (go_at_call 20; refine (cC _).mono ?_; rintro e w' ⟨rfl, rfl⟩)
      | (go_at_call 21; refine (cL _).mono ?_; rintro e w' ⟨rfl, rfl⟩)
      | (go_at_call 22; refine (cQ _).mono ?_; rintro e w' ⟨rfl, rfl⟩)
      | (go_at_call 23; refine (cS _).mono ?_; rintro e w' ⟨rfl, rfl⟩))
    go_quiet (fail)
    go_wp2
    go_ret3
    exact ⟨rfl, _, rfl⟩
end Go.Proofs.Qxb6600831a
