import Derived.Test.Qxb6601015aRows
import Derived.Test.Qxb6601015aPlain
import Derived.WalkKit
import Derived.WalkSpells
import Derived.Deep.QuietTactic
import Derived.BigQuiet
import Derived.Deep.LoopGhost
import Derived.Outline
namespace Go.Proofs.Qxb6601015a
open Go.RowKit Num

theorem hide {p : Prop} (h : p) : Hid p := h
theorem size_data (a : ByteArray) : a.size = a.data.toList.length := by simp
theorem at_get (s : ByteArray) (k : Nat) (h : k < s.size) : s.data.toList.drop k = s[k] :: s.data.toList.drop (k + 1) := by
  have hl : k < s.data.toList.length := by rw [← size_data]; exact h
  rw [List.drop_eq_getElem_cons hl]; rfl
theorem at_end (s : ByteArray) (k : Nat) (h : s.size ≤ k) : s.data.toList.drop k = [] := List.drop_eq_nil_of_le (by rw [← size_data]; exact h)

/-- isDigit (function 36). -/
theorem isDigit_any (c : UInt8) (w : World) : Calls Try.prog 36 #[.int .u8 (c.toNat : Int)] w fun e w' => e = .returned (.bool (dig c)) ∧ w' = w := by
  by_cases h1 : 48 ≤ c.toNat
  · by_cases h2 : c.toNat ≤ 57
    · have hd : dig c = true := by simp [dig, h1, h2]
      have e2 : decide ((c.toNat : Int) ≤ 57) = true := decide_eq_true (by omega)
      rw [hd]
      go_enter Try.func36, Try.ntmps36
      go_wp2
      go_ret
      exact ⟨rfl, rfl⟩
    · have hd : dig c = false := by simp [dig, h1]; omega
      have e2 : decide ((c.toNat : Int) ≤ 57) = false := decide_eq_false (by omega)
      rw [hd]
      go_enter Try.func36, Try.ntmps36
      go_wp2
      go_ret
      exact ⟨rfl, rfl⟩
  · have hd : dig c = false := by simp [dig]; omega
    rw [hd]
    go_enter Try.func36, Try.ntmps36
    go_wp2
    go_ret
    exact ⟨rfl, rfl⟩

/-- zzSynDigit (function 25). -/
theorem synDigit_any (c : UInt8) (w : World) : Calls Try.prog 25 #[.int .u8 (c.toNat : Int)] w fun e w' => e = .returned (.bool (dig c)) ∧ w' = w := by
  by_cases h1 : 48 ≤ c.toNat
  · by_cases h2 : c.toNat ≤ 57
    · have hd : dig c = true := by simp [dig, h1, h2]
      have e2 : decide ((c.toNat : Int) ≤ 57) = true := decide_eq_true (by omega)
      rw [hd]
      go_enter Try.func25, Try.ntmps25
      go_wp2
      go_ret
      exact ⟨rfl, rfl⟩
    · have hd : dig c = false := by simp [dig, h1]; omega
      have e2 : decide ((c.toNat : Int) ≤ 57) = false := decide_eq_false (by omega)
      rw [hd]
      go_enter Try.func25, Try.ntmps25
      go_wp2
      go_ret
      exact ⟨rfl, rfl⟩
  · have hd : dig c = false := by simp [dig]; omega
    rw [hd]
    go_enter Try.func25, Try.ntmps25
    go_wp2
    go_ret
    exact ⟨rfl, rfl⟩

/-- The lexer in memory of its own: the last block of the world. -/
abbrev lexer (w : World) (s : ByteArray) (p n : Nat) : World := (w.alloc (.cells #[.string s, .int .i64 (p : Int)] 43)).drewN n

theorem setCell_drewN (w : World) (n : Nat) (a : Addr) (v : Value) : (w.drewN n).setCell a v = (w.setCell a v).drewN n := rfl
attribute [local go_sem] setCell_drewN

theorem lexer_set (w : World) (s : ByteArray) (p n : Nat) (z : Int) : (lexer w s p n).setCell ⟨w.heap.size, 1, none⟩ (.int .i64 z) = (w.alloc (.cells #[.string s, .int .i64 z] 43)).drewN n := by
  rw [lexer, setCell_drewN, World.setCell_alloc_at _ _ _ _ _ rfl]; rfl

theorem run_hit (s : ByteArray) (i : Nat) (h : i < s.size) (hd : dig s[i] = true) : run (s.data.toList.drop i) = run (s.data.toList.drop (i + 1)) + 1 := by
  rw [at_get s i h]; simp [run, hd]
theorem run_miss (s : ByteArray) (i : Nat) (h : i < s.size) (hd : dig s[i] = false) : run (s.data.toList.drop i) = 0 := by
  rw [at_get s i h]; simp [run, hd]
theorem run_end (s : ByteArray) (i : Nat) (h : s.size ≤ i) : run (s.data.toList.drop i) = 0 := by
  rw [at_end s i h]; rfl

set_option maxHeartbeats 1000000 in
/-- skipDigits (function 42). -/
theorem skip_any (w : World) (s : ByteArray) (p n : Nat) (hp : p ≤ s.size) (hs : s.size ≤ 1048576) :
    Calls Try.prog 42 #[.pointer (some ⟨w.heap.size, 0, none⟩)] (lexer w s p n) fun e w' => e = .returned (.tuple #[]) ∧ ∃ m, w' = lexer w s (p + run (s.data.toList.drop p)) m := by
  go_enter Try.func42, Try.ntmps42
  go_wp2
  go_loopg [] (s.size - p) (fun k wr => ∃ (i m : Nat), p ≤ i ∧ i ≤ s.size ∧ k = s.size - i ∧ Hid (i + run (s.data.toList.drop i) = p + run (s.data.toList.drop p)) ∧ wr = lexer w s i m)
  case atStart => exact ⟨p, n, Nat.le_refl _, hp, rfl, hide rfl, rfl⟩
  case round =>
    obtain ⟨i, m, h1, h2, hk, hrun, rfl⟩ := hrel
    obtain ⟨W, hW⟩ : ∃ W, W = lexer w s i m := ⟨_, rfl⟩
    have c0 : W.cell? ⟨w.heap.size, 0, none⟩ = some (.string s) := by rw [hW]; simp
    have c1 : W.cell? ⟨w.heap.size, 1, none⟩ = some (.int .i64 (i : Int)) := by rw [hW]; simp
    have f1 : W.frozen? ⟨w.heap.size, 1, none⟩ = false := by rw [hW]; simp
    rw [← hW]
    have HW := hide hW
    clear hW
    by_cases hlt : i < s.size
    · have hlt' : (i : Int) < (s.size : Int) := by omega
      cases hd : dig s[i] with
      | true =>
        go_wp2
        go_quiet ((go_at_call 36; exact Calls.quiet_of_same (isDigit_any _ _)))
        go_wp2
        go_roundg (s.size - (i + 1))
        case measure => omega
        case rel =>
          have hr := run_hit s i hlt hd
          have hr2 := hrun.out
          refine ⟨i + 1, m + nq, by omega, by omega, rfl, hide (by omega), ?_⟩
          rw [HW.out, lexer_set, World.drewN_drewN]; rfl
      | false =>
        go_wp2
        go_quiet ((go_at_call 36; exact Calls.quiet_of_same (isDigit_any _ _)))
        go_wp2
        go_end0
        have hr := run_miss s i hlt hd
        have hr2 := hrun.out
        refine ⟨rfl, m + nq, ?_⟩
        rw [HW.out, show p + run (s.data.toList.drop p) = i by omega, lexer, World.drewN_drewN]
    · have hd : decide ((i : Int) < (s.size : Int)) = false := decide_eq_false (by omega)
      go_wp2
      go_quiet (fail)
      go_wp2
      go_end0
      have hr := run_end s i (by omega)
      have hr2 := hrun.out
      refine ⟨rfl, m + nq, ?_⟩
      rw [HW.out, show p + run (s.data.toList.drop p) = i by omega, lexer, World.drewN_drewN]
end Go.Proofs.Qxb6601015a
