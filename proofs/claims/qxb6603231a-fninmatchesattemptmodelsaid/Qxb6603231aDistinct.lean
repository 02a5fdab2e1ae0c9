import Derived.Test.Qxb6603231aCopy
import Derived.Deep.LoopGhost
namespace Go.Proofs.Qxb6603231a
open Go Go.RowKit

/-- distinctInAttempts (function 16): some number up to the length. -/
theorem distinct_any (b off n c : Nat) (A : Nat → Int) (w : World) (hn : n ≤ 4096)
    (hcell : ∀ j, j < n → w.cell? ⟨b, off + j * 2, none⟩ = some (.int .i64 (A j))) :
    Calls Try.prog 16 #[.slice (some ⟨b, off, none⟩) n c] w fun e w' => ∃ d : Nat, d ≤ n ∧ e = .returned (.int .i64 (d : Int)) ∧ ∃ q, w.drewN q = w' := by
  have Hcell := hide hcell
  clear hcell
  go_enter Try.func16, Try.ntmps16
  go_wp2
  go_loopg [3, 4] n (fun g t3 t4 wr => ∃ k d q : Nat, k ≤ n ∧ d ≤ k ∧ g = n - k ∧ t3 = .int .i64 (d : Int) ∧ t4 = .int .i64 (k : Int) ∧ wr = w.drewN q)
  case atStart => exact ⟨0, 0, 0, Nat.zero_le _, Nat.le_refl _, rfl, rfl, rfl, rfl⟩
  case round =>
    obtain ⟨k, d, q, hk, hd, hg, rfl, rfl, rfl⟩ := hrel
    by_cases hlt : k < n
    · have hlt' : (k : Int) < (n : Int) := by omega
      have ck := Hcell.out k hlt
      generalize A k = z at ck
      go_wp2
      go_loopg [5, 6] k (fun g t5 t6 wr => ∃ j q : Nat, j ≤ k ∧ g = k - j ∧ t5 = .bool true ∧ t6 = .int .i64 (j : Int) ∧ wr = w.drewN q)
      case atStart => exact ⟨0, q, Nat.zero_le _, rfl, rfl, rfl, rfl⟩
      case round =>
        obtain ⟨j, q, hj, hg2, rfl, rfl, rfl⟩ := hrel
        by_cases hjt : j < k
        · have hjt' : (j : Int) < (k : Int) := by omega
          have hjn : (j : Int) < (n : Int) := by omega
          have cj := Hcell.out j (by omega)
          generalize A j = y at cj
          obtain ⟨W, hW⟩ : ∃ W, W = w.drewN q := ⟨_, rfl⟩
          have d1 : W.cell? ⟨b, off + j * 2, none⟩ = some (.int .i64 y) := by rw [hW]; exact cj
          have d2 : W.cell? ⟨b, off + k * 2, none⟩ = some (.int .i64 z) := by rw [hW]; exact ck
          rw [← hW]
          have HW := hide hW
          clear hW ck cj
          by_cases hyz : y = z
          · subst hyz
            go_wp2
            go_quiet (fail)
            go_wp2
            go_roundg (n - (k + 1))
            case measure => omega
            case rel => exact ⟨k + 1, d, q + nq, by omega, by omega, rfl, rfl, by go_num, by rw [HW.out, World.drewN_drewN]⟩
          · have hyz' : (y == z) = false := by simp [hyz]
            go_wp2
            go_quiet (fail)
            go_wp2
            go_roundg (k - (j + 1))
            case measure => omega
            case rel => exact ⟨j + 1, q + nq, by omega, rfl, rfl, by go_num, by rw [HW.out, World.drewN_drewN]⟩
        · have hjt' : decide ((j : Int) < (k : Int)) = false := decide_eq_false (by omega)
          go_wp2
          go_roundg (n - (k + 1))
          case measure => omega
          case rel => exact ⟨k + 1, d + 1, q, by omega, by omega, rfl, by go_num, by go_num, rfl⟩
    · have hlt' : decide ((k : Int) < (n : Int)) = false := decide_eq_false (by omega)
      go_wp2
      go_ret
      exact ⟨d, by omega, rfl, q, rfl⟩
end Go.Proofs.Qxb6603231a
