import Derived.Test.Qxb6603231aNew
namespace Go.Proofs.Qxb6603231a
open Go Go.RowKit

/-- A row of steps: the cells up to k. -/
def Steps (A : Nat → Int) (M : Nat → Bool) (k : Nat) (cs : Array Value) : Prop := ∀ j, j < k → cs[j * 2]? = some (.int .i64 (A j)) ∧ cs[j * 2 + 1]? = some (.bool (M j))

theorem info45 : (Try.prog.info? 45).map (fun i => (i.zero, i.size, i.bytes)) = some (some (.agg #[.int .i64 0, .bool false]), 2, 16) := by kernel_rfl
theorem make45 (n : Nat) (hn : n ≤ 4096) (w : World) : ∃ cs : Array Value, cs.size = 2 * n ∧ (Instr.makeSlice 39 (.int .i64 (n : Int)) (.int .i64 (n : Int))).run Try.prog w = .ok (.slice (some ⟨w.heap.size, 0, none⟩) n n) (w.alloc (.cells cs 45)) := by
  have hi := info45
  cases hq : Try.prog.info? 45 with
  | none => rw [hq] at hi; cases hi
  | some q =>
    rw [hq] at hi
    simp only [Option.map_some, Option.some.injEq, Prod.mk.injEq] at hi
    have := run_make (P := Try.prog) w 39 45 q _ Try.underlying39 hq hi.1 .i64 .i64 (n : Int) (n : Int) (by omega) (by omega) (by rw [hi.2.2]; omega) (by omega)
    rw [Int.toNat_natCast] at this
    refine ⟨_, ?_, this⟩
    rw [hi.2.1]
    simp [madeCells]; omega

theorem Steps.set {A : Nat → Int} {M : Nat → Bool} {k : Nat} {cs : Array Value} (h : Steps A M k cs) (hs : k * 2 + 1 < cs.size) : Steps A M (k + 1) ((cs.setIfInBounds (k * 2) (.int .i64 (A k))).setIfInBounds (k * 2 + 1) (.bool (M k))) := by
  intro j hj
  by_cases e : j = k
  · subst e
    constructor
    · rw [Array.getElem?_setIfInBounds_ne (by omega), Array.getElem?_setIfInBounds_self_of_lt (by omega)]
    · rw [Array.getElem?_setIfInBounds_self_of_lt (by simpa using hs)]
  · have := h j (by omega)
    constructor
    · rw [Array.getElem?_setIfInBounds_ne (by omega), Array.getElem?_setIfInBounds_ne (by omega)]; exact this.1
    · rw [Array.getElem?_setIfInBounds_ne (by omega), Array.getElem?_setIfInBounds_ne (by omega)]; exact this.2

/-- copyInSteps (function 17). -/
theorem copy_any (b off n c : Nat) (A : Nat → Int) (M : Nat → Bool) (w : World) (hn : n ≤ 4096) (hb : b < w.heap.size)
    (hcell : ∀ j, j < n → w.cell? ⟨b, off + j * 2, none⟩ = some (.int .i64 (A j)) ∧ w.cell? ⟨b, off + j * 2 + 1, none⟩ = some (.bool (M j))) :
    Calls Try.prog 17 #[.slice (some ⟨b, off, none⟩) n c] w fun e w' => e = .returned (.slice (some ⟨w.heap.size, 0, none⟩) n n) ∧ ∃ cs : Array Value, Steps A M n cs ∧ w.alloc (.cells cs 45) = w' := by
  obtain ⟨cs0, hcs0, hmk⟩ := make45 n hn w
  have hnil := fun (wx : World) (c' : Nat) => Lib.run_eql_slice_nil (P := Try.prog) wx 39 45 (some ⟨b, off, none⟩) n c' 0 0 Try.underlying39
  have Hcell := hide hcell
  have H0 := hide hcs0
  clear hcell hcs0
  go_enter Try.func17, Try.ntmps17
  go_wp2
  go_loopw [4] (fun i wr => ∃ (k : Nat) (cs : Array Value), k ≤ n ∧ cs.size = 2 * n ∧ Hid (Steps A M k cs) ∧ i = .int .i64 k ∧ wr = w.alloc (.cells cs 45)) (fun i _ => n - (intOf i).toNat)
  case atStart => exact ⟨0, cs0, Nat.zero_le _, H0, hide (fun j hj => by omega), rfl, rfl⟩
  case round =>
    obtain ⟨k, cs, hk, hcs, HS, rfl, rfl⟩ := hrel
    by_cases hlt : k < n
    · have hlt' : (k : Int) < (n : Int) := by omega
      have hc1 := (Hcell.out k hlt).1
      have hc2 := (Hcell.out k hlt).2
      have hy1 : ∃ y, cs[k * 2]? = some y := ⟨_, Array.getElem?_eq_getElem (by omega)⟩
      have hy2 : ∃ y, cs[k * 2 + 1]? = some y := ⟨_, Array.getElem?_eq_getElem (by omega)⟩
      obtain ⟨y1, hy1⟩ := hy1
      obtain ⟨y2, hy2⟩ := hy2
      have HS2 := hide (HS.out.set (by omega))
      have HC := hide hcs
      generalize A k = a at hc1 HS2
      generalize M k = mk at hc2 HS2
      clear hcs
      go_wp2
      go_roundw
      case rel => exact ⟨k + 1, _, by omega, by simpa using HC.out, HS2, by go_num, rfl⟩
      case measure => simp [intOf]; omega
    · obtain rfl : k = n := by omega
      go_wp2
      go_ret
      exact ⟨rfl, cs, HS.out, rfl⟩
end Go.Proofs.Qxb6603231a
