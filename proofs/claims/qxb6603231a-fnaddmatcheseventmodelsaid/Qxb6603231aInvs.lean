import Derived.Test.Qxb6603231aFrame
import Derived.Deep.Light
namespace Go.Proofs.Qxb6603231a
open Go Go.RowKit

theorem listed_of {listed : Array Bool} {k : Nat} (h : listed.getD k false = true) : listed.getD k true = true := by
  by_cases hk : k < listed.size
  · simpa [Array.getD_eq_getD_getElem?, Array.getElem?_eq_getElem hk] using h
  · simp [Array.getD_eq_getD_getElem?, Array.getElem?_eq_none (Nat.le_of_not_lt hk)]

theorem built73 (att : Int) (m x5 x6 x11 x16 x17 x18 : Nat) : Try.prog.built 73 [(0, .int .i64 att), (1, .slice (some ⟨x5, 0, none⟩) m m), (2, .map (some x6)), (3, .slice (some ⟨x11, 0, none⟩) m m), (4, .slice (some ⟨x16, 0, none⟩) m m), (5, .map (some x17)), (6, .map (some x18))] = some (ballCells att m x5 x6 x11 x16 x17 x18) := by
  kernel_rfl
theorem run_build73 {ρ : Operand → Value} {w : World} {dst : Option Tmp} {ty : TypeId} {pos : String} {after : Array Edge} {o0 o1 o2 o3 o4 o5 o6 : Operand} (att : Int) (m x5 x6 x11 x16 x17 x18 : Nat)
    (h0 : ρ o0 = .int .i64 att) (h1 : ρ o1 = .slice (some ⟨x5, 0, none⟩) m m) (h2 : ρ o2 = .map (some x6)) (h3 : ρ o3 = .slice (some ⟨x11, 0, none⟩) m m) (h4 : ρ o4 = .slice (some ⟨x16, 0, none⟩) m m) (h5 : ρ o5 = .map (some x17)) (h6 : ρ o6 = .map (some x18)) :
    (execOp ρ { dst, op := .build 73 #[(0, o0), (1, o1), (2, o2), (3, o3), (4, o4), (5, o5), (6, o6)], type := ty, pos, after, guard := none }).run Try.prog w = .ok (.value (.agg (ballCells att m x5 x6 x11 x16 x17 x18))) w := by
  have := run_build (P := Try.prog) w 73 #[(0, .int .i64 att), (1, .slice (some ⟨x5, 0, none⟩) m m), (2, .map (some x6)), (3, .slice (some ⟨x11, 0, none⟩) m m), (4, .slice (some ⟨x16, 0, none⟩) m m), (5, .map (some x17)), (6, .map (some x18))] _ (built73 att m x5 x6 x11 x16 x17 x18)
  simp [execOp, h0, h1, h2, h3, h4, h5, h6, this]

section
variable {tb m H : Nat} {att : Int} {a0 : Act} {w0 : World} {listed : Array Bool} {a : Act} {w : World}
theorem Inv.ptr (h : Inv tb m H att a0 w0 listed a w) (k : Nat) (hk : k = 1 ∨ k = 2 ∨ k = 3 ∨ k = 7 ∨ k = 8 ∨ k = 9 ∨ k = 12 ∨ k = 13 ∨ k = 14) (hl : listed.getD k false = true) : a.tmps.getD (39 + k) undef = .pointer (some ⟨tb, 0, none⟩) := by
  have := h.gd k (by omega) (listed_of hl)
  rcases hk with rfl | rfl | rfl | rfl | rfl | rfl | rfl | rfl | rfl <;> exact this
theorem Inv.num (h : Inv tb m H att a0 w0 listed a w) (k : Nat) (hk : k = 4 ∨ k = 10 ∨ k = 15) (hl : listed.getD k false = true) : a.tmps.getD (39 + k) undef = .int .i64 (m : Int) := by
  have := h.gd k (by omega) (listed_of hl)
  rcases hk with rfl | rfl | rfl <;> exact this
theorem Inv.theAtt (h : Inv tb m H att a0 w0 listed a w) (hl : listed.getD 0 false = true) : a.tmps.getD 39 undef = .int .i64 att := h.gd 0 (by omega) (listed_of hl)
theorem Inv.brow (h : Inv tb m H att a0 w0 listed a w) (k : Nat) (hk : k = 5 ∨ k = 16) (hl : listed.getD k false = true) : ∃ x, a.tmps.getD (39 + k) undef = .slice (some ⟨x, 0, none⟩) m m ∧ H ≤ x ∧ w.heap[x]? = some (.cells (boolRow m) 4) := by
  have := h.gd k (by omega) (listed_of hl)
  rcases hk with rfl | rfl <;> exact this
theorem Inv.crow (h : Inv tb m H att a0 w0 listed a w) (hl : listed.getD 11 false = true) : ∃ x, a.tmps.getD 50 undef = .slice (some ⟨x, 0, none⟩) m m ∧ H ≤ x ∧ w.heap[x]? = some (.cells (candRow m) 28) :=
  h.gd 11 (by omega) (listed_of hl)
theorem Inv.mrow (h : Inv tb m H att a0 w0 listed a w) (k : Nat) (hk : k = 6 ∨ k = 17 ∨ k = 18) (hl : listed.getD k false = true) : ∃ x, a.tmps.getD (39 + k) undef = .map (some x) ∧ H ≤ x ∧ w.heap[x]? = some (.map #[] 0) := by
  have := h.gd k (by omega) (listed_of hl)
  rcases hk with rfl | rfl | rfl <;> exact this
theorem Inv.built (h : Inv tb m H att a0 w0 listed a w) (hl : listed.getD 19 false = true) : ∃ x5 x6 x11 x16 x17 x18, a.tmps.getD 58 undef = .agg (ballCells att m x5 x6 x11 x16 x17 x18) ∧ Parts H m w x5 x6 x11 x16 x17 x18 :=
  h.gd 19 (by omega) (listed_of hl)
theorem Inv.boxed (h : Inv tb m H att a0 w0 listed a w) (k : Nat) (hk : k = 20) (hl : listed.getD k false = true) : ∃ z, a.tmps.getD 59 undef = .pointer (some ⟨z, 0, none⟩) ∧ Ball H m att w z := by
  subst hk; exact h.gd 20 (by omega) (listed_of hl)
theorem Inv.atEnd (h : Inv tb m H att a0 w0 listed a w) (hl : ∀ i : Nat, listed.getD i true = true) : ∃ z, a.tmps.getD 7 undef = .pointer (some ⟨z, 0, none⟩) ∧ Ball H m att w z :=
  h.gd 21 (by omega) (hl 21)
theorem Inv.parts (h : Inv tb m H att a0 w0 listed a w) (l5 : listed.getD 5 false = true) (l6 : listed.getD 6 false = true) (l11 : listed.getD 11 false = true) (l16 : listed.getD 16 false = true) (l17 : listed.getD 17 false = true) (l18 : listed.getD 18 false = true) :
    ∃ x5 x6 x11 x16 x17 x18, a.tmps.getD 44 undef = .slice (some ⟨x5, 0, none⟩) m m ∧ a.tmps.getD 45 undef = .map (some x6) ∧ a.tmps.getD 50 undef = .slice (some ⟨x11, 0, none⟩) m m ∧ a.tmps.getD 55 undef = .slice (some ⟨x16, 0, none⟩) m m ∧ a.tmps.getD 56 undef = .map (some x17) ∧ a.tmps.getD 57 undef = .map (some x18) ∧ Parts H m w x5 x6 x11 x16 x17 x18 := by
  obtain ⟨x5, e5, g5, p5⟩ := h.brow 5 (by omega) l5
  obtain ⟨x6, e6, g6, p6⟩ := h.mrow 6 (by omega) l6
  obtain ⟨x11, e11, g11, p11⟩ := h.crow l11
  obtain ⟨x16, e16, g16, p16⟩ := h.brow 16 (by omega) l16
  obtain ⟨x17, e17, g17, p17⟩ := h.mrow 17 (by omega) l17
  obtain ⟨x18, e18, g18, p18⟩ := h.mrow 18 (by omega) l18
  simp only [Nat.reduceAdd] at e5 e6 e16 e17 e18
  have ap := fun i j hi hj hij li lj => h.apart i j hi hj hij (listed_of li) (listed_of lj)
  have n1 := ap 5 6 (by simp [isMk]) (by simp [isMk]) (by omega) l5 l6
  have n2 := ap 5 11 (by simp [isMk]) (by simp [isMk]) (by omega) l5 l11
  have n3 := ap 5 16 (by simp [isMk]) (by simp [isMk]) (by omega) l5 l16
  have n4 := ap 5 17 (by simp [isMk]) (by simp [isMk]) (by omega) l5 l17
  have n5 := ap 5 18 (by simp [isMk]) (by simp [isMk]) (by omega) l5 l18
  have n6 := ap 6 11 (by simp [isMk]) (by simp [isMk]) (by omega) l6 l11
  have n7 := ap 6 16 (by simp [isMk]) (by simp [isMk]) (by omega) l6 l16
  have n8 := ap 6 17 (by simp [isMk]) (by simp [isMk]) (by omega) l6 l17
  have n9 := ap 6 18 (by simp [isMk]) (by simp [isMk]) (by omega) l6 l18
  have n10 := ap 11 16 (by simp [isMk]) (by simp [isMk]) (by omega) l11 l16
  have n11 := ap 11 17 (by simp [isMk]) (by simp [isMk]) (by omega) l11 l17
  have n12 := ap 11 18 (by simp [isMk]) (by simp [isMk]) (by omega) l11 l18
  have n13 := ap 16 17 (by simp [isMk]) (by simp [isMk]) (by omega) l16 l17
  have n14 := ap 16 18 (by simp [isMk]) (by simp [isMk]) (by omega) l16 l18
  have n15 := ap 17 18 (by simp [isMk]) (by simp [isMk]) (by omega) l17 l18
  simp only [slot, Nat.reduceEqDiff, if_false, Nat.reduceAdd, e5, e6, e11, e16, e17, e18, blk] at n1 n2 n3 n4 n5 n6 n7 n8 n9 n10 n11 n12 n13 n14 n15
  refine ⟨x5, x6, x11, x16, x17, x18, e5, e6, e11, e16, e17, e18, p5, p6, p11, p16, p17, p18, ?_, ?_⟩
  · intro x hx; simp at hx; rcases hx with rfl | rfl | rfl | rfl | rfl | rfl <;> assumption
  · simp [n1, n2, n3, n4, n5, n6, n7, n8, n9, n10, n11, n12, n13, n14, n15]
end
end Go.Proofs.Qxb6603231a
