import Derived.Test.Qxb6603231aKeys
import Derived.DeepKeys2
namespace Go.Proofs.Qxb6603231a
open Go Go.RowKit

theorem tiled28 : Try.prog.tiled 3 28 = true := by kernel_rfl
theorem formed28 {c : List Int} (h : Cv c) : (candV c).formed Try.prog 28 = true := by
  unfold candV Value.formed
  rw [Try.underlying28, cells28]
  simp [cc_len h]
theorem equal28 {c d : List Int} (hc : Cv c) (hd : Cv d) (w : World) : (Op.equalIn 10000 28 (candV c) (candV d)).run Try.prog w = .ok (decide (c = d)) w := by
  obtain ⟨la, hla⟩ := lits28 0 hc
  obtain ⟨lb, hlb⟩ := lits28 0 hd
  have e1 : (candV c).cells.toList = cc c := by simp [candV, Value.cells]
  have e2 : (candV d).cells.toList = cc d := by simp [candV, Value.cells]
  obtain ⟨r, hr, hiff⟩ := run_equalIn_deep (P := Try.prog) 9997 3 28 (by kernel_rfl) w 2 2 (candV c) (candV d) la lb (formed28 hc) (formed28 hd) (by rw [e1]; exact hla) (by rw [e2]; exact hlb)
  have h1 := cells_of_lits 3 28 tiled28 2 _ _ hla
  have h2 := cells_of_lits 3 28 tiled28 2 _ _ hlb
  have : r = decide (c = d) := by
    by_cases e : c = d
    · subst e
      rw [hla] at hlb
      rw [decide_eq_true rfl]
      exact hiff.2 (Option.some.inj hlb)
    · rw [decide_eq_false e]
      cases r with
      | false => rfl
      | true =>
        have := hiff.1 rfl
        subst this
        exact absurd (cc_inj (h1.trans h2.symm)) e
  rw [← this]; exact hr
theorem eql28 {c d : List Int} (hc : Cv c) (hd : Cv d) (w : World) : (binOp .eql 28 (candV c) (candV d)).run Try.prog w = .ok (.bool (decide (c = d))) w := by
  have := run_eql_struct (P := Try.prog) w 28 (cc c).toArray (cc d).toArray
  rw [show candV c = .agg (cc c).toArray from rfl, show candV d = .agg (cc d).toArray from rfl, this]
  have h := equal28 hc hd w
  unfold candV at h
  rw [h]; rfl
theorem neq28 {c d : List Int} (hc : Cv c) (hd : Cv d) (w : World) : (binOp .neq 28 (candV c) (candV d)).run Try.prog w = .ok (.bool (!decide (c = d))) w := by
  have := run_neq_struct (P := Try.prog) w 28 (cc c).toArray (cc d).toArray
  rw [show candV c = .agg (cc c).toArray from rfl, show candV d = .agg (cc d).toArray from rfl, this]
  have h := equal28 hc hd w
  unfold candV at h
  rw [h]; rfl
end Go.Proofs.Qxb6603231a
