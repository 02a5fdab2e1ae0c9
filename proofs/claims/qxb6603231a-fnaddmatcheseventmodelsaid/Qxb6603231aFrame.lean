import Derived.Test.Qxb6603231aMake
import Derived.WalkKit
import Derived.WalkSpells
import Derived.Maps.OwnSet
import Derived.Deep.DeepCutAuto
import Derived.Outline
namespace Go.Proofs.Qxb6603231a
open Go Go.RowKit

theorem tmps_all (t : Array Value) (n : Nat) (h : t.size = n) : t = ((List.range n).map fun j => t.getD j undef).toArray := by
  apply Array.ext
  · simp [h]
  · intro i h1 h2
    simp [Array.getD_eq_getD_getElem?, h1]
theorem frame73 (a : Act) (h : a.tmps.size = 73) (hd : a.defers = []) : ∃ y0 y1 y2 y3 y4 y5 y6 y7 y8 y9 y10 y11 y12 y13 y14 y15 y16 y17 y18 y19 y20 y21 y22 y23 y24 y25 y26 y27 y28 y29 y30 y31 y32 y33 y34 y35 y36 y37 y38 y39 y40 y41 y42 y43 y44 y45 y46 y47 y48 y49 y50 y51 y52 y53 y54 y55 y56 y57 y58 y59 y60 y61 y62 y63 y64 y65 y66 y67 y68 y69 y70 y71 y72, a = ⟨#[y0, y1, y2, y3, y4, y5, y6, y7, y8, y9, y10, y11, y12, y13, y14, y15, y16, y17, y18, y19, y20, y21, y22, y23, y24, y25, y26, y27, y28, y29, y30, y31, y32, y33, y34, y35, y36, y37, y38, y39, y40, y41, y42, y43, y44, y45, y46, y47, y48, y49, y50, y51, y52, y53, y54, y55, y56, y57, y58, y59, y60, y61, y62, y63, y64, y65, y66, y67, y68, y69, y70, y71, y72], []⟩ ∧ y0 = a.tmps.getD 0 undef ∧ y1 = a.tmps.getD 1 undef ∧ y2 = a.tmps.getD 2 undef ∧ y3 = a.tmps.getD 3 undef ∧ y4 = a.tmps.getD 4 undef ∧ y5 = a.tmps.getD 5 undef ∧ y6 = a.tmps.getD 6 undef ∧ y7 = a.tmps.getD 7 undef := by
  refine ⟨a.tmps.getD 0 undef, a.tmps.getD 1 undef, a.tmps.getD 2 undef, a.tmps.getD 3 undef, a.tmps.getD 4 undef, a.tmps.getD 5 undef, a.tmps.getD 6 undef, a.tmps.getD 7 undef, a.tmps.getD 8 undef, a.tmps.getD 9 undef, a.tmps.getD 10 undef, a.tmps.getD 11 undef, a.tmps.getD 12 undef, a.tmps.getD 13 undef, a.tmps.getD 14 undef, a.tmps.getD 15 undef, a.tmps.getD 16 undef, a.tmps.getD 17 undef, a.tmps.getD 18 undef, a.tmps.getD 19 undef, a.tmps.getD 20 undef, a.tmps.getD 21 undef, a.tmps.getD 22 undef, a.tmps.getD 23 undef, a.tmps.getD 24 undef, a.tmps.getD 25 undef, a.tmps.getD 26 undef, a.tmps.getD 27 undef, a.tmps.getD 28 undef, a.tmps.getD 29 undef, a.tmps.getD 30 undef, a.tmps.getD 31 undef, a.tmps.getD 32 undef, a.tmps.getD 33 undef, a.tmps.getD 34 undef, a.tmps.getD 35 undef, a.tmps.getD 36 undef, a.tmps.getD 37 undef, a.tmps.getD 38 undef, a.tmps.getD 39 undef, a.tmps.getD 40 undef, a.tmps.getD 41 undef, a.tmps.getD 42 undef, a.tmps.getD 43 undef, a.tmps.getD 44 undef, a.tmps.getD 45 undef, a.tmps.getD 46 undef, a.tmps.getD 47 undef, a.tmps.getD 48 undef, a.tmps.getD 49 undef, a.tmps.getD 50 undef, a.tmps.getD 51 undef, a.tmps.getD 52 undef, a.tmps.getD 53 undef, a.tmps.getD 54 undef, a.tmps.getD 55 undef, a.tmps.getD 56 undef, a.tmps.getD 57 undef, a.tmps.getD 58 undef, a.tmps.getD 59 undef, a.tmps.getD 60 undef, a.tmps.getD 61 undef, a.tmps.getD 62 undef, a.tmps.getD 63 undef, a.tmps.getD 64 undef, a.tmps.getD 65 undef, a.tmps.getD 66 undef, a.tmps.getD 67 undef, a.tmps.getD 68 undef, a.tmps.getD 69 undef, a.tmps.getD 70 undef, a.tmps.getD 71 undef, a.tmps.getD 72 undef, ?_, rfl, rfl, rfl, rfl, rfl, rfl, rfl, rfl⟩
  obtain ⟨t, d⟩ := a
  simp only at h hd
  subst hd
  have e := tmps_all t 73 h
  have e2 : ((List.range 73).map fun j => t.getD j undef).toArray = #[t.getD 0 undef, t.getD 1 undef, t.getD 2 undef, t.getD 3 undef, t.getD 4 undef, t.getD 5 undef, t.getD 6 undef, t.getD 7 undef, t.getD 8 undef, t.getD 9 undef, t.getD 10 undef, t.getD 11 undef, t.getD 12 undef, t.getD 13 undef, t.getD 14 undef, t.getD 15 undef, t.getD 16 undef, t.getD 17 undef, t.getD 18 undef, t.getD 19 undef, t.getD 20 undef, t.getD 21 undef, t.getD 22 undef, t.getD 23 undef, t.getD 24 undef, t.getD 25 undef, t.getD 26 undef, t.getD 27 undef, t.getD 28 undef, t.getD 29 undef, t.getD 30 undef, t.getD 31 undef, t.getD 32 undef, t.getD 33 undef, t.getD 34 undef, t.getD 35 undef, t.getD 36 undef, t.getD 37 undef, t.getD 38 undef, t.getD 39 undef, t.getD 40 undef, t.getD 41 undef, t.getD 42 undef, t.getD 43 undef, t.getD 44 undef, t.getD 45 undef, t.getD 46 undef, t.getD 47 undef, t.getD 48 undef, t.getD 49 undef, t.getD 50 undef, t.getD 51 undef, t.getD 52 undef, t.getD 53 undef, t.getD 54 undef, t.getD 55 undef, t.getD 56 undef, t.getD 57 undef, t.getD 58 undef, t.getD 59 undef, t.getD 60 undef, t.getD 61 undef, t.getD 62 undef, t.getD 63 undef, t.getD 64 undef, t.getD 65 undef, t.getD 66 undef, t.getD 67 undef, t.getD 68 undef, t.getD 69 undef, t.getD 70 undef, t.getD 71 undef, t.getD 72 undef] := rfl
  rw [e2] at e
  exact congrArg (fun x => (⟨x, []⟩ : Act)) e

theorem after_of_check (ops : Array Oper) (h : (ops.toList.zipIdx.all fun p => p.1.after.toList.all fun e => decide (e.on < p.2)) = true) : ∀ (i : Nat) (o : Oper), ops[i]? = some o → ∀ e ∈ o.after, e.on < i := by
  intro i o ho e he
  rw [List.all_eq_true] at h
  have h1 : (o, i) ∈ ops.toList.zipIdx := by
    rw [List.mem_zipIdx_iff_getElem?]; simpa using ho
  have h2 := h _ h1
  rw [List.all_eq_true] at h2
  simpa using h2 e (by simpa using he)

end Go.Proofs.Qxb6603231a
