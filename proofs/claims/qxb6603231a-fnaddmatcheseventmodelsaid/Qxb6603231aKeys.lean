import Derived.Test.Qxb6603231aEntry
import Derived.DeepKeys4
namespace Go.Proofs.Qxb6603231a
open Go Go.RowKit

/-! ### Candidates, and keys that hold them -/
/-- The cells of a candidate. -/
def cc (c : List Int) : List Value := c.map (Value.int .u8)
structure Cv (c : List Int) : Prop where
  len : c.length = 32
  wf : ∀ z ∈ c, (Lit.int .u8 z).wf = true
def candV (c : List Int) : Value := .agg (cc c).toArray
def pairV (m b : Int) : Value := .agg #[.int .i64 m, .int .i64 b]
def pickV (m : Int) (c : List Int) : Value := .agg (Value.int .i64 m :: cc c).toArray
theorem cc_len {c : List Int} (h : Cv c) : (cc c).length = 32 := by unfold cc; rw [List.length_map, h.len]
theorem cc_inj {c d : List Int} (h : cc c = cc d) : c = d := by
  unfold cc at h
  induction c generalizing d with
  | nil => cases d with
    | nil => rfl
    | cons _ _ => cases h
  | cons x r ih => cases d with
    | nil => cases h
    | cons y s =>
      simp only [List.map_cons, List.cons.injEq, Value.int.injEq, true_and] at h
      rw [h.1, ih h.2]
theorem candV_inj {c d : List Int} (h : candV c = candV d) : c = d := by
  unfold candV at h
  simp only [Value.agg.injEq] at h
  exact cc_inj (by simpa using congrArg Array.toList h)
theorem pickV_inj {m m' : Int} {c d : List Int} (h : pickV m c = pickV m' d) : m = m' ∧ c = d := by
  unfold pickV at h
  simp only [Value.agg.injEq] at h
  have h2 : Value.int .i64 m :: cc c = Value.int .i64 m' :: cc d := by simpa using congrArg Array.toList h
  simp only [List.cons.injEq, Value.int.injEq, true_and] at h2
  exact ⟨h2.1, cc_inj h2.2⟩
theorem pairV_inj {m m' b b' : Int} (h : pairV m b = pairV m' b') : m = m' ∧ b = b' := by
  unfold pairV at h
  simpa using h

theorem laid : laidOutB Try.prog = true := by kernel_rfl
theorem row28 : (28 : TypeId) < Try.prog.types.size := of_decide_eq_true (by kernel_rfl)
theorem row77 : (77 : TypeId) < Try.prog.types.size := of_decide_eq_true (by kernel_rfl)
theorem row79 : (79 : TypeId) < Try.prog.types.size := of_decide_eq_true (by kernel_rfl)
theorem wide28 : (match Try.prog.underlying 28 with | some (.array _ _) | some (.struct _) => true | _ => false) = true := by rw [Try.underlying28]
theorem wide77 : (match Try.prog.underlying 77 with | some (.array _ _) | some (.struct _) => true | _ => false) = true := by rw [Try.underlying77]
theorem wide79 : (match Try.prog.underlying 79 with | some (.array _ _) | some (.struct _) => true | _ => false) = true := by rw [Try.underlying79]
theorem law28 : WideMaps.KeyLaw Try.prog 28 := deep_law_laid laid (m := 3) (by omega) row28 (by kernel_rfl) wide28
theorem law77 : WideMaps.KeyLaw Try.prog 77 := deep_law_laid laid (m := 3) (by omega) row77 (by kernel_rfl) wide77
theorem law79 : WideMaps.KeyLaw Try.prog 79 := deep_law_laid laid (m := 4) (by omega) row79 (by kernel_rfl) wide79

theorem mapM_isSome {α β : Type} (f : α → Option β) : ∀ l : List α, (∀ x ∈ l, ∃ y, f x = some y) → ∃ ys, l.mapM f = some ys
  | [], _ => ⟨[], rfl⟩
  | x :: r, h => by
    obtain ⟨y, hy⟩ := h x (by simp)
    obtain ⟨ys, hys⟩ := mapM_isSome f r (fun z hz => h z (by simp [hz]))
    exact ⟨y :: ys, by rw [List.mapM_cons, hy, hys]; rfl⟩
theorem cells28 : Try.prog.cellsOf 28 = 32 := by kernel_rfl
theorem cells5 : Try.prog.cellsOf 5 = 1 := by kernel_rfl
theorem cells3 : Try.prog.cellsOf 3 = 1 := by kernel_rfl
theorem cells77 : Try.prog.cellsOf 77 = 2 := by kernel_rfl
theorem cells79 : Try.prog.cellsOf 79 = 33 := by kernel_rfl
theorem lits_int (d : Nat) (t : TypeId) (q : IntKind) (hu : Try.prog.underlying t = some (.int q)) (n : Int) (hw : (Lit.int q n).wf = true) : Try.prog.keyLits (d + 1) t [.int q n] = some [.int q n] := by
  unfold Program.keyLits
  rw [hu]
  simp [hw]
theorem lits28 (d : Nat) {c : List Int} (h : Cv c) : ∃ ls, Try.prog.keyLits (d + 2) 28 (cc c) = some ls := by
  unfold Program.keyLits
  rw [Try.underlying28]
  simp only [cc_len h, cells28, cells5, if_true, Nat.mul_one]
  obtain ⟨ys, hys⟩ := mapM_isSome (fun i => Try.prog.keyLits (d + 1) 5 (((cc c).drop i).take 1)) (List.range 32) (by
    intro i hi
    have hi32 : i < 32 := List.mem_range.1 hi
    have hic : i < c.length := by rw [h.len]; exact hi32
    have : ((cc c).drop i).take 1 = [Value.int .u8 c[i]] := by
      unfold cc
      rw [List.drop_eq_getElem_cons (by simpa using hic)]
      simp
    rw [this]
    exact ⟨_, lits_int d 5 .u8 Try.underlying5 _ (h.wf _ (List.getElem_mem hic))⟩)
  exact ⟨_, by rw [hys]; rfl⟩
theorem types_big : ∃ d, Try.prog.types.size + 1 = d + 3 := ⟨Try.prog.types.size - 2, by have : 77 < Try.prog.types.size := row77; omega⟩
theorem key28 {c : List Int} (h : Cv c) : ∃ l, keyOf Try.prog 28 (candV c) = some l := by
  obtain ⟨d, hd⟩ := types_big
  obtain ⟨ls, hls⟩ := lits28 (d + 1) h
  refine ⟨.string (keyBytes ls), ?_⟩
  have hf : (candV c).formed Try.prog 28 = true := by
    unfold candV Value.formed
    rw [Try.underlying28, cells28]
    simp [cc_len h]
  have hk : Try.prog.keyType 28 = true := by kernel_rfl
  unfold keyOf
  rw [Try.underlying28]
  simp only [hk, hf, Bool.and_self, if_true, hd]
  rw [show (candV c).cells.toList = cc c from by simp [candV, Value.cells], hls]; rfl
theorem key77 {m b : Int} (hm : (Lit.int .i64 m).wf = true) (hb : (Lit.int .i64 b).wf = true) : ∃ l, keyOf Try.prog 77 (pairV m b) = some l := by
  obtain ⟨d, hd⟩ := types_big
  have hf : (pairV m b).formed Try.prog 77 = true := by
    unfold pairV Value.formed
    rw [Try.underlying77, cells77]
    simp
  have hk : Try.prog.keyType 77 = true := by kernel_rfl
  have h1 := lits_int (d + 1) 3 .i64 Try.underlying3 m hm
  have h2 := lits_int (d + 1) 3 .i64 Try.underlying3 b hb
  unfold keyOf
  rw [Try.underlying77]
  simp only [hk, hf, Bool.and_self, if_true, hd]
  unfold Program.keyLits
  rw [Try.underlying77]
  simp [pairV, Value.cells, cells77, cells3, h1, h2]
theorem key79 {m : Int} {c : List Int} (hm : (Lit.int .i64 m).wf = true) (h : Cv c) : ∃ l, keyOf Try.prog 79 (pickV m c) = some l := by
  obtain ⟨d, hd⟩ := types_big
  have hf : (pickV m c).formed Try.prog 79 = true := by
    unfold pickV Value.formed
    rw [Try.underlying79, cells79]
    simp [cc_len h]
  have hk : Try.prog.keyType 79 = true := by kernel_rfl
  have h1 := lits_int (d + 1) 3 .i64 Try.underlying3 m hm
  obtain ⟨ls, h2⟩ := lits28 d h
  unfold keyOf
  rw [Try.underlying79]
  simp only [hk, hf, Bool.and_self, if_true, hd]
  unfold Program.keyLits
  rw [Try.underlying79]
  have ht : (cc c).take 32 = cc c := List.take_of_length_le (by rw [cc_len h]; omega)
  simp [pickV, Value.cells, cells79, cells3, cells28, h1, cc_len h, ht, h2]
end Go.Proofs.Qxb6603231a
