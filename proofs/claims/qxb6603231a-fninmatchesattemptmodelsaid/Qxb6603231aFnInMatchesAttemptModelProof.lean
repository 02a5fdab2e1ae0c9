/- The proof of Rows.FnInMatchesAttemptModelSaid: the frame is turned from the one that the kit's tool wrote for another seat's law. -/
import Derived.Test.Qxb6603231aRows
import Derived.WalkKit
import Derived.ProofKit
import Derived.OpenShut
import Derived.ShutString
import Derived.ChangeOld
import Derived.Below
import Derived.Carry
import Derived.Deep.SlicePairs
import Derived.Test.Qxb6603231aEdges
namespace Go.Proofs.Qxb6603231a.fnInMatchesAttemptModel
open Go.ChangeShapes Go.WideShapes Go.ChangeAt Go.RowKit
set_option linter.unusedVariables false

theorem own : ownKnob Try.prog.godebug = none := by kernel_rfl
theorem laidOut : laidOutB Try.prog = true := by kernel_rfl
theorem under45 : ∃ f0 f1 : Field, Try.prog.underlying 45 = some (.struct #[f0, f1]) ∧ f0.offset = 0 ∧ f1.offset = 1 ∧ f0.type = 2 ∧ f1.type = 4 := ⟨_, _, Try.underlying45, rfl, rfl, rfl, rfl⟩

/-- A slice of steps that came in. -/
def IsSteps (w : World) (a : Option Addr) (len cap : Nat) : Prop :=
  (a = none ∧ len = 0 ∧ cap = 0) ∨
  ∃ (x : Addr) (A : Nat → Int) (M : Nat → Bool), a = some x ∧ ∀ i, i < len → w.cell? (x.add (i * 2)) = some (.int .i64 (A i)) ∧ w.cell? (x.add (i * 2 + 1)) = some (.bool (M i)) ∧ (Lit.int .i64 (A i)).wf = true

theorem walk (a0 : Int) (a1 : Option Addr) (len1 cap1 : Nat) (w : World) (w1 : IsSteps w a1 len1 cap1) :
    Calls Try.prog 4 #[.int .i64 a0, .slice a1 len1 cap1] w fun e w' => e = .returned (.bool true) ∧ Below w.heap.size w w' := by
  by_cases hbig : (1048576 : Int) < len1
  · exact law4_huge a0 a1 len1 cap1 w hbig
  by_cases hlong : (4096 : Int) < len1
  · exact law4_long a0 a1 len1 cap1 w (by omega) hlong
  by_cases hneg : a0 < 0
  · exact law4_neg a0 a1 len1 cap1 w (by omega) hneg
  by_cases hwide : 4096 < a0
  · exact law4_wide a0 a1 len1 cap1 w (by omega) hwide
  obtain ⟨m, rfl⟩ : ∃ m : Nat, a0 = (m : Int) := ⟨a0.toNat, by omega⟩
  by_cases h0 : len1 = 0
  · subst h0
    refine law4_zero m (by omega) a1 cap1 (fun e => ?_) w
    rcases w1 with ⟨_, _, hc⟩ | ⟨x, _, _, hx, _⟩
    · exact hc
    · rw [hx] at e; cases e
  · rcases w1 with ⟨_, hl, _⟩ | ⟨⟨b, off, spot⟩, A, M, rfl, hx⟩
    · exact absurd hl h0
    · have hc0 := (hx 0 (by omega)).1
      have hspot : spot = none := by simpa [Addr.add] using World.cell?_spot hc0
      subst hspot
      have hb : b < w.heap.size := by simpa [Addr.add] using World.block_lt_of_cell? _ _ hc0
      refine law4_main b off len1 cap1 m A M w (by omega) (by omega) hb (fun j hj => (hx j hj).2.2) (fun j hj => ?_)
      have h1 := (hx j hj).1
      have h2 := (hx j hj).2.1
      rw [Addr.add_lit] at h1 h2
      exact ⟨h1, by rw [← Nat.add_assoc] at h2; exact h2⟩

set_option maxRecDepth 100000 in
theorem lifted (os : Os) (started : os.Started) (H : Type) (enc : TypeId × Value → H) :
    ReturnsInHanded {} Try.checked os 4 .any (Rows.fnInMatchesAttemptModelSpec.pre6 enc Try.prog Try.f4 Rows.fnInMatchesAttemptModelRow.domain false) (Rows.fnInMatchesAttemptModelSpec.post enc Try.prog Try.f4 false true false false) := by
  refine returnsInHanded_of_change (C := Try.checked) own started (by kernel_rfl) Try.func4
    (ChangeSpec.witness6 (enc := enc) (C := Try.checked) false ⟨#[], #[.int .i64 0, .slice none 0 0], []⟩ 8 (by kernel_rfl) (by kernel_rfl) (by kernel_rfl) (by kernel_rfl)) ?_
  intro W base args ds gs before hval0 hW hcnd _
  have hval : ∀ (j : Nat) t v, Try.f4.params[j]? = some t → args[j]? = some v → Value.okWide Try.prog W .any base t v := hval0
  have hW' := hW
  obtain ⟨p, q, hA0, hV, rfl, hfz, hnd⟩ := hW
  have hA : DataW.TrodAll enc Try.prog W 0 (fun _ => true) true Try.f4.params.toList args.toList ds p := hA0
  rw [Try.params4] at hA hval
  obtain ⟨v0, vs0, d0, ds0, p0, q0, hargs, rfl, rfl, h0, r0⟩ := trodAll_cons hA
  obtain ⟨v1, vs1, d1, ds1, p1, q1, rfl, rfl, rfl, h1, r1⟩ := trodAll_cons r0
  obtain ⟨rfl, rfl, rfl⟩ := trodAll_nil r1
  obtain rfl : args = #[v0, v1] := by cases args; simp_all
  obtain ⟨rfl, rfl⟩ := trodVars_none hV
  obtain ⟨a0, rfl, rfl, rfl, w0⟩ := open_int Try.underlying3 (hval 0 3 v0 rfl rfl) h0
  obtain ⟨a1, len1, cap1, rfl⟩ := okWide_slice Try.underlying39 (hval 1 39 v1 rfl rfl)
  have k1 := h1
  have lt1 : ∀ x ∈ p1, x.block < W.heap.size := by obtain ⟨m, hm⟩ := k1; exact DataW.trod_lt m _ _ _ hm
  have w1 : IsSteps W a1 len1 cap1 := by
    obtain ⟨fuel, hf⟩ := h1
    obtain ⟨f0, f1, hu, o0, o1, t0, t1⟩ := under45
    rcases Deep.open_slice_pairs Try.underlying39 hu (by kernel_rfl) o0 o1 (by rw [t0]; kernel_rfl) (by rw [t1]; kernel_rfl) hf with ⟨hcs, _⟩ | ⟨x, l, c, m, n, V0, V1, D0, D1, P0, P1, hcs, _, hl, hm, hmm, _, hx⟩
    · simp [Value.cells] at hcs
      obtain ⟨rfl, rfl, rfl⟩ := hcs
      exact .inl ⟨rfl, rfl, rfl⟩
    · simp [Value.cells] at hcs
      obtain ⟨rfl, rfl, rfl⟩ := hcs
      have hlm : len1 ≤ m := by rw [hmm]; split <;> omega
      refine .inr ⟨x, fun i => intOf (V0 i), fun i => match V1 i with | .bool b => b | _ => false, rfl, fun i hi => ?_⟩
      obtain ⟨c0, c1, g0, g1⟩ := hx i (by omega)
      rw [t0] at g0
      rw [t1] at g1
      obtain ⟨n0, e0, _, hwf⟩ := DataW.trod_int Try.underlying2 g0
      obtain ⟨b1, e1, _⟩ := DataW.trod_bool Try.underlying4 g1
      have e0' : V0 i = .int .i64 n0 := by simpa using e0
      have e1' : V1 i = .bool b1 := by simpa using e1
      refine ⟨?_, ?_, ?_⟩
      · show _ = some (Value.int .i64 (intOf (V0 i)))
        rw [c0, e0']; rfl
      · show _ = some (Value.bool (match V1 i with | .bool b => b | _ => false))
        rw [c1, e1']
      · show (Lit.int .i64 (intOf (V0 i))).wf = true
        rw [e0']; exact hwf
  clear hA0 hval0
  refine (walk a0 a1 len1 cap1 W w1).mono fun e W' ⟨he, bel⟩ => ?_
  subst he
  exact ⟨_, rfl, _, _, _, [], _, [], hW', trodAll_mk1 (shut_bool Try.underlying4 _), (trodAll_cons_mk (shut_int Try.underlying3 w0) (trodAll_cons_mk (Below.trod laidOut (by kernel_rfl) (of_decide_eq_true (by kernel_rfl)) k1 bel lt1) trodAll_mk0)), rfl, bel.frame _, fun h => by cases h⟩

theorem over : Rows.fnInMatchesAttemptModelRow.holds Try.pinned (OpenSpec.ofChange Rows.fnInMatchesAttemptModelSpec) :=
  OpenClaim.holds_of_wide 4 Try.f4 rfl rfl rfl rfl rfl rfl rfl ⟨rfl, rfl, rfl, rfl, rfl⟩ rfl rfl rfl rfl rfl (by kernel_rfl) Try.func4 (by kernel_rfl)
    (of_decide_eq_true (by kernel_rfl)) (by unfold Func.isWrapper; first | (rw [if_pos (by decide +kernel)]; kernel_rfl) | (rw [if_neg (by decide +kernel)]; exact ⟨rfl, rfl⟩))
    (fun os started H enc _ => lifted os started H enc)

/-- The statement. -/
theorem proved : Rows.FnInMatchesAttemptModelSaid := over
#print axioms proved
end Go.Proofs.Qxb6603231a.fnInMatchesAttemptModel
