/- The proof of Rows.FnAddMatchesEventModelSaid: the frame is turned from the one that the kit's tool wrote for another seat's law. -/
import Derived.Test.Qxb6603231aRows
import Derived.WalkKit
import Derived.ProofKit
import Derived.OpenShut
import Derived.ShutString
import Derived.ChangeOld
import Derived.Below
import Derived.Carry
import Derived.Deep.Slices
import Derived.Test.Qxb6603231aEdges6
namespace Go.Proofs.Qxb6603231a.fnAddMatchesEventModel
open Go.ChangeShapes Go.WideShapes Go.ChangeAt Go.RowKit
set_option linter.unusedVariables false

theorem own : ownKnob Try.prog.godebug = none := by kernel_rfl
theorem laidOut : laidOutB Try.prog = true := by kernel_rfl
theorem under30 : ∃ f0 f1 f2 f3 f4 f5 : Field, Try.prog.underlying 30 = some (.struct #[f0, f1, f2, f3, f4, f5]) ∧ (f0.offset = 0 ∧ f1.offset = 1 ∧ f2.offset = 2 ∧ f3.offset = 3 ∧ f4.offset = 35 ∧ f5.offset = 36) ∧ (f0.type = 2 ∧ f1.type = 3 ∧ f2.type = 3 ∧ f3.type = 28 ∧ f4.type = 2 ∧ f5.type = 2) := ⟨_, _, _, _, _, _, Try.underlying30, ⟨rfl, rfl, rfl, rfl, rfl, rfl⟩, ⟨rfl, rfl, rfl, rfl, rfl, rfl⟩⟩
theorem cells2 : Try.prog.cellsOf 2 = 1 := by kernel_rfl
theorem cells30 : Try.prog.cellsOf 30 = 37 := by kernel_rfl

theorem seg (l : List Value) (i k : Nat) : l.drop i = (l.drop i).take k ++ l.drop (i + k) := by
  rw [← List.drop_drop]; exact (List.take_append_drop k _).symm

/-- 32 bytes, opened. -/
theorem open_cand {H : Type} {enc : TypeId × Value → H} {w : World} {base : Nat} {spare : Nat → Bool} {held : Bool} {fuel : Nat} {cs : List Value} {x : DataW H × List MemPlace} (h : DataW.trod enc Try.prog w base spare held fuel 28 cs = some x) : ∃ c, Cv c ∧ cs = cc c := by
  obtain ⟨xs, m, _, _, hl, hxl, hf⟩ := DataW.trod_array Try.underlying28 h
  rw [cells28] at hl
  have each : ∀ i, i < 32 → ∃ z : Int, cs[i]? = some (.int .u8 z) ∧ (Lit.int .u8 z).wf = true := by
    intro i hi
    have g := hf i hi
    rw [cells5, Nat.mul_one] at g
    have hx : ∃ y, xs[i]? = some y := ⟨_, List.getElem?_eq_getElem (by omega)⟩
    obtain ⟨y, hy⟩ := hx
    rw [hy] at g
    obtain ⟨z, e, _, hw⟩ := DataW.trod_int Try.underlying5 g
    refine ⟨z, ?_, hw⟩
    have : ((cs.drop i).take 1)[0]? = some (.int .u8 z) := by rw [e]; rfl
    simpa using this
  obtain ⟨z, hz⟩ := Deep.choose_lt each
  refine ⟨(List.range 32).map z, ⟨by simp, fun u hu => ?_⟩, ?_⟩
  · obtain ⟨i, hi, rfl⟩ := List.mem_map.1 hu
    exact (hz i (List.mem_range.1 hi)).2
  · apply List.ext_getElem?
    intro i
    by_cases hi : i < 32
    · rw [(hz i hi).1]
      simp [cc, hi]
    · rw [List.getElem?_eq_none (by omega), List.getElem?_eq_none (by simp [cc]; omega)]

/-- A step, opened. -/
theorem open_step {H : Type} {enc : TypeId × Value → H} {w : World} {base : Nat} {spare : Nat → Bool} {held : Bool} {fuel : Nat} {cs : List Value} {x : DataW H × List MemPlace} (h : DataW.trod enc Try.prog w base spare held fuel 30 cs = some x) : ∃ s : Step, Sv s ∧ cs = s.cells := by
  obtain ⟨f0, f1, f2, f3, f4, f5, hu, ⟨o0, o1, o2, o3, o4, o5⟩, ⟨t0, t1, t2, t3, t4, t5⟩⟩ := under30
  obtain ⟨xs, m, _, _, hl, hxl, hf⟩ := DataW.trod_struct hu h
  rw [cells30] at hl
  have hx : ∀ i, i < 6 → ∃ y, xs[i]? = some y := fun i hi => ⟨_, List.getElem?_eq_getElem (by rw [hxl]; exact hi)⟩
  have g0 := hf 0 f0 rfl
  have g1 := hf 1 f1 rfl
  have g2 := hf 2 f2 rfl
  have g3 := hf 3 f3 rfl
  have g4 := hf 4 f4 rfl
  have g5 := hf 5 f5 rfl
  obtain ⟨y0, h0⟩ := hx 0 (by omega)
  obtain ⟨y1, h1⟩ := hx 1 (by omega)
  obtain ⟨y2, h2⟩ := hx 2 (by omega)
  obtain ⟨y3, h3⟩ := hx 3 (by omega)
  obtain ⟨y4, h4⟩ := hx 4 (by omega)
  obtain ⟨y5, h5⟩ := hx 5 (by omega)
  rw [h0, o0, t0, cells2] at g0
  rw [h1, o1, t1, cells3] at g1
  rw [h2, o2, t2, cells3] at g2
  rw [h3, o3, t3, cells28] at g3
  rw [h4, o4, t4, cells2] at g4
  rw [h5, o5, t5, cells2] at g5
  obtain ⟨z0, e0, _, w0⟩ := DataW.trod_int Try.underlying2 g0
  obtain ⟨z1, e1, _, w1⟩ := DataW.trod_int Try.underlying3 g1
  obtain ⟨z2, e2, _, w2⟩ := DataW.trod_int Try.underlying3 g2
  obtain ⟨c, hc, e3⟩ := open_cand g3
  obtain ⟨z4, e4, _, w4⟩ := DataW.trod_int Try.underlying2 g4
  obtain ⟨z5, e5, _, w5⟩ := DataW.trod_int Try.underlying2 g5
  refine ⟨⟨z0, z1, z2, c, z4, z5⟩, ⟨hc, w0, w1, w2, w4, w5⟩, ?_⟩
  have s0 := seg cs 0 1
  have s1 := seg cs 1 1
  have s2 := seg cs 2 1
  have s3 := seg cs 3 32
  have s4 := seg cs 35 1
  have s5 := seg cs 36 1
  rw [e0] at s0
  rw [e1] at s1
  rw [e2] at s2
  rw [e3] at s3
  rw [e4] at s4
  rw [e5] at s5
  simp only [Nat.reduceAdd, List.drop_zero] at s0 s1 s2 s3 s4 s5
  have s6 : cs.drop 37 = [] := List.drop_eq_nil_of_le (by omega)
  rw [s0, s1, s2, s3, s4, s5, s6]
  simp [Step.cells]

/-- A slice of steps that came in. -/
def IsSteps (w : World) (a : Option Addr) (len cap : Nat) : Prop :=
  (a = none ∧ len = 0 ∧ cap = 0) ∨
  ∃ (x : Addr) (S : Nat → Step), a = some x ∧ ∀ i, i < len → Sv (S i) ∧ ∀ (j : Nat) (v : Value), (S i).cells[j]? = some v → w.cell? (x.add (i * 37 + j)) = some v

theorem walk (a0 : Int) (a1 : Option Addr) (len1 cap1 : Nat) (w : World) (w1 : IsSteps w a1 len1 cap1) :
    Calls Try.prog 6 #[.int .i64 a0, .slice a1 len1 cap1] w fun e w' => e = .returned (.bool true) ∧ Below w.heap.size w w' := by
  by_cases hlong : (4096 : Int) < len1
  · exact law6_long a0 a1 len1 cap1 w hlong
  by_cases hneg : a0 < 0
  · exact law6_neg a0 a1 len1 cap1 w (by omega) hneg
  by_cases hwide : 4096 < a0
  · exact law6_wide a0 a1 len1 cap1 w (by omega) hwide
  obtain ⟨m, rfl⟩ : ∃ m : Nat, a0 = (m : Int) := ⟨a0.toNat, by omega⟩
  rcases w1 with ⟨rfl, rfl, rfl⟩ | ⟨⟨b, off, spot⟩, S, rfl, hx⟩
  · exact law6 m 0 0 0 0 none (Or.inl rfl) (fun _ => ⟨rfl, rfl⟩) (fun _ => ⟨0, 0, 0, [], 0, 0⟩) w (fun i hi => by omega) (fun i hi => by omega) (by omega) (by omega) (fun h => by omega)
  · by_cases h0 : len1 = 0
    · subst h0
      exact law6 m b off 0 cap1 _ (Or.inl rfl) (fun e => by cases e) S w (fun i hi => by omega) (fun i hi => by omega) (by omega) (by omega) (fun h => by omega)
    · have hc0 := (hx 0 (by omega)).2 0 _ (Step.at0 _)
      have hspot : spot = none := by simpa [Addr.add] using World.cell?_spot hc0
      subst hspot
      have hb : b < w.heap.size := by simpa [Addr.add] using World.block_lt_of_cell? _ _ hc0
      refine law6 m b off len1 cap1 _ (Or.inr rfl) (fun e => by cases e) S w (fun i hi => (hx i hi).1) (fun i hi j v hj => ?_) (by omega) (by omega) (fun _ => hb)
      have := (hx i hi).2 j v hj
      rw [Addr.add_lit, ← Nat.add_assoc] at this
      exact this

set_option maxRecDepth 100000 in
theorem lifted (os : Os) (started : os.Started) (H : Type) (enc : TypeId × Value → H) :
    ReturnsInHanded {} Try.checked os 6 .any (Rows.fnAddMatchesEventModelSpec.pre6 enc Try.prog Try.f6 Rows.fnAddMatchesEventModelRow.domain false) (Rows.fnAddMatchesEventModelSpec.post enc Try.prog Try.f6 false true false false) := by
  refine returnsInHanded_of_change (C := Try.checked) own started (by kernel_rfl) Try.func6
    (ChangeSpec.witness6 (enc := enc) (C := Try.checked) false ⟨#[], #[.int .i64 0, .slice none 0 0], []⟩ 8 (by kernel_rfl) (by kernel_rfl) (by kernel_rfl) (by kernel_rfl)) ?_
  intro W base args ds gs before hval0 hW hcnd _
  have hval : ∀ (j : Nat) t v, Try.f6.params[j]? = some t → args[j]? = some v → Value.okWide Try.prog W .any base t v := hval0
  have hW' := hW
  obtain ⟨p, q, hA0, hV, rfl, hfz, hnd⟩ := hW
  have hA : DataW.TrodAll enc Try.prog W 0 (fun _ => true) true Try.f6.params.toList args.toList ds p := hA0
  rw [Try.params6] at hA hval
  obtain ⟨v0, vs0, d0, ds0, p0, q0, hargs, rfl, rfl, h0, r0⟩ := trodAll_cons hA
  obtain ⟨v1, vs1, d1, ds1, p1, q1, rfl, rfl, rfl, h1, r1⟩ := trodAll_cons r0
  obtain ⟨rfl, rfl, rfl⟩ := trodAll_nil r1
  obtain rfl : args = #[v0, v1] := by cases args; simp_all
  obtain ⟨rfl, rfl⟩ := trodVars_none hV
  obtain ⟨a0, rfl, rfl, rfl, w0⟩ := open_int Try.underlying3 (hval 0 3 v0 rfl rfl) h0
  obtain ⟨a1, len1, cap1, rfl⟩ := okWide_slice Try.underlying22 (hval 1 22 v1 rfl rfl)
  have k1 := h1
  have lt1 : ∀ x ∈ p1, x.block < W.heap.size := by obtain ⟨m, hm⟩ := k1; exact DataW.trod_lt m _ _ _ hm
  have w1 : IsSteps W a1 len1 cap1 := by
    obtain ⟨fuel, hf⟩ := h1
    rcases Deep.open_slice Try.underlying22 hf with ⟨hcs, _⟩ | ⟨x, l, c, m, n, D, Pl, hcs, _, hl, hm, hmm, _, hx⟩
    · simp [Value.cells] at hcs
      obtain ⟨rfl, rfl, rfl⟩ := hcs
      exact .inl ⟨rfl, rfl, rfl⟩
    · simp [Value.cells] at hcs
      obtain ⟨rfl, rfl, rfl⟩ := hcs
      have hlm : len1 ≤ m := by rw [hmm]; split <;> omega
      have each : ∀ i, i < len1 → ∃ s : Step, Sv s ∧ ∀ (j : Nat) (v : Value), s.cells[j]? = some v → W.cell? (x.add (i * 37 + j)) = some v := by
        intro i hi
        obtain ⟨cs', h1, h2⟩ := hx i (by omega)
        rw [cells30] at h1
        obtain ⟨_, hlen, hcell⟩ := World.cells?_some h1
        obtain ⟨s, hs, rfl⟩ := open_step h2
        refine ⟨s, hs, fun j v hj => ?_⟩
        have hj37 : j < 37 := by
          have := (List.getElem?_eq_some_iff.1 hj).1
          rw [Step.len hs] at this; exact this
        have := hcell j hj37
        rw [Deep.add_add] at this
        rw [this]; exact hj
      haveI : Inhabited Step := ⟨⟨0, 0, 0, [], 0, 0⟩⟩
      obtain ⟨S, hS⟩ := Deep.choose_lt each
      exact .inr ⟨x, S, rfl, hS⟩
  clear hA0 hval0
  refine (walk a0 a1 len1 cap1 W w1).mono fun e W' ⟨he, bel⟩ => ?_
  subst he
  exact ⟨_, rfl, _, _, _, [], _, [], hW', trodAll_mk1 (shut_bool Try.underlying4 _), (trodAll_cons_mk (shut_int Try.underlying3 w0) (trodAll_cons_mk (Below.trod laidOut (by kernel_rfl) (of_decide_eq_true (by kernel_rfl)) k1 bel lt1) trodAll_mk0)), rfl, bel.frame _, fun h => by cases h⟩

theorem over : Rows.fnAddMatchesEventModelRow.holds Try.pinned (OpenSpec.ofChange Rows.fnAddMatchesEventModelSpec) :=
  OpenClaim.holds_of_wide 6 Try.f6 rfl rfl rfl rfl rfl rfl rfl ⟨rfl, rfl, rfl, rfl, rfl⟩ rfl rfl rfl rfl rfl (by kernel_rfl) Try.func6 (by kernel_rfl)
    (of_decide_eq_true (by kernel_rfl)) (by unfold Func.isWrapper; first | (rw [if_pos (by decide +kernel)]; kernel_rfl) | (rw [if_neg (by decide +kernel)]; exact ⟨rfl, rfl⟩))
    (fun os started H enc _ => lifted os started H enc)

/-- The statement. -/
theorem proved : Rows.FnAddMatchesEventModelSaid := over
#print axioms proved
end Go.Proofs.Qxb6603231a.fnAddMatchesEventModel
