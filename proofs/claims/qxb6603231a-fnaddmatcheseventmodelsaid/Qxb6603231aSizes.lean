import Derived.Test.Qxb6603231aTal
import Derived.BigQuiet
import Derived.WalkSmall
namespace Go.Proofs.Qxb6603231a
open Go Go.RowKit

theorem hide {p : Prop} (h : p) : Hid p := h

/-- What 'in' leaves. -/
def InLeft (H m tb mb n : Nat) (L : List (Int × Nat)) (att : Int) (made : Bool) (w : World) (v : Value) (w' : World) : Prop :=
  (∃ z, look L att = some z ∧ v = .pointer (some ⟨z, 0, none⟩) ∧ Tal H m tb mb n L w') ∨ (look L att = none ∧ made = false ∧ v = .pointer none ∧ Tal H m tb mb n L w') ∨
    (look L att = none ∧ made = true ∧ ∃ z, v = .pointer (some ⟨z, 0, none⟩) ∧ w.heap.size ≤ z ∧ Tal H m tb mb (n + 1) (L ++ [(att, z)]) w')

/-- ZZIn (function 18). -/
theorem zzin_any {H m tb mb n : Nat} {L : List (Int × Nat)} {w : World} (h : Tal H m tb mb n L w) (hm : m ≤ 4096) (hn : n < maxLen) (att : Int) (hatt : (Lit.int .i64 att).wf = true) (made : Bool) :
    Calls Try.prog 18 #[.pointer (some ⟨tb, 0, none⟩), .int .i64 att, .bool made] w fun e w' => ∃ v, e = .returned v ∧ Kept tb mb w w' ∧ InLeft H m tb mb n L att made w v w' := by
  have c : Calls Try.prog 31 #[.pointer (some ⟨tb, 0, none⟩), .int .i64 att, .bool made] w fun e w' => ∃ v, e = .returned v ∧ Kept tb mb w w' ∧ InLeft H m tb mb n L att made w v w' := by
    refine (in_any h hm hn att hatt made).mono ?_
    rintro e w' ⟨hk, hc⟩
    rcases hc with ⟨z, hz, rfl, hT⟩ | ⟨hz, rfl, rfl, hT⟩ | ⟨hz, rfl, z, rfl, hzz, hT⟩
    · exact ⟨_, rfl, hk, Or.inl ⟨z, hz, rfl, hT⟩⟩
    · exact ⟨_, rfl, hk, Or.inr (Or.inl ⟨hz, rfl, rfl, hT⟩)⟩
    · exact ⟨_, rfl, hk, Or.inr (Or.inr ⟨hz, rfl, z, rfl, hzz, hT⟩)⟩
  clear h hatt hm hn
  go_enter Try.func18, Try.ntmps18
  go_wp2_with fail
  refine c.mono ?_
  rintro e w' ⟨v, rfl, hk, hc⟩
  go_wp2
  go_ret
  exact ⟨_, rfl, hk, hc⟩

theorem len_map {w : World} {b : Nat} {t k e : TypeId} (ht : Try.prog.underlying t = some (.map k e)) (h : w.heap[b]? = some (.map #[] 0)) (ty : TypeId) : (Builtin.len_ #[t] ty #[.map (some b)]).run Try.prog w = .ok (.int .i64 0) w := by
  simp [Builtin.len_, run_underlying ht, MapKept.run_getObj_map h, goInt, Result.andThen]

theorem results_tmp7 {fn : Func} {t1 t2 t3 t4 t5 t6 t7 : Tmp} (h : fn.results = #[.tmp t1, .tmp t2, .tmp t3, .tmp t4, .tmp t5, .tmp t6, .tmp t7]) (tmps : Array Value) (P : Program) (w : World) :
    (results fn tmps).run P w = .ok (.tuple #[tmps.getD t1 undef, tmps.getD t2 undef, tmps.getD t3 undef, tmps.getD t4 undef, tmps.getD t5 undef, tmps.getD t6 undef, tmps.getD t7 undef]) w := by
  simp [results, h]

/-- ZZBallotsSizes (function 19). -/
theorem sizes_any {H m : Nat} {att : Int} {w : World} {z : Nat} (h : Ball H m att w z) :
    Calls Try.prog 19 #[.pointer (some ⟨z, 0, none⟩)] w fun e w' => e = .returned (.tuple #[.int .i64 att, .int .i64 (m : Int), .int .i64 (m : Int), .int .i64 (m : Int), .int .i64 0, .int .i64 0, .int .i64 0]) ∧ ∃ nd, w.drewN nd = w' := by
  obtain ⟨_, x5, x6, x11, x16, x17, x18, hc, hp, _⟩ := h
  have c0 : w.cell? ⟨z, 0, none⟩ = some (.int .i64 att) := by rw [cell_of hc]; rfl
  have c1 : w.cell? ⟨z, 1, none⟩ = some (.slice (some ⟨x5, 0, none⟩) m m) := by rw [cell_of hc]; rfl
  have c2 : w.cell? ⟨z, 2, none⟩ = some (.map (some x6)) := by rw [cell_of hc]; rfl
  have c3 : w.cell? ⟨z, 3, none⟩ = some (.slice (some ⟨x11, 0, none⟩) m m) := by rw [cell_of hc]; rfl
  have c4 : w.cell? ⟨z, 4, none⟩ = some (.slice (some ⟨x16, 0, none⟩) m m) := by rw [cell_of hc]; rfl
  have c5 : w.cell? ⟨z, 5, none⟩ = some (.map (some x17)) := by rw [cell_of hc]; rfl
  have c6 : w.cell? ⟨z, 6, none⟩ = some (.map (some x18)) := by rw [cell_of hc]; rfl
  have l6 := fun nd ty => len_map (w := w.drewN nd) Try.underlying69 hp.h6 ty
  have l17 := fun nd ty => len_map (w := w.drewN nd) Try.underlying70 hp.h17 ty
  have l18 := fun nd ty => len_map (w := w.drewN nd) Try.underlying71 hp.h18 ty
  clear hc hp
  go_enter Try.func19, Try.ntmps19
  go_wp2
  go_quiet (fail)
  go_wp2
  (try simp only [Exit.inBlock, Exit.then])
  refine bodyPost_ret (results_tmp7 rfl _ _ _) rfl ?_
  exact ⟨rfl, _, rfl⟩
end Go.Proofs.Qxb6603231a
