import Derived.Test.Qxb6603231aMapV
namespace Go.Proofs.Qxb6603231a
open Go Go.RowKit Go.WideElems Go.ChangeMaps
open Classical

section
variable {H : Type} {P : Program} {w : World} {t k e : TypeId} {R : Value → Option (DataW H × List MemPlace)} {b : Nat} {es : Array MapEntry} {clock : Nat}
/-- 'mapEntry' leaves what a store of the element as it is would leave. -/
theorem entry_mid (K : WideMaps.KeyLaw P k) (ht : P.underlying t = some (.map k e)) {z : Value} (hz : ∀ u : World, (zeroValue e).run P u = .ok z u) (hb : w.heap[b]? = some (.map es clock)) (F : Fit P k R es clock)
    {key : Value} {kl : Lit} (hkey : keyOf P k key = some kl) :
    ∃ (v0 : Value) (st : Nat) (w1 : World), (Instr.mapEntry t (.map (some b)) key).run P w = .ok (.tuple #[v0, goInt st]) w1 ∧ (Instr.mapUpdate t (.map (some b)) key v0).run P w = .ok () w1 ∧ (Instr.lookup t (.map (some b)) key false).run P w = .ok v0 w := by
  rcases K.find w hkey es.toList F.keys with ⟨h1, h2⟩ | ⟨j, e0, h1, h2, h3⟩
  · refine ⟨z, clock, setBlock w b (.map (es.push ⟨key, z, clock⟩) (clock + 1)), ?_, ?_, ?_⟩
    · simp [Instr.mapEntry, run_underlying ht, MapKept.run_getObj_map hb, K.check w false hkey, h1, hz, MapKept.run_setObj_map _ hb, Result.andThen, setBlock]
    · simp [Instr.mapUpdate, run_underlying ht, MapKept.run_getObj_map hb, K.check w false hkey, h1, MapKept.run_setObj_map _ hb, Result.andThen, setBlock]
    · simp [Instr.lookup, run_underlying ht, MapKept.run_getObj_map hb, K.check w _ hkey, h1, hz, Result.andThen]
  · have hj : es[j]? = some e0 := by simpa using h2
    have hsame : es.modify j (fun e => { e with key := key }) = es := by
      apply Array.ext'
      rw [Array.toList_modify, modify_eq_set _ _ _ _ h2]
      have : ({ e0 with key := key } : MapEntry) = e0 := by rw [← h3]
      rw [this]
      exact set_self _ _ _ h2
    have hsame2 : es.modify j (fun e => { e with key := key, val := e0.val }) = es := by
      apply Array.ext'
      rw [Array.toList_modify, modify_eq_set _ _ _ _ h2]
      have : ({ e0 with key := key, val := e0.val } : MapEntry) = e0 := by rw [← h3]
      rw [this]
      exact set_self _ _ _ h2
    refine ⟨e0.val, e0.born, setBlock w b (.map es clock), ?_, ?_, ?_⟩
    · simp [Instr.mapEntry, run_underlying ht, MapKept.run_getObj_map hb, K.check w false hkey, h1, hj, h3, K.stays w hkey, hsame, MapKept.run_setObj_map _ hb, Result.andThen, setBlock]
    · simp [Instr.mapUpdate, run_underlying ht, MapKept.run_getObj_map hb, K.check w false hkey, h1, hj, h3, K.stays w hkey, hsame2, MapKept.run_setObj_map _ hb, Result.andThen, setBlock]
    · simp [Instr.lookup, run_underlying ht, MapKept.run_getObj_map hb, K.check w _ hkey, h1, Result.andThen]
end

/-- 'm[k] op= x' : the entry is taken, then stored into. -/
theorem MapV.entry {t k e : TypeId} {b n : Nat} {f : Value → Option Value} {cnt : Nat} {w : World} (h : MapV k b n f cnt w) (K : WideMaps.KeyLaw Try.prog k) (ht : Try.prog.underlying t = some (.map k e)) (hn : n < maxLen) {z : Value} (hz : ∀ u : World, (zeroValue e).run Try.prog u = .ok z u)
    {key : Value} {l : Lit} (hkey : keyOf Try.prog k key = some l) :
    ∃ (st : Nat) (w1 : World), (Instr.mapEntry t (.map (some b)) key).run Try.prog w = .ok (.tuple #[(f key).getD z, goInt st]) w1 ∧ MapV k b (n + 1) (upd f key ((f key).getD z)) (if (f key).isSome then cnt else cnt + 1) w1 ∧ w.mapTurned w1 b ∧
      ∀ (w2 : World) (val : Value), w2.heap[b]? = w1.heap[b]? → ∃ w3, (Instr.entryStore t (.map (some b)) (goInt st) val).run Try.prog w2 = .ok () w3 ∧ MapV k b (n + 1) (upd f key val) (if (f key).isSome then cnt else cnt + 1) w3 ∧ w2.mapTurned w3 b := by
  have hK : Maps.Keyed Try.prog k := Maps.Keyed.of_law K
  have h0 := h
  obtain ⟨D, ⟨es, clock, hb, F, hs, rfl⟩, hr⟩ := h
  obtain ⟨v0, st, w1, r1, r2, r3⟩ := entry_mid (w := w) K ht hz hb F hkey
  obtain ⟨v0', st', es1, clock1, q1, _, q3⟩ := entry_then_store (w := w) K ht hz hb F hkey
  have hv0 : v0 = (f key).getD z := by
    have := h0.look hK ht (hz w) hkey
    rw [r3] at this
    cases this; rfl
  rw [r1] at q1
  simp only [Result.ok.injEq, Value.tuple.injEq] at q1
  obtain ⟨q1, hw1⟩ := q1
  have hst : goInt st = goInt st' := by
    have := congrArg (fun a : Array Value => a[1]?) q1
    simpa using this
  subst hv0
  obtain ⟨w1', s1, s2, s3⟩ := h0.store hK ht hn hkey ((f key).getD z)
  rw [r2] at s1
  cases s1
  refine ⟨st, w1, r1, s2, s3, fun w2 val hw2 => ?_⟩
  have hb1 : w1.heap[b]? = some (.map es1 clock1) := by rw [hw1]; exact heap_setBlock_same hb _
  obtain ⟨es', clock', t1, t2⟩ := q3 w2 val (hw2.trans hb1)
  rw [← hst] at t1
  obtain ⟨w3', u1, u2, _⟩ := h0.store hK ht hn hkey val
  rw [t2] at u1
  cases u1
  refine ⟨_, t1, u2.keep ?_, ⟨es1, clock1, es', clock', hw2.trans hb1, rfl⟩⟩
  rw [heap_setBlock_same (hw2.trans hb1), heap_setBlock_same hb]
end Go.Proofs.Qxb6603231a
