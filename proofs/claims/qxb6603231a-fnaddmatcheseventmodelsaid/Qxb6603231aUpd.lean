import Derived.Test.Qxb6603231aIn2
namespace Go.Proofs.Qxb6603231a
open Go Go.RowKit

theorem Blk.apart {b : Blk} (h : b.all.Nodup) : b.z ≠ b.x5 ∧ b.z ≠ b.x6 ∧ b.z ≠ b.x11 ∧ b.z ≠ b.x16 ∧ b.z ≠ b.x17 ∧ b.z ≠ b.x18 ∧ b.x5 ≠ b.x6 ∧ b.x5 ≠ b.x11 ∧ b.x5 ≠ b.x16 ∧ b.x5 ≠ b.x17 ∧ b.x5 ≠ b.x18 ∧ b.x6 ≠ b.x11 ∧ b.x6 ≠ b.x16 ∧ b.x6 ≠ b.x17 ∧ b.x6 ≠ b.x18 ∧ b.x11 ≠ b.x16 ∧ b.x11 ≠ b.x17 ∧ b.x11 ≠ b.x18 ∧ b.x16 ≠ b.x17 ∧ b.x16 ≠ b.x18 ∧ b.x17 ≠ b.x18 := by
  simp only [Blk.all, List.nodup_cons, List.mem_cons, List.not_mem_nil, or_false, not_or] at h
  obtain ⟨⟨a1, a2, a3, a4, a5, a6⟩, ⟨b1, b2, b3, b4, b5⟩, ⟨c1, c2, c3, c4⟩, ⟨d1, d2, d3⟩, ⟨e1, e2⟩, f1, _⟩ := h
  exact ⟨a1, a2, a3, a4, a5, a6, b1, b2, b3, b4, b5, c1, c2, c3, c4, d1, d2, d3, e1, e2, f1⟩
theorem turned_block {w w' : World} {b : Nat} (h : w.mapTurned w' b) : ∀ k, k ≠ b → w'.heap[k]? = w.heap[k]? := by
  obtain ⟨es, clock, es', clock', hb, rfl⟩ := h
  intro k hk
  exact ChangeMaps.heap_setBlock_other hb _ hk
theorem turned_size {w w' : World} {b : Nat} (h : w.mapTurned w' b) : w.heap.size ≤ w'.heap.size := h.grown.size
theorem turned_below {T : Nat} {w0 w w' : World} {b : Nat} (hb : Below T w0 w) (h : w.mapTurned w' b) (hT : T ≤ w.heap.size) (h1 : T ≤ b) : Below T w0 w' := hb.grown h.grown hT (fun k hk => by cases hk; exact h1)

section
variable {H m tb mb qb n : Nat} {B : Int → Option Blk} {A : ASt} {ex : List (Nat × Obj)} {w w' : World} {att : Int} {b : Blk}

/-- 'b.cast[member] = true'. -/
theorem Tal2.castSet (h : Tal2 H m tb mb qb n B A ex w) (hB : B att = some b) (mem : Nat) : Tal2 H m tb mb qb n B (A.put att ((A.of att).doCast mem 0)) ex (w.setCell ⟨b.x5, mem, none⟩ (.bool true)) := by
  have hb := h.balls att b hB
  obtain ⟨a1, a2, a3, a4, a5, a6, b1, b2, b3, b4, b5, c1, c2, c3, c4, d1, d2, d3, e1, e2, f1⟩ := Blk.apart hb.nd
  have hk : ∀ k, k ≠ b.x5 → (w.setCell ⟨b.x5, mem, none⟩ (.bool true)).heap[k]? = w.heap[k]? := fun k hk => heap_set_other _ hk
  refine h.touch (Nat.le_refl _) hB (x := fun k => k = b.x5) (by rintro k rfl; simp [Blk.all]) (by simp [World.setCell]) hk ⟨hb.ge, hb.nd, (hk _ a1).trans hb.cell, ?_, ?_, hb.inn.keep (Nat.le_refl _) (hk _ (Ne.symm b2)) (hk _ (Ne.symm b3)) (hk _ (Ne.symm b4)), hb.wt.keep (Nat.le_refl _) (hk _ (Ne.symm b5))⟩
  · obtain ⟨cs, g1, g2, g3⟩ := hb.cast
    refine ⟨_, heap_set g1 _, by simpa using g2, fun j hj => ?_⟩
    by_cases e : mem = j
    · subst e
      rw [Array.getElem?_setIfInBounds_self_of_lt (by omega)]
      simp [BA.doCast]
    · rw [Array.getElem?_setIfInBounds_ne e, g3 j hj]
      have : ¬ (mem : Int) = (j : Int) := by omega
      simp [BA.doCast, this]
  · obtain ⟨f, cnt, g1, g2⟩ := hb.forks
    refine ⟨f, cnt, g1.keep (hk _ (Ne.symm b1)), fun mem' br hbr => ?_⟩
    rw [g2 mem' br hbr]
    have : ¬ (0 : Int) = br := Ne.symm hbr
    simp [BA.doCast, this]

/-- 'b.forks[ballot{member, branch}] = true'. -/
theorem Tal2.forksSet (h : Tal2 H m tb mb qb n B A ex w) (hB : B att = some b) (hn : n < maxLen) (mem br : Int) (hmem : (Lit.int .i64 mem).wf = true) (hbr : (Lit.int .i64 br).wf = true) (h0 : br ≠ 0) :
    ∃ w', (Instr.mapUpdate 69 (.map (some b.x6)) (.agg #[.int .i64 mem, .int .i64 br]) (.bool true)).run Try.prog w = .ok () w' ∧ Tal2 H m tb mb qb (n + 1) B (A.put att ((A.of att).doCast mem br)) ex w' ∧ w.mapTurned w' b.x6 := by
  have hb := h.balls att b hB
  obtain ⟨a1, a2, a3, a4, a5, a6, b1, b2, b3, b4, b5, c1, c2, c3, c4, d1, d2, d3, e1, e2, f1⟩ := Blk.apart hb.nd
  obtain ⟨f, cnt, g1, g2⟩ := hb.forks
  obtain ⟨l, hl⟩ := key77 hmem hbr
  obtain ⟨w', r1, r2, r3⟩ := g1.store keyed77 Try.underlying69 hn hl (.bool true)
  have hk := turned_block r3
  refine ⟨w', r1, h.touch (Nat.le_succ _) hB (x := fun k => k = b.x6) (by rintro k rfl; simp [Blk.all]) (turned_size r3) hk ⟨hb.ge, hb.nd, (hk _ a2).trans hb.cell, ?_, ⟨_, _, r2, fun mem' br' hbr' => ?_⟩, hb.inn.keep (Nat.le_succ _) (hk _ (Ne.symm c1)) (hk _ (Ne.symm c2)) (hk _ (Ne.symm c3)), hb.wt.keep (Nat.le_succ _) (hk _ (Ne.symm c4))⟩, r3⟩
  · obtain ⟨cs, k1, k2, k3⟩ := hb.cast
    refine ⟨cs, (hk _ b1).trans k1, k2, fun j hj => ?_⟩
    rw [k3 j hj]
    simp [BA.doCast, h0]
  · unfold upd
    by_cases e : pairV mem' br' = pairV mem br
    · rw [if_pos e]
      obtain ⟨rfl, rfl⟩ := pairV_inj e
      simp [BA.doCast]
    · rw [if_neg e, g2 mem' br' hbr']
      have : (decide (mem = mem') && decide (br = br')) = false := by
        rw [Bool.and_eq_false_iff]; simp only [decide_eq_false_iff_not]
        by_cases e1 : mem = mem'
        · exact Or.inr fun e2 => e (by rw [e1, e2])
        · exact Or.inl e1
      simp only [BA.doCast, this, Bool.or_false]

def splice (cs : Array Value) (o : Nat) (vs : List Value) : Array Value := (cs.toList.take o ++ vs ++ cs.toList.drop (o + vs.length)).toArray
theorem splice_size (cs : Array Value) (o : Nat) (vs : List Value) (h : o + vs.length ≤ cs.size) : (splice cs o vs).size = cs.size := by
  simp [splice]; omega
theorem splice_in (cs : Array Value) (o i : Nat) (vs : List Value) (h : o + vs.length ≤ cs.size) (hi : i < vs.length) : (splice cs o vs)[o + i]? = vs[i]? := by
  have e : (cs.toList.take o).length = o := by simp; omega
  simp only [splice, List.getElem?_toArray]
  rw [List.append_assoc, List.getElem?_append_right (by omega), e, List.getElem?_append_left (by omega)]
  congr 1; omega
theorem splice_out (cs : Array Value) (o k : Nat) (vs : List Value) (h : o + vs.length ≤ cs.size) (hk : k < o ∨ o + vs.length ≤ k) : (splice cs o vs)[k]? = cs[k]? := by
  have e : (cs.toList.take o).length = o := by simp; omega
  simp only [splice, List.getElem?_toArray]
  rcases hk with hk | hk
  · rw [List.append_assoc, List.getElem?_append_left (by omega), List.getElem?_take, if_pos hk]; simp
  · rw [List.getElem?_append_right (by simp; omega), List.getElem?_drop]
    simp only [List.length_append, e, Array.getElem?_toList]
    congr 1; omega

theorem doIn_other {X : BA} {mem j : Nat} {c c' : List Int} (h : ¬ (mem = j ∧ c = c')) : (X.doIn mem c).inn j c' = X.inn j c' := by
  have : (decide ((mem : Int) = (j : Int)) && decide (c = c')) = false := by
    rw [Bool.and_eq_false_iff]; simp only [decide_eq_false_iff_not]
    by_cases e1 : mem = j
    · exact Or.inr fun e2 => h ⟨e1, e2⟩
    · exact Or.inl (by omega)
  simp only [BA.doIn, this, Bool.or_false]
theorem doIn_same {X : BA} {mem : Nat} {c : List Int} : (X.doIn mem c).inn mem c = true := by simp [BA.doIn]

/-- 'b.first[member], b.in[member] = candidate, true'. -/
theorem Tal2.firstSet (h : Tal2 H m tb mb qb n B A ex w) (hB : B att = some b) {fi : Nat → List Int} {ii : Nat → Bool} {f : Value → Option Value} {cnt : Nat} {fs is : Array Value} (hfs : fs.size = m * 32) (hfi : ∀ j, j < m → Cv (fi j) ∧ ∀ (i : Nat) (v : Value), (cc (fi j))[i]? = some v → fs[j * 32 + i]? = some v)
    (his : is.size = m) (hii : ∀ j, j < m → is[j]? = some (.bool (ii j))) (hM : MapV 79 b.x17 n f cnt w) (hs : InnSays m (A.of att) fi ii f) (mem : Nat) (hmem : mem < m) (c : List Int) (hc : Cv c) (hno : ii mem = false)
    (hsz : w.heap.size ≤ w'.heap.size) (k1 : w'.heap[b.x11]? = some (.cells (splice fs (mem * 32) (cc c)) 28)) (k2 : w'.heap[b.x16]? = some (.cells (is.setIfInBounds mem (.bool true)) 4)) (hk : ∀ k, k ≠ b.x11 → k ≠ b.x16 → w'.heap[k]? = w.heap[k]?) :
    Tal2 H m tb mb qb n B (A.put att ((A.of att).doIn mem c)) ex w' := by
  have hb := h.balls att b hB
  obtain ⟨a1, a2, a3, a4, a5, a6, b1, b2, b3, b4, b5, c1, c2, c3, c4, d1, d2, d3, e1, e2, f1⟩ := Blk.apart hb.nd
  have hl := cc_len hc
  have hroom : mem * 32 + (cc c).length ≤ fs.size := by omega
  refine h.touch (Nat.le_refl _) hB (x := fun k => k = b.x11 ∨ k = b.x16) (by rintro k (rfl | rfl) <;> simp [Blk.all]) hsz (fun k hx => hk k (fun e => hx (Or.inl e)) (fun e => hx (Or.inr e))) ⟨hb.ge, hb.nd, (hk _ a3 a4).trans hb.cell, hb.cast.keep (hk _ b2 b3), hb.forks.keep (Nat.le_refl _) (hk _ c1 c2), ?_, hb.wt.keep (Nat.le_refl _) (hk _ (Ne.symm d3) (Ne.symm e2))⟩
  refine ⟨fun j => if mem = j then c else fi j, fun j => if mem = j then true else ii j, f, cnt, ⟨_, k1, by rw [splice_size _ _ _ hroom, hfs], fun j hj => ?_⟩, ⟨_, k2, by simpa using his, fun j hj => ?_⟩, hM.keep (hk _ (Ne.symm d2) (Ne.symm e1)), fun j hj c' => ?_⟩
  · dsimp only
    by_cases e : mem = j
    · subst e
      rw [if_pos rfl]
      refine ⟨hc, fun i v hv => ?_⟩
      have hil := (List.getElem?_eq_some_iff.1 hv).1
      rw [splice_in _ _ _ _ hroom hil]; exact hv
    · rw [if_neg e]
      refine ⟨(hfi j hj).1, fun i v hv => ?_⟩
      have hil := (List.getElem?_eq_some_iff.1 hv).1
      rw [cc_len (hfi j hj).1] at hil
      rw [splice_out _ _ _ _ hroom (by omega)]
      exact (hfi j hj).2 i v hv
  · dsimp only
    by_cases e : mem = j
    · subst e
      rw [Array.getElem?_setIfInBounds_self_of_lt (by omega), if_pos rfl]
    · rw [Array.getElem?_setIfInBounds_ne e, hii j hj, if_neg e]
  · dsimp only
    obtain ⟨s1, s2, s3⟩ := hs j hj c'
    refine ⟨s1, ?_, ?_⟩
    · intro hfalse
      by_cases e : mem = j
      · simp [e] at hfalse
      · simp only [e, if_false] at hfalse
        rw [doIn_other (fun h => e h.1)]
        exact s2 hfalse
    · intro htrue
      by_cases e : mem = j
      · subst e
        have := s2 hno
        rw [this.2]
        simp only [if_true, Option.isSome_none, Bool.or_false]
        by_cases ec : c = c'
        · subst ec; rw [doIn_same]; simp
        · rw [doIn_other (fun h => ec h.2), this.1]; simp [ec]
      · simp only [e, if_false] at htrue ⊢
        rw [doIn_other (fun h => e h.1)]
        exact s3 htrue

/-- 'b.picked[p] = true'. -/
theorem Tal2.pickedSet (h : Tal2 H m tb mb qb n B A ex w) (hB : B att = some b) (hn : n < maxLen) {fi : Nat → List Int} {ii : Nat → Bool} {f : Value → Option Value} {cnt : Nat} (hF : FirstR m fi w b.x11) (hI : FlagR m ii w b.x16) (hM : MapV 79 b.x17 n f cnt w) (hs : InnSays m (A.of att) fi ii f) (mem : Nat) (hmem : mem < m) (hm : m ≤ 4096) (c : List Int) (hc : Cv c) (hyes : ii mem = true) :
    ∃ w', (Instr.mapUpdate 70 (.map (some b.x17)) (pickV mem c) (.bool true)).run Try.prog w = .ok () w' ∧ Tal2 H m tb mb qb (n + 1) B (A.put att ((A.of att).doIn mem c)) ex w' ∧ w.mapTurned w' b.x17 := by
  have hb := h.balls att b hB
  obtain ⟨a1, a2, a3, a4, a5, a6, b1, b2, b3, b4, b5, c1, c2, c3, c4, d1, d2, d3, e1, e2, f1⟩ := Blk.apart hb.nd
  obtain ⟨l, hl⟩ := key79 (m := (mem : Int)) (WalkArith.wf_i64 (by omega)) hc
  obtain ⟨w', r1, r2, r3⟩ := hM.store keyed79 Try.underlying70 hn hl (.bool true)
  have hk := turned_block r3
  refine ⟨w', r1, h.touch (Nat.le_succ _) hB (x := fun k => k = b.x17) (by rintro k rfl; simp [Blk.all]) (turned_size r3) hk ⟨hb.ge, hb.nd, (hk _ a5).trans hb.cell, hb.cast.keep (hk _ b4), hb.forks.keep (Nat.le_succ _) (hk _ c3), ⟨fi, ii, _, _, hF.keep (hk _ d2), hI.keep (hk _ e1), r2, fun j hj c' => ?_⟩, hb.wt.keep (Nat.le_succ _) (hk _ (Ne.symm f1))⟩, r3⟩
  obtain ⟨s1, s2, s3⟩ := hs j hj c'
  by_cases e : pickV j c' = pickV mem c
  · obtain ⟨ej, rfl⟩ := pickV_inj e
    have ej' : mem = j := by omega
    subst ej'
    have hu : upd f (pickV mem c') (.bool true) (pickV mem c') = some (.bool true) := by simp [upd]
    rw [hu]
    refine ⟨Or.inr rfl, fun hfalse => ?_, fun _ => ?_⟩
    · rw [hyes] at hfalse; cases hfalse
    · rw [doIn_same]; simp
  · have hu : upd f (pickV mem c) (.bool true) (pickV j c') = f (pickV j c') := by simp [upd, e]
    rw [hu, doIn_other (fun h => e (by rw [h.1, h.2]))]
    exact ⟨s1, s2, s3⟩

/-- 'b.weight[candidate] += weight'. -/
theorem Tal2.wtSet (h : Tal2 H m tb mb qb n B A ex w) (hB : B att = some b) (hn : n < maxLen) (c : List Int) (hc : Cv c) (v : Int) :
    ∃ (st : Nat) (w1 w3 : World), (Instr.lookup 71 (.map (some b.x18)) (candV c) false).run Try.prog w = .ok (.int .i64 (((A.of att).wt c).getD 0)) w ∧ (Instr.lookup 71 (.map (some b.x18)) (candV c) false).run Try.prog w1 = .ok (.int .i64 (((A.of att).wt c).getD 0)) w1 ∧ (Instr.mapEntry 71 (.map (some b.x18)) (candV c)).run Try.prog w = .ok (.tuple #[.int .i64 (((A.of att).wt c).getD 0), goInt st]) w1 ∧
      (Instr.entryStore 71 (.map (some b.x18)) (goInt st) (.int .i64 (((A.of att).wt c).getD 0 + v))).run Try.prog w1 = .ok () w3 ∧ Tal2 H m tb mb qb (n + 1) B (A.put att ((A.of att).doWt c v)) ex w3 ∧ w.mapTurned w1 b.x18 ∧ w1.mapTurned w3 b.x18 := by
  have hb := h.balls att b hB
  obtain ⟨a1, a2, a3, a4, a5, a6, b1, b2, b3, b4, b5, c1, c2, c3, c4, d1, d2, d3, e1, e2, f1⟩ := Blk.apart hb.nd
  obtain ⟨f, g1, g2⟩ := hb.wt
  obtain ⟨l, hl⟩ := key28 hc
  have hz : ∀ u : World, (zeroValue 2).run Try.prog u = .ok (.int .i64 0) u := fun u => by kernel_rfl
  obtain ⟨st, w1, r1, r2, r3, r4⟩ := g1.entry law28 Try.underlying71 hn hz hl
  obtain ⟨w3, t1, t2, t3⟩ := r4 w1 (.int .i64 (((A.of att).wt c).getD 0 + v)) rfl
  have hv : (f (candV c)).getD (.int .i64 0) = .int .i64 (((A.of att).wt c).getD 0) := by rw [g2 c]; cases (A.of att).wt c <;> rfl
  have l0 := g1.look keyed28 Try.underlying71 (hz w) hl
  have l1 := r2.look keyed28 Try.underlying71 (hz w1) hl
  have hu : upd f (candV c) ((f (candV c)).getD (.int .i64 0)) (candV c) = some ((f (candV c)).getD (.int .i64 0)) := by simp [upd]
  rw [hu, Option.getD_some, hv] at l1
  rw [hv] at l0 r1
  have hk : ∀ k, k ≠ b.x18 → w3.heap[k]? = w.heap[k]? := fun k hk => (turned_block t3 k hk).trans (turned_block r3 k hk)
  refine ⟨st, w1, w3, l0, l1, r1, t1, h.touch (Nat.le_succ _) hB (x := fun k => k = b.x18) (by rintro k rfl; simp [Blk.all]) (Nat.le_trans (turned_size r3) (turned_size t3)) hk ⟨hb.ge, hb.nd, (hk _ a6).trans hb.cell, hb.cast.keep (hk _ b5), hb.forks.keep (Nat.le_succ _) (hk _ c4), hb.inn.keep (Nat.le_succ _) (hk _ d3) (hk _ e2) (hk _ f1), ⟨upd f (candV c) (.int .i64 (((A.of att).wt c).getD 0 + v)), ?_, fun c' => ?_⟩⟩, r3, t3⟩
  · have : ((A.of att).doWt c v).kinds = if (f (candV c)).isSome then (A.of att).kinds else (A.of att).kinds + 1 := by
      rw [g2 c]
      simp [BA.doWt]
    rw [this]; exact t2
  · unfold upd
    by_cases e : candV c' = candV c
    · rw [if_pos e]
      obtain rfl := candV_inj e
      simp [BA.doWt, BA.sum]
    · rw [if_neg e, g2 c']
      have : ¬ c = c' := fun e2 => e (by rw [e2])
      simp [BA.doWt, this]

/-- 't.quorum[attempt] = candidate'. -/
theorem Tal2.qSet (h : Tal2 H m tb mb qb n B A ex w) (hn : n < maxLen) (att : Int) (hatt : (Lit.int .i64 att).wf = true) (c : List Int) (hc : Cv c) :
    ∃ w', (Instr.mapUpdate 54 (.map (some qb)) (.int .i64 att) (candV c)).run Try.prog w = .ok () w' ∧ Tal2 H m tb mb qb (n + 1) B (A.setQ att c) ex w' ∧ w.mapTurned w' qb := by
  obtain ⟨f, cnt, g1, g2⟩ := h.quorum
  have hl : keyOf Try.prog 2 (.int .i64 att) = some (.int .i64 att) := Maps.keyOf_int_mk Try.underlying2 hatt
  obtain ⟨w', r1, r2, r3⟩ := g1.store keyed2 Try.underlying54 hn hl (candV c)
  refine ⟨w', r1, h.touchQ (Nat.le_succ _) (turned_size r3) (turned_block r3) hc ⟨_, _, r2, fun a => ?_⟩, r3⟩
  unfold upd
  by_cases e : Value.int .i64 a = Value.int .i64 att
  · rw [if_pos e]
    have : a = att := by simpa using e
    subst this
    simp [ASt.setQ]
  · rw [if_neg e, g2 a]
    have : ¬ att = a := fun e2 => e (by rw [e2])
    simp [ASt.setQ, this]
end
end Go.Proofs.Qxb6603231a
