import Derived.Test.Qxb6603231aInWays
import Derived.Maps.Views
namespace Go.Proofs.Qxb6603231a
open Go Go.RowKit

/-! ### The world of a tally: blocks, by what lies in them -/
theorem cell_of {w : World} {b i : Nat} {cs : Array Value} {e : TypeId} {fr : Nat × Nat} (h : w.heap[b]? = some (.cells cs e fr)) : w.cell? ⟨b, i, none⟩ = cs[i]? := by simp [World.cell?, h]
theorem frozen_of {w : World} {b i : Nat} {cs : Array Value} {e : TypeId} (h : w.heap[b]? = some (.cells cs e)) : w.frozen? ⟨b, i, none⟩ = false := by simp [World.frozen?, h]
theorem heap_set {w : World} {b i : Nat} {cs : Array Value} {e : TypeId} {fr : Nat × Nat} (h : w.heap[b]? = some (.cells cs e fr)) (u : Value) : (w.setCell ⟨b, i, none⟩ u).heap[b]? = some (.cells (cs.setIfInBounds i u) e fr) := by
  have hb := (Array.getElem?_eq_some_iff.1 h)
  obtain ⟨hb, h'⟩ := hb
  simp [World.setCell, Array.getElem?_modify, h]
theorem heap_set_other {w : World} {b i k : Nat} (u : Value) (h : k ≠ b) : (w.setCell ⟨b, i, none⟩ u).heap[k]? = w.heap[k]? := Below.heap_setCell _ _ _ _ h
theorem lt_of_heap {w : World} {b : Nat} {o : Obj} (h : w.heap[b]? = some o) : b < w.heap.size := (Array.getElem?_eq_some_iff.1 h).1

/-- What an attempt's ballots are at. -/
def look (L : List (Int × Nat)) (att : Int) : Option Nat := (L.find? fun p => p.1 == att).map (·.2)
def lookI (L : List (Int × Nat)) (att : Int) : Int := match look L att with
  | some z => (z : Int)
  | none => -1
theorem look_nil (att : Int) : look [] att = none := rfl
theorem look_mem {L : List (Int × Nat)} {att : Int} {z : Nat} (h : look L att = some z) : (att, z) ∈ L := by
  unfold look at h
  cases hf : L.find? (fun p => p.1 == att) with
  | none => rw [hf] at h; cases h
  | some p =>
    rw [hf] at h
    have h1 := List.find?_some hf
    have h2 := List.mem_of_find?_eq_some hf
    simp at h h1
    obtain ⟨p1, p2⟩ := p
    simp at h h1
    subst h h1
    exact h2
theorem look_none {L : List (Int × Nat)} {att : Int} (h : look L att = none) : ∀ p ∈ L, p.1 ≠ att := by
  unfold look at h
  cases hf : L.find? (fun p => p.1 == att) with
  | some p => rw [hf] at h; cases h
  | none =>
    intro p hp
    have := List.find?_eq_none.1 hf p hp
    simpa using this
theorem look_of_mem {L : List (Int × Nat)} (hnd : (L.map (·.1)).Nodup) {p : Int × Nat} (hp : p ∈ L) : look L p.1 = some p.2 := by
  induction L with
  | nil => cases hp
  | cons q r ih =>
    rw [List.map_cons, List.nodup_cons] at hnd
    rcases List.mem_cons.1 hp with rfl | hp
    · simp [look]
    · have hne : q.1 ≠ p.1 := fun e => hnd.1 (e ▸ List.mem_map_of_mem hp)
      have := ih hnd.2 hp
      unfold look at *
      rw [List.find?_cons_of_neg (by simpa using hne)]
      exact this
theorem look_snoc (L : List (Int × Nat)) (a : Int) (z : Nat) (h : look L a = none) (att : Int) : look (L ++ [(a, z)]) att = if att = a then some z else look L att := by
  by_cases e : att = a
  · subst e
    have : L.find? (fun p => p.1 == att) = none := by
      unfold look at h
      cases hf : L.find? (fun p => p.1 == att) with
      | none => rfl
      | some p => rw [hf] at h; cases h
    simp [look, List.find?_append, this]
  · rw [if_neg e]
    unfold look
    rw [List.find?_append]
    cases hf : L.find? (fun p => p.1 == att) with
    | some p => rfl
    | none => simp [Ne.symm e]

theorem Ball.mono {H H' m : Nat} {att : Int} {w : World} {z : Nat} (h : Ball H m att w z) (hH : H' ≤ H) : Ball H' m att w z := by
  obtain ⟨h0, x5, x6, x11, x16, x17, x18, h1, h2, h3⟩ := h
  exact ⟨Nat.le_trans hH h0, x5, x6, x11, x16, x17, x18, h1, ⟨h2.h5, h2.h6, h2.h11, h2.h16, h2.h17, h2.h18, fun x hx => Nat.le_trans hH (h2.ge x hx), h2.nd⟩, h3⟩
/-- The ballots stay while nothing at or above H turns. -/
theorem Ball.keep {H m : Nat} {att : Int} {w w' : World} {z : Nat} (h : Ball H m att w z) (hk : ∀ k, H ≤ k → k < w.heap.size → w'.heap[k]? = w.heap[k]?) : Ball H m att w' z := by
  obtain ⟨h0, x5, x6, x11, x16, x17, x18, h1, h2, h3⟩ := h
  have f : ∀ {x : Nat} {o : Obj}, H ≤ x → w.heap[x]? = some o → w'.heap[x]? = some o := fun hx ho => (hk _ hx (lt_of_heap ho)).trans ho
  exact ⟨h0, x5, x6, x11, x16, x17, x18, f h0 h1, ⟨f (h2.ge _ (by simp)) h2.h5, f (h2.ge _ (by simp)) h2.h6, f (h2.ge _ (by simp)) h2.h11, f (h2.ge _ (by simp)) h2.h16, f (h2.ge _ (by simp)) h2.h17, f (h2.ge _ (by simp)) h2.h18, h2.ge, h2.nd⟩, h3⟩
theorem Ball.att {H m : Nat} {att : Int} {w : World} {z : Nat} (h : Ball H m att w z) : w.cell? ⟨z, 0, none⟩ = some (.int .i64 att) := by
  obtain ⟨_, x5, x6, x11, x16, x17, x18, h1, _⟩ := h
  rw [cell_of h1]; rfl
theorem Ball.lt {H m : Nat} {att : Int} {w : World} {z : Nat} (h : Ball H m att w z) : z < w.heap.size := by
  obtain ⟨_, x5, x6, x11, x16, x17, x18, h1, _⟩ := h
  exact lt_of_heap h1

/-- Nothing but the tally's block and its map has turned. -/
structure Kept (tb mb : Nat) (w w' : World) : Prop where
  os : w'.os = w.os
  tape : w'.tape = w.tape
  output : w'.output = w.output
  size : w.heap.size ≤ w'.heap.size
  block : ∀ k, k < w.heap.size → k ≠ tb → k ≠ mb → w'.heap[k]? = w.heap[k]?
theorem Kept.refl (tb mb : Nat) (w : World) : Kept tb mb w w := ⟨rfl, rfl, rfl, Nat.le_refl _, fun _ _ _ _ => rfl⟩

/-- The tally at tb, its map at mb; its ballots, all at or above H. -/
structure Tal (H m tb mb n : Nat) (L : List (Int × Nat)) (w : World) : Prop where
  htb : tb < H
  hmb : mb < H
  hne : tb ≠ mb
  hH : H ≤ w.heap.size
  cells : ∃ lv qb, w.heap[tb]? = some (.cells #[.int .i64 (m : Int), .map (some mb), lv, .map (some qb)] 66) ∧ (lv = .pointer none ∨ ∃ p ∈ L, lv = .pointer (some ⟨p.2, 0, none⟩))
  map : ∃ D, w.ownsMap Try.prog 2 ptrElem mb n D ∧ ∀ att : Int, D.atKey (.int .i64 att) (.lit (.int .i64 (-1))) = .lit (.int .i64 (lookI L att))
  balls : ∀ p ∈ L, Ball H m p.1 w p.2
  nd : (L.map (·.1)).Nodup

theorem Tal.keep {H m tb mb n : Nat} {L : List (Int × Nat)} {w w' : World} (h : Tal H m tb mb n L w) (hs : w.heap.size ≤ w'.heap.size) (hk : ∀ k, k = tb ∨ k = mb ∨ (H ≤ k ∧ k < w.heap.size) → w'.heap[k]? = w.heap[k]?) : Tal H m tb mb n L w' := by
  refine ⟨h.htb, h.hmb, h.hne, Nat.le_trans h.hH hs, ?_, ?_, ?_, h.nd⟩
  · obtain ⟨lv, qb, hc, hl⟩ := h.cells
    exact ⟨lv, qb, (hk tb (Or.inl rfl)).trans hc, hl⟩
  · obtain ⟨D, ⟨es, clock, hb, r⟩, hD⟩ := h.map
    exact ⟨D, ⟨es, clock, (hk mb (Or.inr (Or.inl rfl))).trans hb, r⟩, hD⟩
  · intro p hp
    exact (h.balls p hp).keep fun k h1 h2 => hk k (Or.inr (Or.inr ⟨h1, h2⟩))
theorem Tal.alloc {H m tb mb n : Nat} {L : List (Int × Nat)} {w : World} (h : Tal H m tb mb n L w) (o : Obj) : Tal H m tb mb n L (w.alloc o) := by
  refine h.keep (by simp) fun k hk => Below.heap_alloc _ _ _ ?_
  have h1 := h.htb; have h2 := h.hmb; have h3 := h.hH
  omega
theorem Tal.drew {H m tb mb n : Nat} {L : List (Int × Nat)} {w : World} (h : Tal H m tb mb n L w) : Tal H m tb mb n L w.drew := h.keep (Nat.le_refl _) fun _ _ => rfl
theorem Tal.setCell {H m tb mb n : Nat} {L : List (Int × Nat)} {w : World} (h : Tal H m tb mb n L w) {p : Addr} (h1 : p.block < H) (h2 : p.block ≠ tb) (h3 : p.block ≠ mb) (u : Value) : Tal H m tb mb n L (w.setCell p u) := by
  refine h.keep (by simp [World.setCell]) fun k hk => Below.heap_setCell _ _ _ _ ?_
  omega

/-- 'last' set to some of the ballots. -/
theorem Tal.setLast {H m tb mb n : Nat} {L : List (Int × Nat)} {w : World} (h : Tal H m tb mb n L w) {p : Int × Nat} (hp : p ∈ L) : Tal H m tb mb n L (w.setCell ⟨tb, 2, none⟩ (.pointer (some ⟨p.2, 0, none⟩))) := by
  refine ⟨h.htb, h.hmb, h.hne, by simpa [World.setCell] using h.hH, ?_, ?_, ?_, h.nd⟩
  · obtain ⟨lv, qb, hc, hl⟩ := h.cells
    exact ⟨_, qb, heap_set hc _, Or.inr ⟨p, hp, rfl⟩⟩
  · obtain ⟨D, hown, hD⟩ := h.map
    exact ⟨D, hown.setCell (Ne.symm h.hne) _, hD⟩
  · intro q hq
    refine (h.balls q hq).keep fun k h1 _ => heap_set_other _ ?_
    have := h.htb; omega

theorem kept_setLast {tb mb : Nat} {w : World} (u : Value) : Kept tb mb w (w.setCell ⟨tb, 2, none⟩ u) :=
  ⟨rfl, rfl, rfl, by simp [World.setCell], fun _ _ h _ => heap_set_other _ h⟩

/-- 'in' (function 31). -/
theorem in_any {H m tb mb n : Nat} {L : List (Int × Nat)} {w : World} (h : Tal H m tb mb n L w) (hm : m ≤ 4096) (hn : n < maxLen) (att : Int) (hatt : (Lit.int .i64 att).wf = true) (made : Bool) :
    Calls Try.prog 31 #[.pointer (some ⟨tb, 0, none⟩), .int .i64 att, .bool made] w fun e w' => Kept tb mb w w' ∧
      ((∃ z, look L att = some z ∧ e = .returned (.pointer (some ⟨z, 0, none⟩)) ∧ Tal H m tb mb n L w') ∨ (look L att = none ∧ made = false ∧ e = .returned (.pointer none) ∧ Tal H m tb mb n L w') ∨
        (look L att = none ∧ made = true ∧ ∃ z, e = .returned (.pointer (some ⟨z, 0, none⟩)) ∧ w.heap.size ≤ z ∧ Tal H m tb mb (n + 1) (L ++ [(att, z)]) w')) := by
  obtain ⟨lv, qb, hc, hl⟩ := h.cells
  obtain ⟨D, hown, hD⟩ := h.map
  have c0 : w.cell? ⟨tb, 0, none⟩ = some (.int .i64 (m : Int)) := by rw [cell_of hc]; rfl
  have c1 : w.cell? ⟨tb, 1, none⟩ = some (.map (some mb)) := by rw [cell_of hc]; rfl
  have c2 : w.cell? ⟨tb, 2, none⟩ = some lv := by rw [cell_of hc]; rfl
  have f2 : w.frozen? ⟨tb, 2, none⟩ = false := frozen_of hc
  have hat := hD att
  have hmiss : (∃ p ∈ L, p.1 = att ∧ lv = .pointer (some ⟨p.2, 0, none⟩)) ∨ LastMiss w tb att := by
    rcases hl with rfl | ⟨p, hp, rfl⟩
    · exact Or.inr (Or.inl c2)
    · by_cases e : p.1 = att
      · exact Or.inl ⟨p, hp, e, rfl⟩
      · exact Or.inr (Or.inr ⟨p.2, p.1, c2, (h.balls p hp).att, e⟩)
  rcases hmiss with ⟨p, hp, rfl, rfl⟩ | hmiss
  · refine (in_hit tb p.2 p.1 made w c2 (h.balls p hp).att).mono ?_
    rintro e w' ⟨rfl, rfl⟩
    exact ⟨Kept.refl _ _ _, Or.inl ⟨p.2, look_of_mem h.nd hp, rfl, h⟩⟩
  · unfold lookI at hat
    cases hlk : look L att with
    | some z =>
      rw [hlk] at hat
      refine (in_found tb mb n z att made hatt w D c1 hmiss f2 hown hat).mono ?_
      rintro e w' ⟨rfl, rfl⟩
      exact ⟨kept_setLast _, Or.inl ⟨z, rfl, rfl, h.setLast (look_mem hlk)⟩⟩
    | none =>
      rw [hlk] at hat
      cases made with
      | false =>
        refine (in_none tb mb n att hatt w D c1 hmiss hown hat).mono ?_
        rintro e w' ⟨rfl, rfl⟩
        exact ⟨Kept.refl _ _ _, Or.inr (Or.inl ⟨rfl, rfl, rfl, h⟩)⟩
      | true =>
        have htb : tb < w.heap.size := Nat.lt_of_lt_of_le h.htb h.hH
        refine (in_make tb mb m n hm att hatt w D htb h.hne c0 c1 hmiss f2 hown hn hat).mono ?_
        rintro e w' ⟨z, w1, w2, rfl, hbl, hsz, hball, hown2, hturn, rfl⟩
        have hg := hturn.grown
        have hs2 : w.heap.size ≤ w2.heap.size := Nat.le_trans hsz hg.size
        have hb2 : ∀ k, k < w1.heap.size → k ≠ mb → w2.heap[k]? = w1.heap[k]? := fun k hk hne => hg.block k hk (fun e => hne (Option.some.inj e))
        have hw2 : ∀ k, k < w.heap.size → k ≠ mb → w2.heap[k]? = w.heap[k]? := fun k hk hne => (hb2 k (by omega) hne).trans (hbl.block k hk)
        have hH := h.hH
        have hmbH := h.hmb
        have htbH := h.htb
        have hT : Tal H m tb mb (n + 1) (L ++ [(att, z)]) w2 := by
          refine ⟨h.htb, h.hmb, h.hne, by omega, ?_, ?_, ?_, ?_⟩
          · refine ⟨lv, qb, (hw2 tb htb h.hne).trans hc, ?_⟩
            rcases hl with e | ⟨p, hp, e⟩
            · exact Or.inl e
            · exact Or.inr ⟨p, by simp [hp], e⟩
          · refine ⟨_, hown2, fun a => ?_⟩
            unfold lookI
            rw [look_snoc L att z hlk a]
            by_cases ea : a = att
            · subst ea
              rw [Maps.atKey_put_same hown.isMap (show WideAt.IsKeyLit (.int .i64 a) from trivial), if_pos rfl]
            · rw [Maps.atKey_put_other (by simpa using ea), if_neg ea, hD a]; rfl
          · intro p hp
            rcases List.mem_append.1 hp with hp | hp
            · refine (h.balls p hp).keep fun k h1 h2 => hw2 k h2 ?_
              omega
            · rw [List.mem_singleton] at hp
              subst hp
              refine (hball.mono hH).keep fun k h1 h2 => hb2 k h2 ?_
              omega
          · rw [List.map_append, List.nodup_append]
            refine ⟨h.nd, by simp, ?_⟩
            intro x hx y hy
            rw [List.map_cons, List.map_nil, List.mem_singleton] at hy
            subst hy
            obtain ⟨p, hp, rfl⟩ := List.mem_map.1 hx
            exact look_none hlk p hp
        refine ⟨⟨?_, ?_, ?_, ?_, ?_⟩, Or.inr (Or.inr ⟨rfl, rfl, z, rfl, hball.1, ?_⟩)⟩
        · exact hg.os.trans hbl.os
        · exact hg.tape.trans hbl.tape
        · exact hg.output.trans hbl.output
        · simpa [World.setCell] using hs2
        · intro k hk h1 h2
          rw [heap_set_other _ h1]; exact hw2 k hk h2
        · exact hT.setLast (p := (att, z)) (by simp)
end Go.Proofs.Qxb6603231a
