import Derived.WalkKit
namespace Go.Proofs.Qxb6603231a
open Go

/-! A REGION THAT DRAWS ITS ORDER, BY AN INVARIANT: what holds of the frame and the world once some of its operations have come up, in whatever order. -/
section
variable {P : Program} {ops : Array Oper} {Q : Exit → Act → World → Prop}

/-- How many have not come up. -/
def openCount (n : Nat) (listed : Array Bool) : Nat := ((List.range n).filter fun i => !listed.getD i true).length

theorem getD_setTrue (listed : Array Bool) (i j : Nat) (hi : i < listed.size) (d : Bool) : (listed.setIfInBounds i true).getD j d = if j = i then true else listed.getD j d := by
  by_cases h : j = i
  · subst h; simp [hi]
  · rw [if_neg h]; simp [Array.getD_eq_getD_getElem?, Ne.symm h]

theorem filter_fewer {α : Type} (l : List α) (p q : α → Bool) (hpq : ∀ x ∈ l, q x = true → p x = true) (x : α) (hx : x ∈ l) (h1 : p x = true) (h2 : q x = false) : (l.filter q).length < (l.filter p).length := by
  induction l with
  | nil => cases hx
  | cons y r ih =>
    have hr : ∀ z ∈ r, q z = true → p z = true := fun z hz => hpq z (List.mem_cons_of_mem _ hz)
    have hle : (r.filter q).length ≤ (r.filter p).length := by
      clear ih hx h1 h2 hpq
      induction r with
      | nil => simp
      | cons z r ih2 =>
        have := ih2 (fun u hu => hr u (List.mem_cons_of_mem _ hu))
        have hz := hr z (by simp)
        cases hq : q z
        · cases hp : p z <;> simp [hq, hp] <;> omega
        · simp [hq, hz hq]; omega
    rcases List.mem_cons.1 hx with rfl | hx
    · simp [h1, h2]; omega
    · have := ih hr hx
      have hy := hpq y (by simp)
      cases hq : q y
      · cases hp : p y <;> simp [hq, hp] <;> omega
      · simp [hq, hy hq]; omega

theorem openCount_set (n : Nat) (listed : Array Bool) (i : Nat) (hs : listed.size = n) (hi : i < n) (h : listed.getD i true = false) : openCount n (listed.setIfInBounds i true) < openCount n listed := by
  unfold openCount
  refine filter_fewer _ _ _ ?_ i (List.mem_range.2 hi) (by simpa using h) (by rw [getD_setTrue _ _ _ (by omega)]; simp)
  intro x _ hx
  rw [getD_setTrue _ _ _ (by omega)] at hx
  by_cases hxi : x = i
  · rw [if_pos hxi] at hx; cases hx
  · rw [if_neg hxi] at hx; exact hx

theorem openCount_zero (n : Nat) (listed : Array Bool) (hs : listed.size = n) (h : openCount n listed = 0) (i : Nat) : listed.getD i true = true := by
  by_cases hi : i < n
  · cases hc : listed.getD i true
    · have : i ∈ (List.range n).filter (fun i => !listed.getD i true) := List.mem_filter.2 ⟨List.mem_range.2 hi, by simpa using hc⟩
      have h' := List.length_pos_of_mem this
      unfold openCount at h; omega
    · rfl
  · have : listed.size ≤ i := by omega
    simp [Array.getD_eq_getD_getElem?, Array.getElem?_eq_none this]

theorem all_of_ready_nil (n : Nat) (hn : ops.size = n) (hac : ∀ (i : Nat) (o : Oper), ops[i]? = some o → ∀ e ∈ o.after, e.on < i) (listed : Array Bool) (hs : listed.size = n) (h : Region.ready .any ops listed = []) : ∀ i : Nat, listed.getD i true = true := by
  intro i
  induction i using Nat.strongRecOn with
  | _ i ih =>
    by_cases hi : i < n
    · cases hc : listed.getD i true
      · exfalso
        have ho : ops[i]? = some (ops[i]'(by omega)) := Array.getElem?_eq_getElem (by omega)
        have : i ∈ Region.ready .any ops listed := by
          refine mem_ready.2 ⟨hc, _, ho, fun e he _ => ?_⟩
          have hlt := hac i _ ho e he
          have := ih e.on hlt
          have hb : e.on < listed.size := by omega
          simpa [Array.getD_eq_getD_getElem?, Array.getElem?_eq_getElem hb] using this
        rw [h] at this; cases this
      · rfl
    · have : listed.size ≤ i := by omega
      simp [Array.getD_eq_getD_getElem?, Array.getElem?_eq_none this]

theorem wpAny_inv (n : Nat) (hn : ops.size = n) (hac : ∀ (i : Nat) (o : Oper), ops[i]? = some o → ∀ e ∈ o.after, e.on < i) (Inv : Array Bool → Act → World → Prop)
    (hQ : ∀ (listed : Array Bool) (a : Act) (w : World), (∀ i : Nat, listed.getD i true = true) → Inv listed a w → Q .normal a w)
    (hstep : ∀ (listed : Array Bool) (a : Act) (w : World) (i : Nat) (o : Oper), listed.size = n → ops[i]? = some o → listed.getD i true = false → (∀ e ∈ o.after, Region.binds .any e = true → listed.getD e.on false = true) → Inv listed a w →
      wpOp P ops Q i (fun a' w' => Inv (listed.setIfInBounds i true) a' w') a w) :
    ∀ (fuel : Nat) (listed : Array Bool) (a : Act) (w : World), listed.size = n → openCount n listed ≤ fuel → Inv listed a w → wpAny P .any ops Q fuel listed a w := by
  intro fuel
  induction fuel with
  | zero =>
    intro listed a w hs hc hI
    have hall := openCount_zero n listed hs (by omega)
    refine ⟨?_, hQ listed a w hall hI⟩
    cases hr : Region.ready .any ops listed with
    | nil => rfl
    | cons x xs =>
      have : x ∈ Region.ready .any ops listed := by rw [hr]; simp
      have h0 := (mem_ready.1 this).1
      rw [hall x] at h0; cases h0
  | succ fuel ih =>
    intro listed a w hs hc hI
    refine ⟨fun hr => hQ listed a w (all_of_ready_nil n hn hac listed hs hr) hI, fun i hi => ?_⟩
    obtain ⟨h0, o, ho, hall⟩ := mem_ready.1 hi
    have hin : i < n := by
      rw [← hn]; exact (Array.getElem?_eq_some_iff.1 ho).1
    refine wpOp_mono (fun a' w' h' => ih _ a' w' (by simpa using hs) ?_ h') (hstep listed a w i o hs ho h0 hall hI)
    have := openCount_set n listed i hs hin h0
    omega

/-- The region, by an invariant. -/
theorem wp_region_inv {id : Nat} {a : Act} {w : World} (n : Nat) (hm : P.follows .mixedOrders = true) (hn : ops.size = n) (hac : ∀ (i : Nat) (o : Oper), ops[i]? = some o → ∀ e ∈ o.after, e.on < i) (Inv : Array Bool → Act → World → Prop)
    (h0 : Inv (Array.replicate n false) a w.drew) (hQ : ∀ (listed : Array Bool) (a : Act) (w : World), (∀ i : Nat, listed.getD i true = true) → Inv listed a w → Q .normal a w)
    (hstep : ∀ (listed : Array Bool) (a : Act) (w : World) (i : Nat) (o : Oper), listed.size = n → ops[i]? = some o → listed.getD i true = false → (∀ e ∈ o.after, Region.binds .any e = true → listed.getD e.on false = true) → Inv listed a w →
      wpOp P ops Q i (fun a' w' => Inv (listed.setIfInBounds i true) a' w') a w) : (Code.region id ops true).wp P Q a w := by
  refine wp_region_any hm ?_
  rw [hn]
  refine wpAny_inv n hn hac Inv hQ hstep n _ a _ (by simp) ?_ h0
  unfold openCount
  exact Nat.le_trans (List.length_filter_le _ _) (by simp)
end
end Go.Proofs.Qxb6603231a
