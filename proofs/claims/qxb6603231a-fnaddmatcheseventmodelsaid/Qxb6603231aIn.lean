import Derived.Test.Qxb6603231aInvs
namespace Go.Proofs.Qxb6603231a
open Go Go.RowKit

/-- What the region's cut says of slot 7 and the world. -/
def Made (m : Nat) (att : Int) (w : World) (t7 : Value) (wx : World) : Prop := ∃ z, t7 = .pointer (some ⟨z, 0, none⟩) ∧ Below w.heap.size w wx ∧ w.heap.size ≤ wx.heap.size ∧ Ball w.heap.size m att wx z

theorem wp_region_inv2 {P : Program} {ops : Array Oper} {Q : Exit → Act → World → Prop} {id : Nat} {a : Act} {w : World} (n : Nat) (hm : P.follows .mixedOrders = true) (hn : ops.size = n) (hac : ∀ (i : Nat) (o : Oper), ops[i]? = some o → ∀ e ∈ o.after, e.on < i) (Inv : Act → Array Bool → Act → World → Prop)
    (h0 : Inv a (Array.replicate n false) a w.drew) (hQ : ∀ (listed : Array Bool) (a' : Act) (w : World), (∀ i : Nat, listed.getD i true = true) → Inv a listed a' w → Q .normal a' w)
    (hstep : ∀ (listed : Array Bool) (a' : Act) (w : World) (i : Nat) (o : Oper), listed.size = n → ops[i]? = some o → listed.getD i true = false → (∀ e ∈ o.after, Region.binds .any e = true → listed.getD e.on false = true) → Inv a listed a' w →
      wpOp P ops Q i (fun a' w' => Inv a (listed.setIfInBounds i true) a' w') a' w) : (Code.region id ops true).wp P Q a w :=
  wp_region_inv n hm hn hac (Inv a) h0 hQ hstep

/-- How a pointer of the attempts' map reads. -/
def ptrElem : Value → Option (DataW Unit × List MemPlace)
  | .pointer none => some (.lit (.int .i64 (-1)), [])
  | .pointer (some ⟨z, 0, none⟩) => some (.lit (.int .i64 (z : Int)), [])
  | _ => none
theorem ptrElem_none {v : Value} {ps : List MemPlace} (h : ptrElem v = some (.lit (.int .i64 (-1)), ps)) : v = .pointer none := by
  unfold ptrElem at h
  split at h
  · rfl
  · simp at h
  · cases h
theorem ptrElem_some {v : Value} {z : Nat} {ps : List MemPlace} (h : ptrElem v = some (.lit (.int .i64 (z : Int)), ps)) : v = .pointer (some ⟨z, 0, none⟩) := by
  unfold ptrElem at h
  split at h
  · simp at h
  · simp only [Option.some.injEq, Prod.mk.injEq, DataW.lit.injEq, Lit.int.injEq, true_and] at h
    obtain ⟨h, _⟩ := h
    have := Int.ofNat.inj h
    subst this; rfl
  · cases h
/-- The attempt asked about last is another, or none. -/
def LastMiss (w : World) (tb : Nat) (att : Int) : Prop :=
  w.cell? ⟨tb, 2, none⟩ = some (.pointer none) ∨ ∃ zl al, w.cell? ⟨tb, 2, none⟩ = some (.pointer (some ⟨zl, 0, none⟩)) ∧ w.cell? ⟨zl, 0, none⟩ = some (.int .i64 al) ∧ al ≠ att
theorem keyed2 : Maps.Keyed Try.prog 2 := Maps.int_keyed Try.underlying2

theorem at_list (l : List Oper) (i : Nat) (o : Oper) (h : l.toArray[i]? = some o) : l[i]? = some o := by simpa using h
theorem step_at {ops : Array Oper} {Q : Exit → Act → World → Prop} {i : Nat} {o : Oper} {K : Act → World → Prop} {a : Act} {w w2 : World} {v : Value} (ho : ops[i]? = some o) (hg : o.guard = none) (hrun : (execOp a.eval o).run Try.prog w = .ok (.value v) w2) (hk : K (a.put o.dst v) w2) : wpOp Try.prog ops Q i K a w := by
  refine wpOp_step ho fun K' hK' => ?_
  rw [if_pos (by simp [Region.wanted, hg])]
  exact wp_value hrun (hK' _ _ hk)
theorem mk4 {ρ : Operand → Value} {w : World} {dst : Option Tmp} {ty : TypeId} {pos : String} {after : Array Edge} (x : Operand) (m : Nat) (hm : m ≤ 4096) (h : ρ x = .int .i64 (m : Int)) :
    (execOp ρ { dst, op := .makeSlice 34 x x, type := ty, pos, after, guard := none }).run Try.prog w = .ok (.value (.slice (some ⟨w.heap.size, 0, none⟩) m m)) (w.alloc (.cells (boolRow m) 4)) := by
  have hi := info4
  cases hq : Try.prog.info? 4 with
  | none => rw [hq] at hi; cases hi
  | some q =>
    rw [hq] at hi
    simp only [Option.map_some, Option.some.injEq, Prod.mk.injEq] at hi
    have := run_mkslice (ρ := ρ) (w := w) (dst := dst) (ty := ty) (pos := pos) (after := after) 34 4 x q (.bool false) m (by kernel_rfl) hq hi.1 h (by rw [hi.2.2]; omega) hm
    rw [hi.2.1] at this
    exact this
theorem mk28 {ρ : Operand → Value} {w : World} {dst : Option Tmp} {ty : TypeId} {pos : String} {after : Array Edge} (x : Operand) (m : Nat) (hm : m ≤ 4096) (h : ρ x = .int .i64 (m : Int)) :
    (execOp ρ { dst, op := .makeSlice 33 x x, type := ty, pos, after, guard := none }).run Try.prog w = .ok (.value (.slice (some ⟨w.heap.size, 0, none⟩) m m)) (w.alloc (.cells (candRow m) 28)) := by
  have hi := info28
  cases hq : Try.prog.info? 28 with
  | none => rw [hq] at hi; cases hi
  | some q =>
    rw [hq] at hi
    simp only [Option.map_some, Option.some.injEq, Prod.mk.injEq] at hi
    have := run_mkslice (ρ := ρ) (w := w) (dst := dst) (ty := ty) (pos := pos) (after := after) 33 28 x q zero28 m (by kernel_rfl) hq hi.1 h (by rw [hi.2.2]; omega) hm
    rw [hi.2.1] at this
    exact this
theorem ball_boxed {H m : Nat} {att : Int} {w : World} {x5 x6 x11 x16 x17 x18 : Nat} (hH : H ≤ w.heap.size) (hp : Parts H m w x5 x6 x11 x16 x17 x18) : Ball H m att (w.alloc (.cells (ballCells att m x5 x6 x11 x16 x17 x18) 73)) w.heap.size := by
  refine ⟨hH, x5, x6, x11, x16, x17, x18, (MapKept.heap_alloc w _).1, hp.alloc _, ?_⟩
  have f := fun {x : Nat} {o : Obj} (h : w.heap[x]? = some o) => (Array.getElem?_eq_some_iff.1 h).1
  have := f hp.h5; have := f hp.h6; have := f hp.h11; have := f hp.h16; have := f hp.h17; have := f hp.h18
  simp; omega

theorem in_make (tb mb m n : Nat) (hm : m ≤ 4096) (att : Int) (hatt : (Lit.int .i64 att).wf = true) (w : World) (D : DataW Unit) (htb : tb < w.heap.size) (hne : tb ≠ mb)
    (c0 : w.cell? ⟨tb, 0, none⟩ = some (.int .i64 (m : Int))) (c1 : w.cell? ⟨tb, 1, none⟩ = some (.map (some mb))) (c2 : LastMiss w tb att) (f2 : w.frozen? ⟨tb, 2, none⟩ = false)
    (hown : w.ownsMap Try.prog 2 ptrElem mb n D) (hn : n < maxLen) (hlk : D.atKey (.int .i64 att) (.lit (.int .i64 (-1))) = .lit (.int .i64 (-1))) :
    Calls Try.prog 31 #[.pointer (some ⟨tb, 0, none⟩), .int .i64 att, .bool true] w fun e w' => ∃ z w1 w2, e = .returned (.pointer (some ⟨z, 0, none⟩)) ∧ Below w.heap.size w w1 ∧ w.heap.size ≤ w1.heap.size ∧ Ball w.heap.size m att w1 z ∧
      w2.ownsMap Try.prog 2 ptrElem mb (n + 1) (D.put (.int .i64 att) (.lit (.int .i64 (z : Int)))) ∧ w1.mapTurned w2 mb ∧ w' = w2.setCell ⟨tb, 2, none⟩ (.pointer (some ⟨z, 0, none⟩)) := by
  have hkey : keyOf Try.prog 2 (.int .i64 att) = some (.int .i64 att) := Maps.keyOf_int_mk Try.underlying2 hatt
  have hz : (zeroValue 46).run Try.prog w = .ok (.pointer none) w := by kernel_rfl
  obtain ⟨v, ps, hrun, hv⟩ := hown.lookup keyed2 Try.underlying64 hz (zd := .lit (.int .i64 (-1))) (zp := []) rfl hkey
  rw [hlk] at hv
  obtain rfl := ptrElem_none hv
  clear hv hlk hz
  go_enter Try.func31, Try.ntmps31
  go_upto_region 1 with fail
  go_cut [23] (fun t wx => t = .bool false ∧ w = wx)
  case first =>
    rcases c2 with c2 | ⟨zl, al, c2, c3, hal⟩
    · go_wp2
      go_meet
      exact ⟨rfl, rfl⟩
    · go_wp2
      go_meet
      exact ⟨by simp [hal], rfl⟩
  case rest =>
  obtain ⟨rfl, rfl⟩ := hcut
  go_wp2
  go_cut [7] (fun t7 wx => Made m att w t7 wx)
  case first =>
    refine wp_region_inv2 22 (by kernel_rfl) rfl (after_of_check _ (by kernel_rfl)) (fun a0 => Inv tb m w.heap.size att a0 w) ?h0 ?hQ ?hstep
    case h0 =>
      refine ⟨rfl, rfl, Below.drew (Below.refl _ _), Nat.le_refl _, fun _ _ _ => rfl, ?_, ?_⟩
      · intro i hi hl; simp [hi] at hl
      · intro i j hi _ _ hl _
        have : i < 22 := by rcases hi with rfl | rfl | rfl | rfl | rfl | rfl <;> omega
        simp [this] at hl
    case hQ =>
      intro listed a w1 hall hI
      have hM : Made m att w (a.tmps.getD 7 undef) w1 := by
        obtain ⟨z, e, hz⟩ := hI.atEnd hall
        exact ⟨z, e, hI.below, hI.hsz, hz⟩
      have o0 := hI.other 0 (by omega) (by omega)
      have o1 := hI.other 1 (by omega) (by omega)
      have o2 := hI.other 2 (by omega) (by omega)
      have o3 := hI.other 3 (by omega) (by omega)
      have o4 := hI.other 4 (by omega) (by omega)
      have o5 := hI.other 5 (by omega) (by omega)
      have o6 := hI.other 6 (by omega) (by omega)
      obtain ⟨y0, y1, y2, y3, y4, y5, y6, y7, y8, y9, y10, y11, y12, y13, y14, y15, y16, y17, y18, y19, y20, y21, y22, y23, y24, y25, y26, y27, y28, y29, y30, y31, y32, y33, y34, y35, y36, y37, y38, y39, y40, y41, y42, y43, y44, y45, y46, y47, y48, y49, y50, y51, y52, y53, y54, y55, y56, y57, y58, y59, y60, y61, y62, y63, y64, y65, y66, y67, y68, y69, y70, y71, y72, e, e0, e1, e2, e3, e4, e5, e6, e7⟩ := frame73 a hI.size hI.defers
      rw [← e0] at o0; rw [← e1] at o1; rw [← e2] at o2; rw [← e3] at o3; rw [← e4] at o4; rw [← e5] at o5; rw [← e6] at o6; rw [← e7] at hM
      clear e0 e1 e2 e3 e4 e5 e6 e7 hI
      subst e
      change y0 = .pointer (some ⟨tb, 0, none⟩) at o0
      change y1 = .int .i64 att at o1
      change y2 = .bool true at o2
      change y3 = undef at o3
      change y4 = undef at o4
      change y5 = undef at o5
      change y6 = .pointer none at o6
      subst o0 o1 o2 o3 o4 o5 o6
      go_wp2
      go_meet
      exact hM
    case hstep =>
      intro listed a w1 i o hs ho hl hrd hI
      have hc1 : w1.cell? ⟨tb, 0, none⟩ = some (.int .i64 (m : Int)) := (hI.below.cell htb).trans c0
      have q0 : a.tmps.getD 0 undef = .pointer (some ⟨tb, 0, none⟩) := hI.other 0 (by omega) (by omega)
      have q1 : a.tmps.getD 1 undef = .int .i64 att := hI.other 1 (by omega) (by omega)
      have hi : i < 22 := (Array.getElem?_eq_some_iff.1 ho).1
      clear c0 c1 c2 f2 hown hrun
      rcases (show i = 0 ∨ i = 1 ∨ i = 2 ∨ i = 3 ∨ i = 4 ∨ i = 5 ∨ i = 6 ∨ i = 7 ∨ i = 8 ∨ i = 9 ∨ i = 10 ∨ i = 11 ∨ i = 12 ∨ i = 13 ∨ i = 14 ∨ i = 15 ∨ i = 16 ∨ i = 17 ∨ i = 18 ∨ i = 19 ∨ i = 20 ∨ i = 21 by clear hrd ho; omega) with rfl | rfl | rfl | rfl | rfl | rfl | rfl | rfl | rfl | rfl | rfl | rfl | rfl | rfl | rfl | rfl | rfl | rfl | rfl | rfl | rfl | rfl
      · obtain rfl := Option.some.inj (at_list _ _ _ ho)
        exact step_at ho rfl (run_moved _ _ q1) (hI.step 0 (by omega) hs hl rfl _ (Or.inl rfl) (rfl) (fun h => by simp [isMk] at h))
      · obtain rfl := Option.some.inj (at_list _ _ _ ho)
        exact step_at ho rfl (run_moved _ _ q0) (hI.step 1 (by omega) hs hl rfl _ (Or.inl rfl) (rfl) (fun h => by simp [isMk] at h))
      · obtain rfl := Option.some.inj (at_list _ _ _ ho)
        exact step_at ho rfl (run_nil _ _ (hI.ptr 1 (by omega) (hrd ⟨1, .data⟩ (by simp) rfl))) (hI.step 2 (by omega) hs hl rfl _ (Or.inl rfl) (rfl) (fun h => by simp [isMk] at h))
      · obtain rfl := Option.some.inj (at_list _ _ _ ho)
        exact step_at ho rfl (run_field66 _ tb 0 0 (by omega) (hI.ptr 2 (by omega) (hrd ⟨2, .data⟩ (by simp) rfl))) (hI.step 3 (by omega) hs hl rfl _ (Or.inl rfl) (rfl) (fun h => by simp [isMk] at h))
      · obtain rfl := Option.some.inj (at_list _ _ _ ho)
        exact step_at ho rfl (run_load3 _ _ (m : Int) (hI.ptr 3 (by omega) (hrd ⟨3, .data⟩ (by simp) rfl)) hc1) (hI.step 4 (by omega) hs hl rfl _ (Or.inl rfl) (rfl) (fun h => by simp [isMk] at h))
      · obtain rfl := Option.some.inj (at_list _ _ _ ho)
        exact step_at ho rfl (mk4 _ m hm (hI.num 4 (by omega) (hrd ⟨4, .data⟩ (by simp) rfl))) (hI.step 5 (by omega) hs hl rfl _ (Or.inr ⟨_, rfl⟩) (⟨w1.heap.size, rfl, hI.hsz, (MapKept.heap_alloc w1 _).1⟩) (fun _ => rfl))
      · obtain rfl := Option.some.inj (at_list _ _ _ ho)
        exact step_at ho rfl (run_mkmap 69) (hI.step 6 (by omega) hs hl rfl _ (Or.inr ⟨_, rfl⟩) (⟨w1.heap.size, rfl, hI.hsz, (MapKept.heap_alloc w1 _).1⟩) (fun _ => rfl))
      · obtain rfl := Option.some.inj (at_list _ _ _ ho)
        exact step_at ho rfl (run_moved _ _ q0) (hI.step 7 (by omega) hs hl rfl _ (Or.inl rfl) (rfl) (fun h => by simp [isMk] at h))
      · obtain rfl := Option.some.inj (at_list _ _ _ ho)
        exact step_at ho rfl (run_nil _ _ (hI.ptr 7 (by omega) (hrd ⟨7, .data⟩ (by simp) rfl))) (hI.step 8 (by omega) hs hl rfl _ (Or.inl rfl) (rfl) (fun h => by simp [isMk] at h))
      · obtain rfl := Option.some.inj (at_list _ _ _ ho)
        exact step_at ho rfl (run_field66 _ tb 0 0 (by omega) (hI.ptr 8 (by omega) (hrd ⟨8, .data⟩ (by simp) rfl))) (hI.step 9 (by omega) hs hl rfl _ (Or.inl rfl) (rfl) (fun h => by simp [isMk] at h))
      · obtain rfl := Option.some.inj (at_list _ _ _ ho)
        exact step_at ho rfl (run_load3 _ _ (m : Int) (hI.ptr 9 (by omega) (hrd ⟨9, .data⟩ (by simp) rfl)) hc1) (hI.step 10 (by omega) hs hl rfl _ (Or.inl rfl) (rfl) (fun h => by simp [isMk] at h))
      · obtain rfl := Option.some.inj (at_list _ _ _ ho)
        exact step_at ho rfl (mk28 _ m hm (hI.num 10 (by omega) (hrd ⟨10, .data⟩ (by simp) rfl))) (hI.step 11 (by omega) hs hl rfl _ (Or.inr ⟨_, rfl⟩) (⟨w1.heap.size, rfl, hI.hsz, (MapKept.heap_alloc w1 _).1⟩) (fun _ => rfl))
      · obtain rfl := Option.some.inj (at_list _ _ _ ho)
        exact step_at ho rfl (run_moved _ _ q0) (hI.step 12 (by omega) hs hl rfl _ (Or.inl rfl) (rfl) (fun h => by simp [isMk] at h))
      · obtain rfl := Option.some.inj (at_list _ _ _ ho)
        exact step_at ho rfl (run_nil _ _ (hI.ptr 12 (by omega) (hrd ⟨12, .data⟩ (by simp) rfl))) (hI.step 13 (by omega) hs hl rfl _ (Or.inl rfl) (rfl) (fun h => by simp [isMk] at h))
      · obtain rfl := Option.some.inj (at_list _ _ _ ho)
        exact step_at ho rfl (run_field66 _ tb 0 0 (by omega) (hI.ptr 13 (by omega) (hrd ⟨13, .data⟩ (by simp) rfl))) (hI.step 14 (by omega) hs hl rfl _ (Or.inl rfl) (rfl) (fun h => by simp [isMk] at h))
      · obtain rfl := Option.some.inj (at_list _ _ _ ho)
        exact step_at ho rfl (run_load3 _ _ (m : Int) (hI.ptr 14 (by omega) (hrd ⟨14, .data⟩ (by simp) rfl)) hc1) (hI.step 15 (by omega) hs hl rfl _ (Or.inl rfl) (rfl) (fun h => by simp [isMk] at h))
      · obtain rfl := Option.some.inj (at_list _ _ _ ho)
        exact step_at ho rfl (mk4 _ m hm (hI.num 15 (by omega) (hrd ⟨15, .data⟩ (by simp) rfl))) (hI.step 16 (by omega) hs hl rfl _ (Or.inr ⟨_, rfl⟩) (⟨w1.heap.size, rfl, hI.hsz, (MapKept.heap_alloc w1 _).1⟩) (fun _ => rfl))
      · obtain rfl := Option.some.inj (at_list _ _ _ ho)
        exact step_at ho rfl (run_mkmap 70) (hI.step 17 (by omega) hs hl rfl _ (Or.inr ⟨_, rfl⟩) (⟨w1.heap.size, rfl, hI.hsz, (MapKept.heap_alloc w1 _).1⟩) (fun _ => rfl))
      · obtain rfl := Option.some.inj (at_list _ _ _ ho)
        exact step_at ho rfl (run_mkmap 71) (hI.step 18 (by omega) hs hl rfl _ (Or.inr ⟨_, rfl⟩) (⟨w1.heap.size, rfl, hI.hsz, (MapKept.heap_alloc w1 _).1⟩) (fun _ => rfl))
      · obtain rfl := Option.some.inj (at_list _ _ _ ho)
        obtain ⟨x5, x6, x11, x16, x17, x18, e5, e6, e11, e16, e17, e18, hp⟩ := hI.parts (hrd ⟨5, .data⟩ (by simp) rfl) (hrd ⟨6, .data⟩ (by simp) rfl) (hrd ⟨11, .data⟩ (by simp) rfl) (hrd ⟨16, .data⟩ (by simp) rfl) (hrd ⟨17, .data⟩ (by simp) rfl) (hrd ⟨18, .data⟩ (by simp) rfl)
        exact step_at ho rfl (run_build73 att m x5 x6 x11 x16 x17 x18 (hI.theAtt (hrd ⟨0, .data⟩ (by simp) rfl)) e5 e6 e11 e16 e17 e18) (hI.step 19 (by omega) hs hl rfl _ (Or.inl rfl) (⟨x5, x6, x11, x16, x17, x18, rfl, hp⟩) (fun h => by simp [isMk] at h))
      · obtain rfl := Option.some.inj (at_list _ _ _ ho)
        obtain ⟨x5, x6, x11, x16, x17, x18, e, hp⟩ := hI.built (hrd ⟨19, .data⟩ (by simp) rfl)
        exact step_at ho rfl (run_box73 _ _ e) (hI.step 20 (by omega) hs hl rfl _ (Or.inr ⟨_, rfl⟩) (⟨w1.heap.size, rfl, ball_boxed hI.hsz hp⟩) (fun h => by simp [isMk] at h))
      · obtain rfl := Option.some.inj (at_list _ _ _ ho)
        obtain ⟨z, e, hz⟩ := hI.boxed 20 rfl (hrd ⟨20, .data⟩ (by simp) rfl)
        exact step_at ho rfl (run_assigned _ _ e) (hI.step 21 (by omega) hs hl rfl _ (Or.inl rfl) (⟨z, rfl, hz⟩) (fun h => by simp [isMk] at h))
  case rest =>
    obtain ⟨z, rfl, hbl, hsz, hball⟩ := hcut
    have hmb := hown.lt
    have c1' : wc.cell? ⟨tb, 1, none⟩ = some (.map (some mb)) := (hbl.cell htb).trans c1
    have hown' : wc.ownsMap Try.prog 2 ptrElem mb n D := by
      obtain ⟨es, clock, hb, r⟩ := hown
      exact ⟨es, clock, (hbl.block mb hmb).trans hb, r⟩
    have f2' : wc.frozen? ⟨tb, 2, none⟩ = false := (hbl.frozen htb).trans f2
    have c2' : ∃ v2, wc.cell? ⟨tb, 2, none⟩ = some v2 := by
      rcases c2 with c2 | ⟨zl, al, c2, _⟩
      · exact ⟨_, (hbl.cell htb).trans c2⟩
      · exact ⟨_, (hbl.cell htb).trans c2⟩
    obtain ⟨v2, c2'⟩ := c2'
    clear c0 c1 c2 f2 hown hrun
    go_wp2_with (first | (at_mapUpdate; refine wpList_mapUpdate_in _ rfl _ _ _ 64 rfl 2 46 keyed2 Try.underlying64 ptrElem mb n D rfl hown' hn _ _ (.int .i64 att) rfl rfl hkey (.lit (.int .i64 (z : Int))) [] rfl ?_) | go_in)
    intro w2 hown2 hturn
    have c2'' : w2.cell? ⟨tb, 2, none⟩ = some v2 := (World.cell?_of_block (w := wc) (hturn.grown.block tb (Nat.lt_of_lt_of_le htb hsz) (by intro e; exact hne (Option.some.inj e)))).trans c2'
    have f2'' : w2.frozen? ⟨tb, 2, none⟩ = false := (hturn.frozen _).trans f2'
    go_wp2
    go_ret
    exact ⟨z, wc, w2, rfl, hbl, hsz, hball, hown2, hturn, rfl⟩
end Go.Proofs.Qxb6603231a
