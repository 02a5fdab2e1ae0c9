namespace Go.Proofs.Qxb6601015a.Num

def dig (c : UInt8) : Bool := decide (48 ≤ c.toNat) && decide (c.toNat ≤ 57)
def expo (c : UInt8) : Bool := c.toNat == 101 || c.toNat == 69
def sgn (c : UInt8) : Bool := c.toNat == 43 || c.toNat == 45

/-- How many digits stand at the head. -/
def run : List UInt8 → Nat
  | [] => 0
  | c :: r => if dig c then run r + 1 else 0

/-- The point and the digits behind it: how many bytes; 0 where no point stands. -/
def frac : List UInt8 → Nat
  | c :: r => if c.toNat == 46 then run r + 1 else 0
  | [] => 0

/-- How many sign bytes stand at the head: 0 or 1. -/
def sg : List UInt8 → Nat
  | c :: _ => if sgn c then 1 else 0
  | [] => 0

/-- The exponent: how many bytes; 0 where none stands. -/
def expn : List UInt8 → Nat
  | c :: r => if expo c && decide (0 < run (r.drop (sg r))) then 1 + sg r + run (r.drop (sg r)) else 0
  | [] => 0

def n1 (t : List UInt8) : Nat := run t
def n2 (t : List UInt8) : Nat := run t + frac (t.drop (run t))
def n3 (t : List UInt8) : Nat := n2 t + expn (t.drop (n2 t))
def dec (t : List UInt8) : Bool := decide (run t < n3 t)

theorem run_le (t : List UInt8) : run t ≤ t.length := by
  induction t with
  | nil => simp [run]
  | cons c r ih => simp only [run]; split <;> simp <;> omega

theorem run_take (t : List UInt8) : ∀ m, run (t.take m) = min m (run t) := by
  induction t with
  | nil => intro m; simp [run]
  | cons c r ih =>
    intro m
    cases m with
    | zero => simp [run]
    | succ m =>
      simp only [List.take_succ_cons, run]
      split
      · rw [ih]; omega
      · simp

theorem frac_le (t : List UInt8) : frac t ≤ t.length := by
  cases t with
  | nil => simp [frac]
  | cons c r => simp only [frac]; have := run_le r; split <;> simp <;> omega

theorem frac_take (t : List UInt8) (m : Nat) : frac (t.take m) = min m (frac t) := by
  cases t with
  | nil => simp [frac]
  | cons c r =>
    cases m with
    | zero => simp [frac]
    | succ m =>
      simp only [List.take_succ_cons, frac]
      split
      · rw [run_take]; omega
      · simp

theorem sg_le (t : List UInt8) : sg t ≤ t.length ∧ sg t ≤ 1 := by
  cases t with
  | nil => simp [sg]
  | cons c r => simp only [sg]; split <;> simp

theorem sg_take (t : List UInt8) (m : Nat) : sg (t.take m) = min m (sg t) := by
  cases t with
  | nil => simp [sg]
  | cons c r =>
    cases m with
    | zero => simp [sg]
    | succ m => simp only [List.take_succ_cons, sg]; split <;> omega

theorem expn_le (t : List UInt8) : expn t ≤ t.length := by
  cases t with
  | nil => simp [expn]
  | cons c r =>
    simp only [expn]
    have h1 := run_le (r.drop (sg r))
    have h2 := sg_le r
    simp only [List.length_drop] at h1
    split <;> simp <;> omega

/-- Cut off just behind the exponent it reads the same; cut off at its start it is none. -/
theorem expn_take (t : List UInt8) : expn (t.take (expn t)) = expn t := by
  cases t with
  | nil => simp [expn]
  | cons c r =>
    by_cases h : (expo c && decide (0 < run (r.drop (sg r)))) = true
    · have e : expn (c :: r) = (sg r + run (r.drop (sg r))) + 1 := by simp only [expn, h, if_true]; omega
      rw [e, List.take_succ_cons]
      have hs : sg (r.take (sg r + run (r.drop (sg r)))) = sg r := by rw [sg_take]; omega
      have hd : (r.take (sg r + run (r.drop (sg r)))).drop (sg r) = (r.drop (sg r)).take (run (r.drop (sg r))) := by
        rw [List.drop_take]; congr 1; omega
      have hr : run ((r.drop (sg r)).take (run (r.drop (sg r)))) = run (r.drop (sg r)) := by rw [run_take]; omega
      simp only [expn, hs, hd, hr, h, if_true]; omega
    · have e : expn (c :: r) = 0 := by simp only [expn]; rw [if_neg h]
      rw [e]; simp [expn]

theorem n2_le (t : List UInt8) : n2 t ≤ t.length := by
  have h1 := run_le t
  have h2 := frac_le (t.drop (run t))
  simp only [List.length_drop] at h2
  unfold n2; omega

theorem n3_le (t : List UInt8) : n3 t ≤ t.length := by
  have h1 := n2_le t
  have h2 := expn_le (t.drop (n2 t))
  simp only [List.length_drop] at h2
  unfold n3; omega

theorem n3_ge (t : List UInt8) : run t ≤ n2 t ∧ n2 t ≤ n3 t := by unfold n3 n2; omega

theorem rescan_run (t : List UInt8) : run (t.take (n3 t)) = run t := by
  rw [run_take]; have := n3_ge t; omega

theorem rescan_n2 (t : List UInt8) : n2 (t.take (n3 t)) = n2 t := by
  have h := n3_ge t
  have e : n2 t = run t + frac (t.drop (run t)) := rfl
  have : n2 (t.take (n3 t)) = run t + frac ((t.take (n3 t)).drop (run t)) := by rw [n2, rescan_run]
  rw [this, List.drop_take, frac_take]; omega

theorem rescan (t : List UInt8) : n3 (t.take (n3 t)) = n3 t := by
  have e : n3 t = n2 t + expn (t.drop (n2 t)) := rfl
  have : n3 (t.take (n3 t)) = n2 t + expn ((t.take (n3 t)).drop (n2 t)) := by rw [n3, rescan_n2]
  rw [this, List.drop_take, show n3 t - n2 t = expn (t.drop (n2 t)) by omega, expn_take]; omega

theorem rescan_dec (t : List UInt8) : dec (t.take (n3 t)) = dec t := by
  unfold dec; rw [rescan, rescan_run]


/-! What the text that is read holds -/
theorem run_all (l : List UInt8) : run l = l.length ↔ l.all dig = true := by
  induction l with
  | nil => simp [run]
  | cons c r ih =>
    simp only [run, List.length_cons, List.all_cons, Bool.and_eq_true]
    split
    · rename_i h; rw [← ih]; simp [h]
    · rename_i h; simp [h]

theorem all_iff (t : List UInt8) : (t.take (n3 t)).all dig = !dec t := by
  have h := run_all (t.take (n3 t))
  rw [rescan_run, List.length_take, Nat.min_eq_left (n3_le t)] at h
  have hg := n3_ge t
  rw [Bool.eq_iff_iff, ← h]
  unfold dec
  simp
  omega

/-- Where Next starts it: a digit, or a point before a digit. -/
def start : List UInt8 → Bool
  | c :: r => dig c || (c.toNat == 46 && (match r with | d :: _ => dig d | [] => false))
  | [] => false

theorem dig_dot (c : UInt8) (h : (c.toNat == 46) = true) : dig c = false := by
  simp only [beq_iff_eq] at h; unfold dig; rw [h]; rfl

theorem start_pos (t : List UInt8) (h : start t = true) : 1 ≤ n3 t ∧ (t.take (n3 t)).any dig = true := by
  cases t with
  | nil => simp [start] at h
  | cons c r =>
    have hg := n3_ge (c :: r)
    by_cases hc : dig c = true
    · have hr : run (c :: r) = run r + 1 := by simp [run, hc]
      obtain ⟨k, hk⟩ : ∃ k, n3 (c :: r) = k + 1 := ⟨n3 (c :: r) - 1, by omega⟩
      refine ⟨by omega, ?_⟩
      rw [hk, List.take_succ_cons, List.any_cons, hc]; rfl
    · have hc' : dig c = false := by simpa using hc
      cases r with
      | nil => simp [start, hc'] at h
      | cons d r =>
        simp only [start, hc', Bool.false_or, Bool.and_eq_true] at h
        obtain ⟨h1, h2⟩ := h
        have hr : run (c :: d :: r) = 0 := by simp [run, hc']
        have hn2 : n2 (c :: d :: r) = run r + 2 := by
          unfold n2; rw [hr]; simp [frac, h1, run, h2]
        obtain ⟨k, hk⟩ : ∃ k, n3 (c :: d :: r) = k + 2 := ⟨n3 (c :: d :: r) - 2, by omega⟩
        refine ⟨by omega, ?_⟩
        rw [hk, List.take_succ_cons, List.take_succ_cons, List.any_cons, List.any_cons, h2]; simp

/-! The automaton -/
/-- The next state; 8 where there is none. -/
def step (st : Nat) (c : UInt8) : Nat :=
  if st = 0 then (if dig c then 1 else if c.toNat == 46 then 2 else 8)
  else if st = 1 then (if dig c then 1 else if c.toNat == 46 then 3 else if expo c then 5 else 8)
  else if st = 2 then (if dig c then 4 else 8)
  else if st = 3 ∨ st = 4 then (if dig c then 4 else if expo c then 5 else 8)
  else if st = 5 then (if dig c then 7 else if sgn c then 6 else 8)
  else if st = 6 ∨ st = 7 then (if dig c then 7 else 8)
  else 8

/-- The end behind a byte that was taken, and the kind. -/
def upd (st i e : Nat) (d : Bool) : Nat × Bool :=
  if st = 1 then (i + 1, false) else if st = 3 ∨ st = 4 ∨ st = 7 then (i + 1, true) else (e, d)

def auto (st i e : Nat) (d : Bool) : List UInt8 → Nat × Bool
  | [] => (e, d)
  | c :: r => if step st c = 8 then (e, d) else auto (step st c) (i + 1) (upd (step st c) i e d).1 (upd (step st c) i e d).2 r

theorem auto7 (r : List UInt8) : ∀ i, auto 7 i i true r = (i + run r, true) := by
  induction r with
  | nil => intro i; simp [auto, run]
  | cons c r ih =>
    intro i
    cases h : dig c
    · simp [auto, step, run, h]
    · simp [auto, step, run, h, upd, ih]; omega

theorem auto6 (r : List UInt8) (i e : Nat) (d : Bool) : auto 6 i e d r = if 0 < run r then (i + run r, true) else (e, d) := by
  cases r with
  | nil => simp [auto, run]
  | cons c r =>
    cases h : dig c
    · simp [auto, step, run, h]
    · simp [auto, step, run, h, upd, auto7]; omega

theorem dig_sgn (c : UInt8) (h : dig c = true) : sgn c = false := by
  unfold dig at h; unfold sgn; simp at h ⊢; omega
theorem dig_expo (c : UInt8) (h : dig c = true) : expo c = false := by
  unfold dig at h; unfold expo; simp at h ⊢; omega
theorem dot_expo (c : UInt8) (h : (c.toNat == 46) = true) : expo c = false := by
  unfold expo; simp at h ⊢; omega
theorem dig_nodot (c : UInt8) (h : dig c = true) : (c.toNat == 46) = false := by
  unfold dig at h; simp at h ⊢; omega

theorem auto5 (r : List UInt8) (i e : Nat) (d : Bool) : auto 5 i e d r = if 0 < run (r.drop (sg r)) then (i + sg r + run (r.drop (sg r)), true) else (e, d) := by
  cases r with
  | nil => simp [auto, run, sg]
  | cons c r =>
    cases h : dig c
    · cases h2 : sgn c
      · simp [auto, step, run, h, h2, sg]
      · simp [auto, step, h, h2, sg, upd, auto6]
    · have h2 := dig_sgn c h
      simp [auto, step, run, h, h2, sg, upd, auto7]; omega

theorem auto34 (r : List UInt8) : ∀ (st : Nat), st = 3 ∨ st = 4 → ∀ i, auto st i i true r = (i + run r + expn (r.drop (run r)), true) := by
  induction r with
  | nil => intro st _ i; simp [auto, run, expn]
  | cons c r ih =>
    intro st hst i
    have hs : ¬ st = 0 ∧ ¬ st = 1 ∧ ¬ st = 2 := by omega
    cases h : dig c
    · cases h2 : expo c
      · simp [auto, step, run, h, h2, expn, hs, hst]
      · have e1 : step st c = 5 := by simp [step, h, h2, hs, hst]
        have e2 : auto st i i true (c :: r) = auto 5 (i + 1) i true r := by simp [auto, e1, upd]
        rw [e2, auto5]
        simp only [run, h, expn, h2, Bool.true_and, Bool.false_eq_true, if_false, List.drop_zero, Nat.add_zero]
        by_cases h3 : 0 < run (r.drop (sg r))
        · simp [h3]; omega
        · simp [h3]
    · have e1 : step st c = 4 := by simp [step, h, hs, hst]
      have e2 : auto st i i true (c :: r) = auto 4 (i + 1) (i + 1) true r := by simp [auto, e1, upd]
      rw [e2, ih 4 (.inr rfl)]
      simp [run, h]; omega

theorem n2_cons_dig (c : UInt8) (r : List UInt8) (h : dig c = true) : n2 (c :: r) = n2 r + 1 := by
  unfold n2; simp [run, h]; omega
theorem n3_cons_dig (c : UInt8) (r : List UInt8) (h : dig c = true) : n3 (c :: r) = n3 r + 1 := by
  unfold n3; rw [n2_cons_dig c r h]; simp; omega
theorem dec_cons_dig (c : UInt8) (r : List UInt8) (h : dig c = true) : dec (c :: r) = dec r := by
  unfold dec; rw [n3_cons_dig c r h]; simp [run, h]

theorem auto1 (r : List UInt8) : ∀ i, auto 1 i i false r = (i + n3 r, dec r) := by
  induction r with
  | nil => intro i; simp [auto, n3, n2, dec, run, frac, expn]
  | cons c r ih =>
    intro i
    cases h : dig c
    · have hr : run (c :: r) = 0 := by simp [run, h]
      cases h1 : (c.toNat == 46)
      · have hn2 : n2 (c :: r) = 0 := by unfold n2; rw [hr]; simp [frac, h1]
        cases h2 : expo c
        · have hn3 : n3 (c :: r) = 0 := by unfold n3; rw [hn2]; simp [expn, h2]
          have hd : dec (c :: r) = false := by unfold dec; rw [hn3, hr]; rfl
          rw [hn3, hd]
          simp [auto, step, h, h1, h2]
        · have e1 : step 1 c = 5 := by simp [step, h, h1, h2]
          have e2 : auto 1 i i false (c :: r) = auto 5 (i + 1) i false r := by simp [auto, e1, upd]
          have hn3 : n3 (c :: r) = if 0 < run (r.drop (sg r)) then 1 + sg r + run (r.drop (sg r)) else 0 := by unfold n3; rw [hn2]; simp [expn, h2]
          have hd : dec (c :: r) = decide (0 < run (r.drop (sg r))) := by
            unfold dec; rw [hn3, hr]
            by_cases h3 : 0 < run (r.drop (sg r))
            · simp [h3]; omega
            · simp [h3]
          rw [e2, auto5, hn3, hd]
          by_cases h3 : 0 < run (r.drop (sg r))
          · simp [h3]; omega
          · simp [h3]
      · have e1 : step 1 c = 3 := by simp [step, h, h1]
        have e2 : auto 1 i i false (c :: r) = auto 3 (i + 1) (i + 1) true r := by simp [auto, e1, upd]
        have hn2 : n2 (c :: r) = run r + 1 := by unfold n2; rw [hr]; simp [frac, h1]
        have hn3 : n3 (c :: r) = run r + 1 + expn (r.drop (run r)) := by unfold n3; rw [hn2]; simp
        have hd : dec (c :: r) = true := by unfold dec; rw [hn3, hr]; simp; omega
        rw [e2, auto34 r 3 (.inl rfl), hn3, hd]
        simp; omega
    · have e1 : step 1 c = 1 := by simp [step, h]
      have e2 : auto 1 i i false (c :: r) = auto 1 (i + 1) (i + 1) false r := by simp [auto, e1, upd]
      rw [e2, ih, n3_cons_dig c r h, dec_cons_dig c r h]
      simp; omega

theorem auto0 (t : List UInt8) (p : Nat) (hs : start t = true) : auto 0 p p false t = (p + n3 t, dec t) := by
  cases t with
  | nil => simp [start] at hs
  | cons c r =>
    cases h : dig c
    · cases r with
      | nil => simp [start, h] at hs
      | cons x r =>
        simp only [start, h, Bool.false_or, Bool.and_eq_true] at hs
        obtain ⟨h1, h2⟩ := hs
        have e1 : step 0 c = 2 := by simp [step, h, h1]
        have e2 : auto 0 p p false (c :: x :: r) = auto 2 (p + 1) p false (x :: r) := by simp [auto, e1, upd]
        have e3 : auto 2 (p + 1) p false (x :: r) = auto 4 (p + 2) (p + 2) true r := by simp [auto, step, h2, upd]
        have hr : run (c :: x :: r) = 0 := by simp [run, h]
        have hn2 : n2 (c :: x :: r) = run r + 2 := by unfold n2; rw [hr]; simp [frac, h1, run, h2]
        have hn3 : n3 (c :: x :: r) = run r + 2 + expn (r.drop (run r)) := by unfold n3; rw [hn2]; simp
        have hd : dec (c :: x :: r) = true := by unfold dec; rw [hn3, hr]; simp; omega
        rw [e2, e3, auto34 r 4 (.inr rfl), hn3, hd]
        simp; omega
    · have e1 : step 0 c = 1 := by simp [step, h]
      have e2 : auto 0 p p false (c :: r) = auto 1 (p + 1) (p + 1) false r := by simp [auto, e1, upd]
      rw [e2, auto1, n3_cons_dig c r h, dec_cons_dig c r h]
      simp; omega


/-! The head of a list: the tests that the Go text makes -/
def hdDot : List UInt8 → Bool
  | c :: _ => c.toNat == 46
  | [] => false
def hdExp : List UInt8 → Bool
  | c :: _ => expo c
  | [] => false
def hdSgn : List UInt8 → Bool
  | c :: _ => sgn c
  | [] => false
def hdDig : List UInt8 → Bool
  | c :: _ => dig c
  | [] => false

theorem frac_eq (l : List UInt8) : frac l = if hdDot l then run (l.drop 1) + 1 else 0 := by
  cases l <;> simp [frac, hdDot]
theorem sg_eq (l : List UInt8) : sg l = if hdSgn l then 1 else 0 := by
  cases l with
  | nil => rfl
  | cons c r => rfl
theorem run_pos (l : List UInt8) : decide (0 < run l) = hdDig l := by
  cases l with
  | nil => simp [run, hdDig]
  | cons c r => cases h : dig c <;> simp [run, hdDig, h]
theorem expn_eq (l : List UInt8) : expn l = if hdExp l && hdDig ((l.drop 1).drop (sg (l.drop 1))) then 1 + sg (l.drop 1) + run ((l.drop 1).drop (sg (l.drop 1))) else 0 := by
  cases l with
  | nil => simp [expn, hdExp]
  | cons c r =>
    have : ((c :: r).drop 1) = r := rfl
    rw [this, ← run_pos]; simp [expn, hdExp]

/-- The kind: 2 an Int, 3 a Decimal. -/
def kind (b : Bool) : Int := if b then 3 else 2

theorem dec_eq (t : List UInt8) : dec t = (hdDot (t.drop (run t)) || (hdExp (t.drop (n2 t)) && hdDig (((t.drop (n2 t)).drop 1).drop (sg ((t.drop (n2 t)).drop 1))))) := by
  unfold dec n3
  rw [expn_eq]
  have e2 : n2 t = run t + frac (t.drop (run t)) := rfl
  rw [frac_eq] at e2
  by_cases h1 : hdDot (t.drop (run t)) = true
  · simp [h1] at e2 ⊢; omega
  · have h1' : hdDot (t.drop (run t)) = false := by simpa using h1
    rw [h1'] at e2
    simp at e2
    by_cases h2 : (hdExp (t.drop (n2 t)) && hdDig (((t.drop (n2 t)).drop 1).drop (sg ((t.drop (n2 t)).drop 1)))) = true
    · rw [h2, if_pos rfl]; simp; omega
    · have h2' : (hdExp (t.drop (n2 t)) && hdDig (((t.drop (n2 t)).drop 1).drop (sg ((t.drop (n2 t)).drop 1)))) = false := by simpa using h2
      rw [h2', h1']; simp; omega
end Go.Proofs.Qxb6601015a.Num
