import Derived.Test.Qxb6601015aScan2
namespace Go.Proofs.Qxb6601015a
open Go.RowKit Num
attribute [local go_sem] setCell_drewN

/-- ZZScanNumber (function 22). -/
theorem zzscan (w : World) (s : ByteArray) (p : Nat) (hp : p ≤ s.size) (hs : s.size ≤ 1048576) :
    Calls Try.prog 22 #[.string s, .int .i64 (p : Int)] w fun e w' => e = .returned (.tuple #[.int .i64 (kind (dec (s.data.toList.drop p))), .int .i64 ((p + n3 (s.data.toList.drop p) : Nat) : Int)]) ∧ ∃ m, w' = lexer w s (p + n3 (s.data.toList.drop p)) m := by
  have sc := scan_any w s p 0 hp hs
  rw [show lexer w s p 0 = w.alloc (.cells #[.string s, .int .i64 (p : Int)] 43) from rfl] at sc
  generalize p + n3 (s.data.toList.drop p) = N at *
  generalize dec (s.data.toList.drop p) = D at *
  go_enter Try.func22, Try.ntmps22
  go_wp2_with (go_at_call 34; refine sc.mono ?_; rintro e w' ⟨rfl, m, rfl⟩)
  obtain ⟨W, hW⟩ : ∃ W, W = lexer w s N m := ⟨_, rfl⟩
  have c1 : W.cell? ⟨w.heap.size, 1, none⟩ = some (.int .i64 (N : Int)) := by rw [hW]; simp
  rw [← hW]
  have HW := hide hW
  clear hW
  go_quiet (fail)
  go_wp2
  go_ret2
  exact ⟨rfl, m + nq, by rw [HW.out, lexer_drewN]⟩

/-- zzSynNumberStart (function 21), at a place inside the text. -/
theorem start_any (w : World) (s : ByteArray) (p : Nat) (hp : p < s.size) (hs : s.size ≤ 1048576) :
    Calls Try.prog 21 #[.string s, .int .i64 (p : Int)] w fun e w' => e = .returned (.bool (Num.start (s.data.toList.drop p))) ∧ w = w' := by
  have hst : Num.start (s.data.toList.drop p) = (dig s[p] || ((s[p].toNat == 46) && hdDig (s.data.toList.drop (p + 1)))) := by
    rw [at_get s p hp]
    cases h : s.data.toList.drop (p + 1) with
    | nil => simp [Num.start, hdDig]
    | cons c r => simp [Num.start, hdDig]
  rw [hst]
  clear hst
  have hp' : (p : Int) < (s.size : Int) := by omega
  have dg : ∀ (c : UInt8) (b : Bool), dig c = b → ∀ wx, Calls Try.prog 25 #[.int .u8 (c.toNat : Int)] wx fun e w' => e = .returned (.bool b) ∧ wx = w' := by
    intro c b h wx; rw [← h]; exact (synDigit_any c wx).mono fun _ _ h => ⟨h.1, h.2.symm⟩
  cases h1 : dig s[p] with
  | true =>
    have d1 := dg _ _ h1
    go_enter Try.func21, Try.ntmps21
    go_wp2_with (go_at_call 25; refine (d1 _).mono ?_; rintro e w' ⟨rfl, rfl⟩)
    go_ret
    exact ⟨rfl, rfl⟩
  | false =>
    have d1 := dg _ _ h1
    cases h2 : ((s[p].toNat : Int) == 46) with
    | true =>
      have h2' : (s[p].toNat == 46) = true := by rw [← beq_cast]; exact h2
      rw [h2']
      by_cases h3 : p + 1 < s.size
      · have h3' : (p : Int) + 1 < (s.size : Int) := by omega
        rw [(hd_at s (p + 1) h3).2.2.2]
        cases h4 : dig s[p + 1] with
        | true =>
          have d2 := dg _ _ h4
          clear h2'
          go_enter Try.func21, Try.ntmps21
          go_wp2_with fail
          refine (d1 _).mono ?_
          rintro e w' ⟨rfl, rfl⟩
          go_wp2_with fail
          refine (d2 _).mono ?_
          rintro e w' ⟨rfl, rfl⟩
          go_wp2
          go_ret
          exact ⟨rfl, rfl⟩
        | false =>
          have d2 := dg _ _ h4
          clear h2'
          go_enter Try.func21, Try.ntmps21
          go_wp2_with fail
          refine (d1 _).mono ?_
          rintro e w' ⟨rfl, rfl⟩
          go_wp2_with fail
          refine (d2 _).mono ?_
          rintro e w' ⟨rfl, rfl⟩
          go_wp2
          go_ret
          exact ⟨rfl, rfl⟩
      · have h3' : decide ((p : Int) + 1 < (s.size : Int)) = false := decide_eq_false (by omega)
        rw [(hd_end s (p + 1) (by omega)).2.2.2]
        clear h2'
        go_enter Try.func21, Try.ntmps21
        go_wp2_with (go_at_call 25; refine (d1 _).mono ?_; rintro e w' ⟨rfl, rfl⟩)
        go_ret
        exact ⟨rfl, rfl⟩
    | false =>
      have h2' : (s[p].toNat == 46) = false := by rw [← beq_cast]; exact h2
      rw [h2']
      clear h2'
      go_enter Try.func21, Try.ntmps21
      go_wp2_with (go_at_call 25; refine (d1 _).mono ?_; rintro e w' ⟨rfl, rfl⟩)
      go_ret
      exact ⟨rfl, rfl⟩
end Go.Proofs.Qxb6601015a
