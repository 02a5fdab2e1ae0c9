import Derived.Test.Qxb6601015aScan
import Derived.Deep.DeepCutAuto
namespace Go.Proofs.Qxb6601015a
open Go.RowKit Num
attribute [local go_sem] setCell_drewN

theorem hd_at (s : ByteArray) (i : Nat) (h : i < s.size) : hdDot (s.data.toList.drop i) = (s[i].toNat == 46) ∧ hdExp (s.data.toList.drop i) = expo s[i] ∧ hdSgn (s.data.toList.drop i) = sgn s[i] ∧ hdDig (s.data.toList.drop i) = dig s[i] := by
  rw [at_get s i h]; exact ⟨rfl, rfl, rfl, rfl⟩
theorem hd_end (s : ByteArray) (i : Nat) (h : s.size ≤ i) : hdDot (s.data.toList.drop i) = false ∧ hdExp (s.data.toList.drop i) = false ∧ hdSgn (s.data.toList.drop i) = false ∧ hdDig (s.data.toList.drop i) = false := by
  rw [at_end s i h]; exact ⟨rfl, rfl, rfl, rfl⟩
theorem beq_cast (a b : Nat) : ((a : Int) == (b : Int)) = (a == b) := by
  rw [Bool.eq_iff_iff]; simp; omega
theorem expo_int (v : UInt8) : expo v = (((v.toNat : Int) == 101) || ((v.toNat : Int) == 69)) := by
  unfold expo; rw [← beq_cast _ 101, ← beq_cast _ 69]; rfl
theorem sgn_int (v : UInt8) : sgn v = (((v.toNat : Int) == 43) || ((v.toNat : Int) == 45)) := by
  unfold sgn; rw [← beq_cast _ 43, ← beq_cast _ 45]; rfl
theorem val_bool {a b : Bool} (h : a = b) : Value.bool a = Value.bool b := by rw [h]
theorem val_int {a b : Int} (h : a = b) : Value.int .i64 a = Value.int .i64 b := by rw [h]

theorem lexer_drewN (w : World) (s : ByteArray) (p n m : Nat) : (lexer w s p n).drewN m = lexer w s p (n + m) := by
  rw [lexer, World.drewN_drewN]

/-- skipDigits behind a store of the place. -/
theorem skip_at (w : World) (s : ByteArray) (z : Int) (p n : Nat) (hz : z = (p : Int)) (hp : p ≤ s.size) (hs : s.size ≤ 1048576) :
    Calls Try.prog 42 #[.pointer (some ⟨w.heap.size, 0, none⟩)] ((w.alloc (.cells #[.string s, .int .i64 z] 43)).drewN n) fun e w' => e = .returned (.tuple #[]) ∧ ∃ m, w' = lexer w s (p + run (s.data.toList.drop p)) m := by
  subst hz; exact skip_any w s p n hp hs

set_option maxRecDepth 100000 in
set_option maxHeartbeats 4000000 in
theorem scan_any (w : World) (s : ByteArray) (p n : Nat) (hp : p ≤ s.size) (hs : s.size ≤ 1048576) :
    Calls Try.prog 34 #[.pointer (some ⟨w.heap.size, 0, none⟩)] (lexer w s p n) fun e w' => e = .returned (.int .i64 (kind (dec (s.data.toList.drop p)))) ∧ ∃ m, w' = lexer w s (p + n3 (s.data.toList.drop p)) m := by
  obtain ⟨i1, hi1⟩ : ∃ i1, i1 = p + run (s.data.toList.drop p) := ⟨_, rfl⟩
  have b1 : i1 ≤ s.size := by
    have := run_le (s.data.toList.drop p)
    rw [List.length_drop, ← size_data] at this; omega
  obtain ⟨i2, hi2⟩ : ∃ i2, i2 = i1 + frac (s.data.toList.drop i1) := ⟨_, rfl⟩
  have b2 : i2 ≤ s.size := by
    have := frac_le (s.data.toList.drop i1)
    rw [List.length_drop, ← size_data] at this; omega
  obtain ⟨e2, he2⟩ : ∃ e2, e2 = i2 + 1 + sg (s.data.toList.drop (i2 + 1)) := ⟨_, rfl⟩
  have be2 : i2 < s.size → e2 ≤ s.size := by
    intro h
    have := (sg_le (s.data.toList.drop (i2 + 1))).1
    rw [List.length_drop, ← size_data] at this; omega
  have sk1 : Calls Try.prog 42 #[.pointer (some ⟨w.heap.size, 0, none⟩)] (lexer w s p n) fun e w' => e = .returned (.tuple #[]) ∧ ∃ m, w' = lexer w s i1 m := by
    rw [hi1]; exact skip_any w s p n hp hs
  -- what the plain functions say of these places
  have hn2 : p + n2 (s.data.toList.drop p) = i2 := by
    rw [hi2, hi1, n2, List.drop_drop]; omega
  have hdec : dec (s.data.toList.drop p) = (hdDot (s.data.toList.drop i1) || (hdExp (s.data.toList.drop i2) && hdDig (s.data.toList.drop e2))) := by
    rw [dec_eq]
    simp only [List.drop_drop]
    rw [hn2, ← hi1, ← he2]
  have hn3 : p + n3 (s.data.toList.drop p) = if hdExp (s.data.toList.drop i2) && hdDig (s.data.toList.drop e2) then e2 + run (s.data.toList.drop e2) else i2 := by
    rw [n3, expn_eq]
    simp only [List.drop_drop]
    rw [hn2, ← he2]
    split <;> omega
  have H2 := hide hi2
  have HE := hide he2
  have HD := hide hdec
  have HN := hide hn3
  clear hi1 hi2 he2 hn2 hdec hn3
  generalize dec (s.data.toList.drop p) = D at *
  generalize p + n3 (s.data.toList.drop p) = N at *
  go_enter Try.func34, Try.ntmps34
  go_upto_region 3 with (go_at_call 42; refine sk1.mono ?_; rintro e w' ⟨rfl, m, rfl⟩)
  go_cut [28] (fun t28 wx => t28 = .bool (hdDot (s.data.toList.drop i1)) ∧ ∃ m, wx = lexer w s i1 m)
  case first =>
    obtain ⟨W, hW⟩ : ∃ W, W = lexer w s i1 m := ⟨_, rfl⟩
    have c0 : W.cell? ⟨w.heap.size, 0, none⟩ = some (.string s) := by rw [hW]; simp
    have c1 : W.cell? ⟨w.heap.size, 1, none⟩ = some (.int .i64 (i1 : Int)) := by rw [hW]; simp
    rw [← hW]
    have HW := hide hW
    clear hW
    by_cases hlt : i1 < s.size
    · have hlt' : (i1 : Int) < (s.size : Int) := by omega
      go_quiet (fail)
      go_wp2
      go_meet
      case rel => exact ⟨val_bool (by rw [(hd_at s i1 hlt).1]; exact beq_cast _ 46), m + nq, by rw [HW.out, lexer_drewN]⟩
    · have hlt' : decide ((i1 : Int) < (s.size : Int)) = false := decide_eq_false (by omega)
      go_quiet (fail)
      go_wp2
      go_meet
      case rel => exact ⟨val_bool (by rw [(hd_end s i1 (by omega)).1]), m + nq, by rw [HW.out, lexer_drewN]⟩
  case rest =>
  obtain ⟨rfl, m1, rfl⟩ := hcut
  clear sk1
  go_upto_if 28 with fail
  go_cut [3] (fun t3 wx => t3 = .int .i64 (kind (hdDot (s.data.toList.drop i1))) ∧ ∃ m, wx = lexer w s i2 m)
  case first =>
    cases hdot : hdDot (s.data.toList.drop i1) with
    | true =>
      have hlt : i1 < s.size := by
        by_cases h : i1 < s.size
        · exact h
        · rw [(hd_end s i1 (by omega)).1] at hdot; cases hdot
      have Hi2 : Hid (i1 + 1 + run (s.data.toList.drop (i1 + 1)) = i2) := by
        have := H2.out; rw [frac_eq, hdot] at this; simp only [if_true, List.drop_drop] at this
        show _ = _; omega
      have Hdot := hide hdot
      clear hdot
      go_wp2_with (go_at_call 42; refine (skip_at w s _ (i1 + 1) _ (by omega) (by omega) hs).mono ?_; rintro e w' ⟨rfl, m2, rfl⟩)
      go_meet
      case rel => exact ⟨val_int (by rw [Hdot.out]; rfl), m2, by rw [Hi2.out]⟩
    | false =>
      have Hi2 : Hid (i1 = i2) := by
        have := H2.out; rw [frac_eq, hdot] at this; simp at this
        exact this.symm
      have Hdot := hide hdot
      clear hdot
      go_wp2
      go_meet
      case rel => exact ⟨val_int (by rw [Hdot.out]; rfl), m1, by rw [Hi2.out]⟩
  case rest =>
  obtain ⟨rfl, m2, rfl⟩ := hcut
  go_upto_region 8 with fail
  go_cut [66] (fun t66 wx => t66 = .bool (hdExp (s.data.toList.drop i2)) ∧ ∃ m, wx = lexer w s i2 m)
  case first =>
    by_cases hlt : i2 < s.size
    · have hlt' : (i2 : Int) < (s.size : Int) := by omega
      cases h1 : ((s[i2].toNat : Int) == 101) with
      | true =>
        go_wp2
        go_meet
        case rel => exact ⟨val_bool (by rw [(hd_at s i2 hlt).2.1, expo_int, h1]; rfl), _, rfl⟩
      | false =>
        go_wp2
        go_meet
        case rel => exact ⟨val_bool (by rw [(hd_at s i2 hlt).2.1, expo_int, h1]; rfl), _, rfl⟩
    · have hlt' : decide ((i2 : Int) < (s.size : Int)) = false := decide_eq_false (by omega)
      go_wp2
      go_meet
      case rel => exact ⟨val_bool (by rw [(hd_end s i2 (by omega)).2.1]), _, rfl⟩
  case rest =>
  obtain ⟨rfl, m3, rfl⟩ := hcut
  go_upto_if 66 with fail
  go_cut [3, 4] (fun t3 t4 wx => t3 = .int .i64 (kind D) ∧ ∃ m, wx = lexer w s N m)
  case first =>
    cases hexp : hdExp (s.data.toList.drop i2) with
    | true =>
      have hlt : i2 < s.size := by
        by_cases h : i2 < s.size
        · exact h
        · rw [(hd_end s i2 (by omega)).2.1] at hexp; cases hexp
      have be2' := be2 hlt
      have HD2 : Hid (D = (hdDot (s.data.toList.drop i1) || hdDig (s.data.toList.drop e2))) := by
        have := HD.out; rw [hexp] at this; show _ = _; simpa using this
      have HN2 : Hid (N = if hdDig (s.data.toList.drop e2) then e2 + run (s.data.toList.drop e2) else i2) := by
        have := HN.out; rw [hexp] at this; show _ = _; simpa using this
      clear hexp be2
      go_upto_region 10 with fail
      go_cut [93] (fun t93 wx => t93 = .bool (hdSgn (s.data.toList.drop (i2 + 1))) ∧ ∃ m, wx = lexer w s i2 m)
      case first =>
        by_cases hl1 : i2 + 1 < s.size
        · have hl1' : (i2 : Int) + 1 < (s.size : Int) := by omega
          cases h1 : ((s[i2 + 1].toNat : Int) == 43) with
          | true =>
            go_wp2
            go_meet
            case rel => exact ⟨val_bool (by rw [(hd_at s (i2 + 1) hl1).2.2.1, sgn_int, h1]; rfl), _, rfl⟩
          | false =>
            go_wp2
            go_meet
            case rel => exact ⟨val_bool (by rw [(hd_at s (i2 + 1) hl1).2.2.1, sgn_int, h1]; rfl), _, rfl⟩
        · have hl1' : decide ((i2 : Int) + 1 < (s.size : Int)) = false := decide_eq_false (by omega)
          go_wp2
          go_meet
          case rel => exact ⟨val_bool (by rw [(hd_end s (i2 + 1) (by omega)).2.2.1]), _, rfl⟩
      case rest =>
      obtain ⟨rfl, m5, rfl⟩ := hcut
      go_upto_if 93 with fail
      go_cut [4] (fun t4 wx => t4 = .int .i64 (e2 : Int) ∧ ∃ m, wx = lexer w s i2 m)
      case first =>
        cases hsg : hdSgn (s.data.toList.drop (i2 + 1)) with
        | true =>
          have He : Hid (e2 = i2 + 1 + 1) := by
            have := HE.out; rw [sg_eq, hsg] at this; show _ = _; simpa using this
          clear hsg
          go_wp2
          go_meet
          case rel => exact ⟨val_int (by rw [He.out]; omega), _, rfl⟩
        | false =>
          have He : Hid (e2 = i2 + 1) := by
            have := HE.out; rw [sg_eq, hsg] at this; show _ = _; simpa using this
          clear hsg
          go_wp2
          go_meet
          case rel => exact ⟨val_int (by rw [He.out]; omega), _, rfl⟩
      case rest =>
      obtain ⟨rfl, m6, rfl⟩ := hcut
      go_upto_region 12 with fail
      go_cut [111] (fun t111 wx => t111 = .bool (hdDig (s.data.toList.drop e2)) ∧ ∃ m, wx = lexer w s i2 m)
      case first =>
        by_cases hl1 : e2 < s.size
        · have hl1' : (e2 : Int) < (s.size : Int) := by omega
          go_wp2_with (go_at_call 36; refine (isDigit_any _ _).mono ?_; rintro e w' ⟨rfl, rfl⟩)
          go_meet
          case rel => exact ⟨val_bool (by rw [(hd_at s e2 hl1).2.2.2]), _, rfl⟩
        · have hl1' : decide ((e2 : Int) < (s.size : Int)) = false := decide_eq_false (by omega)
          go_wp2
          go_meet
          case rel => exact ⟨val_bool (by rw [(hd_end s e2 (by omega)).2.2.2]), _, rfl⟩
      case rest =>
      obtain ⟨rfl, m7, rfl⟩ := hcut
      go_upto_if 111 with fail
      cases hdg : hdDig (s.data.toList.drop e2) with
      | true =>
        have HD3 : Hid (D = true) := by
          have := HD2.out; rw [hdg] at this; show _ = _; simpa using this
        have HN3 : Hid (e2 + run (s.data.toList.drop e2) = N) := by
          have := HN2.out; rw [hdg] at this; show _ = _; simpa using this.symm
        clear hdg
        go_wp2_with (go_at_call 42; refine (skip_at w s _ e2 _ (by omega) (by omega) hs).mono ?_; rintro e w' ⟨rfl, m8, rfl⟩)
        go_meet
        case rel => exact ⟨val_int (by rw [HD3.out]; rfl), m8, by rw [HN3.out]⟩
      | false =>
        have HD3 : Hid (D = hdDot (s.data.toList.drop i1)) := by
          have := HD2.out; rw [hdg] at this; show _ = _; simpa using this
        have HN3 : Hid (N = i2) := by
          have := HN2.out; rw [hdg] at this; show _ = _; simpa using this
        clear hdg
        go_wp2
        go_meet
        case rel => exact ⟨val_int (by rw [HD3.out]), m7, by rw [HN3.out]⟩
    | false =>
      have HD2 : Hid (D = hdDot (s.data.toList.drop i1)) := by
        have := HD.out; rw [hexp] at this; show _ = _; simpa using this
      have HN2 : Hid (N = i2) := by
        have := HN.out; rw [hexp] at this; show _ = _; simpa using this
      clear hexp
      go_wp2
      go_meet
      case rel => exact ⟨val_int (by rw [HD2.out]), m3, by rw [HN2.out]⟩
  case rest =>
  obtain ⟨rfl, m4, rfl⟩ := hcut
  go_wp2
  go_ret
  exact ⟨rfl, _, rfl⟩
end Go.Proofs.Qxb6601015a
