import Derived.Test.Qxb6601015aZz
import Derived.LoopTactic
import Derived.RowKit3
import Derived.Lib.Strings
namespace Go.Proofs.Qxb6601015a
open Go.RowKit Num

/-! ### zzBytes (function 24) -/
theorem bytes24_yes (a b : ByteArray) (f : Int) (w : World) (h : (a.size : Int) + b.size ≤ 1048576) :
    Calls Try.prog 24 #[.string a, .string b, .int .i64 f] w fun e w' => e = .returned (.bool true) ∧ w = w' := by
  have h1 : (a.size : Int) ≤ 1048576 := by omega
  have h2 : (b.size : Int) ≤ 1048576 := by omega
  go_enter Try.func24, Try.ntmps24
  go_wp2
  go_ret
  exact ⟨rfl, rfl⟩
theorem bytes24_no (a b : ByteArray) (f : Int) (w : World) (ha : a.size ≤ maxLen) (hb : b.size ≤ maxLen) (h : (1048576 : Int) < (a.size : Int) + b.size) :
    Calls Try.prog 24 #[.string a, .string b, .int .i64 f] w fun e w' => e = .returned (.bool false) ∧ w = w' := by
  unfold maxLen at ha hb
  by_cases h1 : (a.size : Int) ≤ 1048576
  · by_cases h2 : (b.size : Int) ≤ 1048576
    · go_enter Try.func24, Try.ntmps24
      go_wp2
      go_ret
      exact ⟨rfl, rfl⟩
    · go_enter Try.func24, Try.ntmps24
      go_wp2
      go_ret
      exact ⟨rfl, rfl⟩
  · go_enter Try.func24, Try.ntmps24
    go_wp2
    go_ret
    exact ⟨rfl, rfl⟩

theorem law8_skip (a b : ByteArray) (f : Int) (w : World) (ha : a.size ≤ maxLen) (hb : b.size ≤ maxLen) (h : (1048576 : Int) < (a.size : Int) + b.size) :
    Calls Try.prog 8 #[.string a, .string b, .int .i64 f] w fun e w' => e = .returned (.bool true) ∧ Grown w w' := by
  go_enter Try.func8, Try.ntmps8
  go_wp2_with (go_at_call 24; refine (bytes24_no _ _ _ _ ha hb h).mono ?_; rintro e w' ⟨rfl, rfl⟩)
  go_ret
  exact ⟨rfl, Grown.refl _⟩

set_option maxRecDepth 100000 in
theorem law8_mid (a b : ByteArray) (f : Int) (w : World) (h : (a.size : Int) + b.size ≤ 1048576) (h2 : (65536 : Int) < a.size ∨ (65536 : Int) < b.size) :
    Calls Try.prog 8 #[.string a, .string b, .int .i64 f] w fun e w' => e = .returned (.bool true) ∧ Grown w w' := by
  by_cases h3 : (65536 : Int) < a.size
  · clear h2
    go_enter Try.func8, Try.ntmps8
    go_wp2_with (go_at_call 24; refine (bytes24_yes _ _ _ _ h).mono ?_; rintro e w' ⟨rfl, rfl⟩)
    go_ret
    exact ⟨rfl, Grown.refl _⟩
  · have h4 : (65536 : Int) < b.size := by omega
    have h3' : (a.size : Int) ≤ 65536 := by omega
    clear h2 h3
    go_enter Try.func8, Try.ntmps8
    go_wp2_with (go_at_call 24; refine (bytes24_yes _ _ _ _ h).mono ?_; rintro e w' ⟨rfl, rfl⟩)
    go_ret
    exact ⟨rfl, Grown.refl _⟩

theorem law8_out (a b : ByteArray) (f : Int) (w : World) (ha : (a.size : Int) ≤ 65536) (hb : (b.size : Int) ≤ 65536) (hf : f < 0 ∨ (b.size : Int) ≤ f) :
    Calls Try.prog 8 #[.string a, .string b, .int .i64 f] w fun e w' => e = .returned (.bool true) ∧ Grown w w' := by
  have h : (a.size : Int) + b.size ≤ 1048576 := by omega
  by_cases h3 : f < 0
  · clear hf
    go_enter Try.func8, Try.ntmps8
    go_wp2_with (go_at_call 24; refine (bytes24_yes _ _ _ _ h).mono ?_; rintro e w' ⟨rfl, rfl⟩)
    go_ret
    exact ⟨rfl, Grown.refl _⟩
  · have h4 : (b.size : Int) ≤ f := by omega
    have h3' : 0 ≤ f := by omega
    clear hf h3
    go_enter Try.func8, Try.ntmps8
    go_wp2_with (go_at_call 24; refine (bytes24_yes _ _ _ _ h).mono ?_; rintro e w' ⟨rfl, rfl⟩)
    go_ret
    exact ⟨rfl, Grown.refl _⟩

theorem law8_nostart (a b : ByteArray) (p : Nat) (w : World) (ha : (a.size : Int) ≤ 65536) (hb : (b.size : Int) ≤ 65536) (hp : p < b.size) (hs : Num.start (b.data.toList.drop p) = false) :
    Calls Try.prog 8 #[.string a, .string b, .int .i64 (p : Int)] w fun e w' => e = .returned (.bool true) ∧ Grown w w' := by
  have h : (a.size : Int) + b.size ≤ 1048576 := by omega
  have hp' : (p : Int) < (b.size : Int) := by omega
  have st := start_any w b p hp (by omega)
  rw [hs] at st
  go_enter Try.func8, Try.ntmps8
  go_wp2_with (first
    | (go_at_call 24; refine (bytes24_yes _ _ _ _ h).mono ?_; rintro e w' ⟨rfl, rfl⟩)
    | (go_at_call 21; refine st.mono ?_; rintro e w' ⟨rfl, rfl⟩))
  go_ret
  exact ⟨rfl, Grown.refl _⟩

/-- What the text that was read tells. -/
theorem text_facts (b : ByteArray) (p : Nat) : (b.extract p (p + n3 (b.data.toList.drop p))).data.toList = (b.data.toList.drop p).take (n3 (b.data.toList.drop p)) := by
  rw [Lib.extract_data]; congr 1; omega

def cnt (l : List UInt8) : Nat := (l.filter dig).length
theorem cnt_le (l : List UInt8) : cnt l ≤ l.length := List.length_filter_le _ _
theorem cnt_snoc (l : List UInt8) (c : UInt8) : cnt (l ++ [c]) = cnt l + if dig c then 1 else 0 := by
  unfold cnt; rw [List.filter_append]; cases h : dig c <;> simp [h]
theorem all_snoc (l : List UInt8) (c : UInt8) : (l ++ [c]).all dig = (l.all dig && dig c) := by simp
theorem cnt_pos (l : List UInt8) (h : l.any dig = true) : 0 < cnt l := by
  unfold cnt
  rw [List.any_eq_true] at h
  obtain ⟨x, hx, hd⟩ := h
  exact List.length_pos_of_mem (List.mem_filter.2 ⟨hx, hd⟩)
theorem take_snoc (s : ByteArray) (k : Nat) (h : k < s.size) : s.data.toList.take (k + 1) = s.data.toList.take k ++ [s[k]] := by
  rw [List.take_succ_eq_append_getElem (by simpa using h)]; rfl

theorem grown_drewN (w w1 : World) (h : Grown w w1) (n : Nat) : Grown w (w1.drewN n) := by
  induction n with
  | zero => exact h
  | succ n ih => exact ih.drew
theorem grown_lexer (w w1 : World) (h : Grown w w1) (s : ByteArray) (p n : Nat) : Grown w (lexer w1 s p n) := grown_drewN _ _ (h.alloc _ _) _

/-- The same number, scanned alone, and behind a prefix. -/
theorem rescan_text (tx b : ByteArray) (p N : Nat) (D : Bool) (hN : N = n3 (b.data.toList.drop p)) (hD : dec (b.data.toList.drop p) = D) (htx : tx.data.toList = (b.data.toList.drop p).take N) (hts : tx.size = N) (hs : tx.size ≤ 1048576) (wx : World) :
    Calls Try.prog 22 #[.string tx, .int .i64 0] wx fun e w' => e = .returned (.tuple #[.int .i64 (kind D), .int .i64 (tx.size : Int)]) ∧ ∃ q m, w' = lexer wx tx q m := by
  have := zzscan wx tx 0 (Nat.zero_le _) hs
  rw [List.drop_zero, htx, hN, rescan, rescan_dec, hD, ← hN, Nat.zero_add, ← hts] at this
  exact this.mono fun e w' ⟨he, m, hw⟩ => ⟨he, _, m, hw⟩
theorem rescan_prefix (a b : ByteArray) (p N : Nat) (D : Bool) (hN : N = n3 (b.data.toList.drop p)) (hD : dec (b.data.toList.drop p) = D) (hp : p ≤ b.size) (hs : a.size + b.size ≤ 1048576) (wx : World) :
    Calls Try.prog 22 #[.string (a ++ b), .int .i64 ((a.size : Int) + (p : Int))] wx fun e w' => e = .returned (.tuple #[.int .i64 (kind D), .int .i64 ((a.size : Int) + ((p : Int) + (N : Int)))]) ∧ ∃ q m, w' = lexer wx (a ++ b) q m := by
  have h1 : (a ++ b).data.toList.drop (a.size + p) = b.data.toList.drop p := by
    have : (a ++ b).data.toList = a.data.toList ++ b.data.toList := by simp
    rw [this, size_data a, ← List.drop_drop, List.drop_left]
  have := zzscan wx (a ++ b) (a.size + p) (by rw [ByteArray.size_append]; omega) (by rw [ByteArray.size_append]; omega)
  rw [h1, hD, ← hN] at this
  rw [show ((a.size : Int) + (p : Int)) = ((a.size + p : Nat) : Int) by omega, show ((a.size : Int) + ((p : Int) + (N : Int))) = ((a.size + p + N : Nat) : Int) by omega]
  exact this.mono fun e w' ⟨he, m, hw⟩ => ⟨he, _, m, hw⟩

set_option maxRecDepth 100000 in
set_option maxHeartbeats 4000000 in
theorem law8_main (a b : ByteArray) (p : Nat) (w : World) (ha : (a.size : Int) ≤ 65536) (hb : (b.size : Int) ≤ 65536) (hp : p < b.size) (hs : Num.start (b.data.toList.drop p) = true) :
    Calls Try.prog 8 #[.string a, .string b, .int .i64 (p : Int)] w fun e w' => e = .returned (.bool true) ∧ Grown w w' := by
  have h : (a.size : Int) + b.size ≤ 1048576 := by omega
  have hp' : (p : Int) < (b.size : Int) := by omega
  have st := start_any w b p hp (by omega)
  rw [hs] at st
  have sc1 := zzscan w b p (by omega) (by omega)
  have htl := text_facts b p
  have hany := (start_pos _ hs).2
  have hall := all_iff (b.data.toList.drop p)
  rw [← htl] at hany hall
  obtain ⟨N, hN⟩ : ∃ N, N = n3 (b.data.toList.drop p) := ⟨_, rfl⟩
  have hN1 : 1 ≤ N := by rw [hN]; exact (start_pos _ hs).1
  have hN2 : p + N ≤ b.size := by
    have := n3_le (b.data.toList.drop p)
    rw [← hN, List.length_drop, ← size_data] at this; omega
  rw [← hN] at sc1 htl hany hall
  generalize hD : dec (b.data.toList.drop p) = D at sc1 hall
  obtain ⟨tx, htx⟩ : ∃ tx, tx = b.extract p (p + N) := ⟨_, rfl⟩
  have hts : tx.size = N := by rw [htx, ByteArray.size_extract]; omega
  rw [← htx] at htl hany hall
  have sc2 := rescan_text tx b p N D hN hD htl hts (by omega)
  have sc3 := rescan_prefix a b p N D hN hD (by omega) (by omega)
  have hfull : tx.data.toList.take tx.size = tx.data.toList := List.take_of_length_le (by rw [← size_data]; exact Nat.le_refl _)
  have Hcnt : Hid (((cnt (tx.data.toList.take tx.size) : Int) == 0) = false) := by
    rw [hfull]; have := cnt_pos _ hany; show _ = _; rw [beq_eq_false_iff_ne]; omega
  have Hall : Hid ((tx.data.toList.take tx.size).all dig = !D) := by rw [hfull]; exact hall
  have Htx := hide htx
  have htb : tx.size ≤ 65536 := by omega
  clear hN hD hs htx hts hany hall htl hfull
  have hx1 : (p : Int) < (p : Int) + (N : Int) := by omega
  have hx2 : (p : Int) + (N : Int) ≤ (b.size : Int) := by omega
  have q1 : decide ((65536 : Int) < (a.size : Int)) = false := decide_eq_false (by omega)
  have q2 : decide ((65536 : Int) < (b.size : Int)) = false := decide_eq_false (by omega)
  have q3 : decide ((p : Int) < 0) = false := decide_eq_false (by omega)
  have q4 : decide ((p : Int) + (N : Int) ≤ (p : Int)) = false := decide_eq_false (by omega)
  have q5 : decide ((b.size : Int) < (p : Int) + (N : Int)) = false := decide_eq_false (by omega)
  cases D
  all_goals
    simp only [kind, Bool.false_eq_true, if_true, if_false] at sc1 sc2 sc3
    go_enter Try.func8, Try.ntmps8
    go_wp2_with (first
      | (go_at_call 24; refine (bytes24_yes _ _ _ _ h).mono ?_; rintro e w' ⟨rfl, rfl⟩)
      | (go_at_call 21; refine st.mono ?_; rintro e w' ⟨rfl, rfl⟩)
      | (go_at_call 22; refine sc1.mono ?_; rintro e w' ⟨rfl, m1, rfl⟩))
    rw [← Htx.out]
    clear Htx st sc1
    go_loop [10, 11, 12] (fun d al i => ∃ k : Nat, k ≤ tx.size ∧ i = .int .i64 k ∧ d = .int .i64 (cnt (tx.data.toList.take k) : Int) ∧ al = .bool ((tx.data.toList.take k).all dig)) (fun _ _ i => tx.size - (intOf i).toNat)
    case atStart => exact ⟨0, Nat.zero_le _, rfl, rfl, rfl⟩
    case round =>
      obtain ⟨k, hk, rfl, rfl, rfl⟩ := hrel
      by_cases hlt : k < tx.size
      · have hlt' : (k : Int) < (tx.size : Int) := by omega
        have hcl : cnt (tx.data.toList.take k) ≤ k := by
          have := cnt_le (tx.data.toList.take k); rw [List.length_take] at this; omega
        have hc1 := cnt_snoc (tx.data.toList.take k) tx[k]
        have ha1 := all_snoc (tx.data.toList.take k) tx[k]
        rw [← take_snoc tx k hlt] at hc1 ha1
        have Hc := hide hc1
        have Ha := hide ha1
        clear hc1 ha1
        cases hd : dig tx[k] with
        | true =>
          have dg := synDigit_any tx[k]
          rw [hd] at dg
          go_wp2_with (go_at_call 25; refine (dg _).mono ?_; rintro e w' ⟨rfl, rfl⟩)
          go_round
          case rel => exact ⟨k + 1, by omega, by go_num, val_int (by rw [Hc.out, hd]; simp), val_bool (by rw [Ha.out, hd]; simp)⟩
          case measure => simp [intOf]; omega
        | false =>
          have dg := synDigit_any tx[k]
          rw [hd] at dg
          go_wp2_with (go_at_call 25; refine (dg _).mono ?_; rintro e w' ⟨rfl, rfl⟩)
          go_round
          case rel => exact ⟨k + 1, by omega, by go_num, val_int (by rw [Hc.out, hd]; simp), val_bool (by rw [Ha.out, hd]; simp)⟩
          case measure => simp [intOf]; omega
      · obtain rfl : k = tx.size := by omega
        have hcnt := Hcnt.out
        have hall := Hall.out
        simp only [Bool.not_true, Bool.not_false] at hall
        go_wp2_with fail
        refine (sc2 _).mono ?_
        rintro e w' ⟨rfl, qq, m2, rfl⟩
        go_wp2_with fail
        refine (sc3 _).mono ?_
        rintro e w' ⟨rfl, qq3, m3, rfl⟩
        go_wp2
        go_ret
        exact ⟨rfl, grown_lexer _ _ (grown_lexer _ _ (grown_lexer _ _ (Grown.refl _) _ _ _) _ _ _) _ _ _⟩

theorem law8_all (a b : ByteArray) (f : Int) (w : World) (ha : a.size ≤ maxLen) (hb : b.size ≤ maxLen) :
    Calls Try.prog 8 #[.string a, .string b, .int .i64 f] w fun e w' => e = .returned (.bool true) ∧ Grown w w' := by
  by_cases h : (a.size : Int) + b.size ≤ 1048576
  · by_cases h1 : (a.size : Int) ≤ 65536
    · by_cases h2 : (b.size : Int) ≤ 65536
      · by_cases h3 : 0 ≤ f ∧ f < b.size
        · obtain ⟨p, rfl⟩ := Int.eq_ofNat_of_zero_le h3.1
          have hp : p < b.size := by omega
          cases hs : Num.start (b.data.toList.drop p) with
          | true => exact law8_main a b p w h1 h2 hp hs
          | false => exact law8_nostart a b p w h1 h2 hp hs
        · exact law8_out a b f w h1 h2 (by omega)
      · exact law8_mid a b f w h (.inr (by omega))
    · exact law8_mid a b f w h (.inl (by omega))
  · exact law8_skip a b f w ha hb (by omega)
end Go.Proofs.Qxb6601015a
