import Derived.Test.Qxb6601015aZz
import Derived.Test.Qxb6601015aAuto
import Derived.RowKit3
namespace Go.Proofs.Qxb6601015a
open Go.RowKit Num

theorem bytes20_yes (a : ByteArray) (f : Int) (w : World) (h : (a.size : Int) ≤ 1048576) :
    Calls Try.prog 20 #[.string a, .int .i64 f] w fun e w' => e = .returned (.bool true) ∧ w = w' := by
  go_enter Try.func20, Try.ntmps20
  go_wp2
  go_ret
  exact ⟨rfl, rfl⟩
theorem bytes20_no (a : ByteArray) (f : Int) (w : World) (h : (1048576 : Int) < a.size) :
    Calls Try.prog 20 #[.string a, .int .i64 f] w fun e w' => e = .returned (.bool false) ∧ w = w' := by
  go_enter Try.func20, Try.ntmps20
  go_wp2
  go_ret
  exact ⟨rfl, rfl⟩

theorem law7_skip (a : ByteArray) (f : Int) (w : World) (h : (1048576 : Int) < a.size) :
    Calls Try.prog 7 #[.string a, .int .i64 f] w fun e w' => e = .returned (.bool true) ∧ Grown w w' := by
  go_enter Try.func7, Try.ntmps7
  go_wp2_with (go_at_call 20; refine (bytes20_no _ _ _ h).mono ?_; rintro e w' ⟨rfl, rfl⟩)
  go_ret
  exact ⟨rfl, Grown.refl _⟩
theorem law7_mid (a : ByteArray) (f : Int) (w : World) (h : (a.size : Int) ≤ 1048576) (h2 : (65536 : Int) < a.size) :
    Calls Try.prog 7 #[.string a, .int .i64 f] w fun e w' => e = .returned (.bool true) ∧ Grown w w' := by
  go_enter Try.func7, Try.ntmps7
  go_wp2_with (go_at_call 20; refine (bytes20_yes _ _ _ h).mono ?_; rintro e w' ⟨rfl, rfl⟩)
  go_ret
  exact ⟨rfl, Grown.refl _⟩
theorem law7_out (b : ByteArray) (f : Int) (w : World) (hb : (b.size : Int) ≤ 65536) (hf : f < 0 ∨ (b.size : Int) ≤ f) :
    Calls Try.prog 7 #[.string b, .int .i64 f] w fun e w' => e = .returned (.bool true) ∧ Grown w w' := by
  have h : (b.size : Int) ≤ 1048576 := by omega
  by_cases h3 : f < 0
  · clear hf
    go_enter Try.func7, Try.ntmps7
    go_wp2_with (go_at_call 20; refine (bytes20_yes _ _ _ h).mono ?_; rintro e w' ⟨rfl, rfl⟩)
    go_ret
    exact ⟨rfl, Grown.refl _⟩
  · have h4 : (b.size : Int) ≤ f := by omega
    have h3' : 0 ≤ f := by omega
    clear hf h3
    go_enter Try.func7, Try.ntmps7
    go_wp2_with (go_at_call 20; refine (bytes20_yes _ _ _ h).mono ?_; rintro e w' ⟨rfl, rfl⟩)
    go_ret
    exact ⟨rfl, Grown.refl _⟩
theorem law7_nostart (b : ByteArray) (p : Nat) (w : World) (hb : (b.size : Int) ≤ 65536) (hp : p < b.size) (hs : Num.start (b.data.toList.drop p) = false) :
    Calls Try.prog 7 #[.string b, .int .i64 (p : Int)] w fun e w' => e = .returned (.bool true) ∧ Grown w w' := by
  have h : (b.size : Int) ≤ 1048576 := by omega
  have hp' : (p : Int) < (b.size : Int) := by omega
  have st := start_any w b p hp (by omega)
  rw [hs] at st
  go_enter Try.func7, Try.ntmps7
  go_wp2_with (first
    | (go_at_call 20; refine (bytes20_yes _ _ _ h).mono ?_; rintro e w' ⟨rfl, rfl⟩)
    | (go_at_call 21; refine st.mono ?_; rintro e w' ⟨rfl, rfl⟩))
  go_ret
  exact ⟨rfl, Grown.refl _⟩

theorem grown7 (w : World) (s : ByteArray) (p n : Nat) : Grown w (lexer w s p n) := by
  show Grown w ((w.alloc _).drewN n)
  induction n with
  | zero => exact (Grown.refl w).alloc _ _
  | succ n ih => exact ih.drew

set_option maxRecDepth 100000 in
set_option maxHeartbeats 2000000 in
theorem law7_main (b : ByteArray) (p : Nat) (w : World) (hb : (b.size : Int) ≤ 65536) (hp : p < b.size) (hs : Num.start (b.data.toList.drop p) = true) :
    Calls Try.prog 7 #[.string b, .int .i64 (p : Int)] w fun e w' => e = .returned (.bool true) ∧ Grown w w' := by
  have h : (b.size : Int) ≤ 1048576 := by omega
  have hp' : (p : Int) < (b.size : Int) := by omega
  have st := start_any w b p hp (by omega)
  rw [hs] at st
  have sc1 := zzscan w b p (by omega) (by omega)
  have mo := fun wx => model_any wx b p _ (auto0 _ p hs) (by omega) (by omega)
  have hN1 : 1 ≤ n3 (b.data.toList.drop p) := (start_pos _ hs).1
  have hN2 : p + n3 (b.data.toList.drop p) ≤ b.size := by
    have := n3_le (b.data.toList.drop p)
    rw [List.length_drop, ← size_data] at this; omega
  simp only [] at mo
  generalize n3 (b.data.toList.drop p) = N at *
  generalize dec (b.data.toList.drop p) = D at *
  clear hs
  have hx1 : (p : Int) < (p : Int) + (N : Int) := by omega
  cases D
  all_goals
    simp only [kind, Bool.false_eq_true, if_true, if_false] at sc1
    go_enter Try.func7, Try.ntmps7
    go_wp2_with (first
      | (go_at_call 20; refine (bytes20_yes _ _ _ h).mono ?_; rintro e w' ⟨rfl, rfl⟩)
      | (go_at_call 21; refine st.mono ?_; rintro e w' ⟨rfl, rfl⟩)
      | (go_at_call 22; refine sc1.mono ?_; rintro e w' ⟨rfl, m1, rfl⟩)
      | (go_at_call 23; refine (mo _).mono ?_; rintro e w' ⟨rfl, rfl⟩))
    go_ret
    exact ⟨rfl, grown7 _ _ _ _⟩

theorem law7_all (b : ByteArray) (f : Int) (w : World) : Calls Try.prog 7 #[.string b, .int .i64 f] w fun e w' => e = .returned (.bool true) ∧ Grown w w' := by
  by_cases h : (b.size : Int) ≤ 1048576
  · by_cases h2 : (b.size : Int) ≤ 65536
    · by_cases h3 : 0 ≤ f ∧ f < b.size
      · obtain ⟨p, rfl⟩ := Int.eq_ofNat_of_zero_le h3.1
        have hp : p < b.size := by omega
        cases hs : Num.start (b.data.toList.drop p) with
        | true => exact law7_main b p w h2 hp hs
        | false => exact law7_nostart b p w h2 hp hs
      · exact law7_out b f w h2 (by omega)
    · exact law7_mid b f w h (by omega)
  · exact law7_skip b f w (by omega)
end Go.Proofs.Qxb6601015a
