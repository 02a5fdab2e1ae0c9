import Derived.Test.Qxb6601015aScan2
import Derived.LoopTactic
import Derived.Deep.LoopGhost
namespace Go.Proofs.Qxb6601015a
open Go.RowKit Num

theorem auto_next (s : ByteArray) (k st e : Nat) (d : Bool) (T : Nat × Bool) (st' : Nat) (hlt : k < s.size) (h : auto st k e d (s.data.toList.drop k) = T) (h8 : st' ≠ 8) (hs : Num.step st s[k] = st') :
    auto st' (k + 1) (upd st' k e d).1 (upd st' k e d).2 (s.data.toList.drop (k + 1)) = T := by
  rw [at_get s k hlt] at h
  simp only [auto, hs, if_neg h8] at h
  exact h
theorem auto_stop (s : ByteArray) (k st e : Nat) (d : Bool) (T : Nat × Bool) (hlt : k < s.size) (h : auto st k e d (s.data.toList.drop k) = T) (hs : Num.step st s[k] = 8) : (e, d) = T := by
  rw [at_get s k hlt] at h
  simpa only [auto, hs, if_true] using h
theorem auto_end (s : ByteArray) (k st e : Nat) (d : Bool) (T : Nat × Bool) (hlt : s.size ≤ k) (h : auto st k e d (s.data.toList.drop k) = T) : (e, d) = T := by
  rw [at_end s k hlt] at h
  exact h

theorem stp0 (c : UInt8) : Num.step 0 c = if dig c then 1 else if ((c.toNat : Int) == 46) then 2 else 8 := by rw [show ((c.toNat : Int) == 46) = (c.toNat == 46) from beq_cast _ 46]; rfl
theorem stp1 (c : UInt8) : Num.step 1 c = if dig c then 1 else if ((c.toNat : Int) == 46) then 3 else if (((c.toNat : Int) == 101) || ((c.toNat : Int) == 69)) then 5 else 8 := by rw [show ((c.toNat : Int) == 46) = (c.toNat == 46) from beq_cast _ 46, ← expo_int]; rfl
theorem stp2 (c : UInt8) : Num.step 2 c = if dig c then 4 else 8 := rfl
theorem stp3 (c : UInt8) : Num.step 3 c = if dig c then 4 else if (((c.toNat : Int) == 101) || ((c.toNat : Int) == 69)) then 5 else 8 := by rw [← expo_int]; rfl
theorem stp4 (c : UInt8) : Num.step 4 c = if dig c then 4 else if (((c.toNat : Int) == 101) || ((c.toNat : Int) == 69)) then 5 else 8 := by rw [← expo_int]; rfl
theorem stp5 (c : UInt8) : Num.step 5 c = if dig c then 7 else if (((c.toNat : Int) == 43) || ((c.toNat : Int) == 45)) then 6 else 8 := by rw [← sgn_int]; rfl
theorem stp6 (c : UInt8) : Num.step 6 c = if dig c then 7 else 8 := rfl
theorem stp7 (c : UInt8) : Num.step 7 c = if dig c then 7 else 8 := rfl

set_option maxRecDepth 100000 in
set_option maxHeartbeats 8000000 in
/-- zzSynNumberModel (function 23). -/
theorem model_any (w : World) (s : ByteArray) (p : Nat) (T : Nat × Bool) (hT : auto 0 p p false (s.data.toList.drop p) = T) (hp : p ≤ s.size) (hs : s.size ≤ 1048576) :
    Calls Try.prog 23 #[.string s, .int .i64 (p : Int)] w fun e w' => e = .returned (.tuple #[.int .i64 ((T.1 : Nat) : Int), .bool T.2]) ∧ w = w' := by
  have HT := hide hT
  clear hT
  go_enter Try.func23, Try.ntmps23
  go_wp2
  go_loopg [6, 7, 8, 9] (s.size - p) (fun g t6 t7 t8 t9 wr => ∃ (st k e : Nat) (d : Bool), st ≤ 7 ∧ p ≤ k ∧ k ≤ s.size ∧ e ≤ k ∧ g = s.size - k ∧ t6 = .int .i64 (st : Int) ∧ t7 = .int .i64 (e : Int) ∧ t8 = .bool d ∧ t9 = .int .i64 (k : Int) ∧ Hid (auto st k e d (s.data.toList.drop k) = T) ∧ w = wr)
  case atStart => exact ⟨0, p, p, false, by omega, by omega, hp, by omega, rfl, rfl, rfl, rfl, rfl, HT, rfl⟩
  case round =>
    obtain ⟨st, k, e, d, h1, h2, h3, h4, hg, rfl, rfl, rfl, rfl, ha, rfl⟩ := hrel
    clear HT
    by_cases hlt : k < s.size
    · have hlt' : (k : Int) < (s.size : Int) := by omega
      have hst : st = 0 ∨ st = 1 ∨ st = 2 ∨ st = 3 ∨ st = 4 ∨ st = 5 ∨ st = 6 ∨ st = 7 := by omega
      clear h1
      rcases hst with rfl | rfl | rfl | rfl | rfl | rfl | rfl | rfl
      · cases hd : dig s[k] with
        | true =>
          have dg := fun wx => (synDigit_any s[k] wx).mono fun _ _ h => (⟨h.1, h.2.symm⟩ : _ ∧ _)
          rw [hd] at dg
          have Hs : Hid (auto 1 (k + 1) (k + 1) false (s.data.toList.drop (k + 1)) = T) := auto_next s k 0 e d T 1 hlt ha.out (by decide) (by rw [stp0, hd]; rfl)
          go_wp2_with (go_at_call 25; refine (dg _).mono ?_; rintro e w' ⟨rfl, rfl⟩)
          go_roundg (s.size - (k + 1))
          case measure => omega
          case rel => exact ⟨1, k + 1, (k + 1), false, by omega, by omega, by omega, by omega, rfl, rfl, by first | rfl | go_num, rfl, by go_num, Hs, rfl⟩
        | false =>
          have dg := fun wx => (synDigit_any s[k] wx).mono fun _ _ h => (⟨h.1, h.2.symm⟩ : _ ∧ _)
          rw [hd] at dg
          cases h46 : ((s[k].toNat : Int) == 46) with
          | true =>
            have Hs : Hid (auto 2 (k + 1) e d (s.data.toList.drop (k + 1)) = T) := auto_next s k 0 e d T 2 hlt ha.out (by decide) (by rw [stp0, hd, h46]; rfl)
            go_wp2_with (go_at_call 25; refine (dg _).mono ?_; rintro e w' ⟨rfl, rfl⟩)
            go_roundg (s.size - (k + 1))
            case measure => omega
            case rel => exact ⟨2, k + 1, e, d, by omega, by omega, by omega, by omega, rfl, rfl, by first | rfl | go_num, rfl, by go_num, Hs, rfl⟩
          | false =>
            have Hs : Hid ((e, d) = T) := auto_stop s k 0 e d T hlt ha.out (by rw [stp0, hd, h46]; rfl)
            go_wp2_with (go_at_call 25; refine (dg _).mono ?_; rintro e w' ⟨rfl, rfl⟩)
            go_ret2
            exact ⟨by rw [← Hs.out]; rfl, rfl⟩
      · cases hd : dig s[k] with
        | true =>
          have dg := fun wx => (synDigit_any s[k] wx).mono fun _ _ h => (⟨h.1, h.2.symm⟩ : _ ∧ _)
          rw [hd] at dg
          have Hs : Hid (auto 1 (k + 1) (k + 1) false (s.data.toList.drop (k + 1)) = T) := auto_next s k 1 e d T 1 hlt ha.out (by decide) (by rw [stp1, hd]; rfl)
          go_wp2_with (go_at_call 25; refine (dg _).mono ?_; rintro e w' ⟨rfl, rfl⟩)
          go_roundg (s.size - (k + 1))
          case measure => omega
          case rel => exact ⟨1, k + 1, (k + 1), false, by omega, by omega, by omega, by omega, rfl, rfl, by first | rfl | go_num, rfl, by go_num, Hs, rfl⟩
        | false =>
          have dg := fun wx => (synDigit_any s[k] wx).mono fun _ _ h => (⟨h.1, h.2.symm⟩ : _ ∧ _)
          rw [hd] at dg
          cases h46 : ((s[k].toNat : Int) == 46) with
          | true =>
            have Hs : Hid (auto 3 (k + 1) (k + 1) true (s.data.toList.drop (k + 1)) = T) := auto_next s k 1 e d T 3 hlt ha.out (by decide) (by rw [stp1, hd, h46]; rfl)
            go_wp2_with (go_at_call 25; refine (dg _).mono ?_; rintro e w' ⟨rfl, rfl⟩)
            go_roundg (s.size - (k + 1))
            case measure => omega
            case rel => exact ⟨3, k + 1, (k + 1), true, by omega, by omega, by omega, by omega, rfl, rfl, by first | rfl | go_num, rfl, by go_num, Hs, rfl⟩
          | false =>
            cases h101 : ((s[k].toNat : Int) == 101) with
            | true =>
              have Hs : Hid (auto 5 (k + 1) e d (s.data.toList.drop (k + 1)) = T) := auto_next s k 1 e d T 5 hlt ha.out (by decide) (by rw [stp1, hd, h46, h101]; rfl)
              go_wp2_with (go_at_call 25; refine (dg _).mono ?_; rintro e w' ⟨rfl, rfl⟩)
              go_roundg (s.size - (k + 1))
              case measure => omega
              case rel => exact ⟨5, k + 1, e, d, by omega, by omega, by omega, by omega, rfl, rfl, by first | rfl | go_num, rfl, by go_num, Hs, rfl⟩
            | false =>
              cases h69 : ((s[k].toNat : Int) == 69) with
              | true =>
                have Hs : Hid (auto 5 (k + 1) e d (s.data.toList.drop (k + 1)) = T) := auto_next s k 1 e d T 5 hlt ha.out (by decide) (by rw [stp1, hd, h46, h101, h69]; rfl)
                go_wp2_with (go_at_call 25; refine (dg _).mono ?_; rintro e w' ⟨rfl, rfl⟩)
                go_roundg (s.size - (k + 1))
                case measure => omega
                case rel => exact ⟨5, k + 1, e, d, by omega, by omega, by omega, by omega, rfl, rfl, by first | rfl | go_num, rfl, by go_num, Hs, rfl⟩
              | false =>
                have Hs : Hid ((e, d) = T) := auto_stop s k 1 e d T hlt ha.out (by rw [stp1, hd, h46, h101, h69]; rfl)
                go_wp2_with (go_at_call 25; refine (dg _).mono ?_; rintro e w' ⟨rfl, rfl⟩)
                go_ret2
                exact ⟨by rw [← Hs.out]; rfl, rfl⟩
      · cases hd : dig s[k] with
        | true =>
          have dg := fun wx => (synDigit_any s[k] wx).mono fun _ _ h => (⟨h.1, h.2.symm⟩ : _ ∧ _)
          rw [hd] at dg
          have Hs : Hid (auto 4 (k + 1) (k + 1) true (s.data.toList.drop (k + 1)) = T) := auto_next s k 2 e d T 4 hlt ha.out (by decide) (by rw [stp2, hd]; rfl)
          go_wp2_with (go_at_call 25; refine (dg _).mono ?_; rintro e w' ⟨rfl, rfl⟩)
          go_roundg (s.size - (k + 1))
          case measure => omega
          case rel => exact ⟨4, k + 1, (k + 1), true, by omega, by omega, by omega, by omega, rfl, rfl, by first | rfl | go_num, rfl, by go_num, Hs, rfl⟩
        | false =>
          have dg := fun wx => (synDigit_any s[k] wx).mono fun _ _ h => (⟨h.1, h.2.symm⟩ : _ ∧ _)
          rw [hd] at dg
          have Hs : Hid ((e, d) = T) := auto_stop s k 2 e d T hlt ha.out (by rw [stp2, hd]; rfl)
          go_wp2_with (go_at_call 25; refine (dg _).mono ?_; rintro e w' ⟨rfl, rfl⟩)
          go_ret2
          exact ⟨by rw [← Hs.out]; rfl, rfl⟩
      · cases hd : dig s[k] with
        | true =>
          have dg := fun wx => (synDigit_any s[k] wx).mono fun _ _ h => (⟨h.1, h.2.symm⟩ : _ ∧ _)
          rw [hd] at dg
          have Hs : Hid (auto 4 (k + 1) (k + 1) true (s.data.toList.drop (k + 1)) = T) := auto_next s k 3 e d T 4 hlt ha.out (by decide) (by rw [stp3, hd]; rfl)
          go_wp2_with (go_at_call 25; refine (dg _).mono ?_; rintro e w' ⟨rfl, rfl⟩)
          go_roundg (s.size - (k + 1))
          case measure => omega
          case rel => exact ⟨4, k + 1, (k + 1), true, by omega, by omega, by omega, by omega, rfl, rfl, by first | rfl | go_num, rfl, by go_num, Hs, rfl⟩
        | false =>
          have dg := fun wx => (synDigit_any s[k] wx).mono fun _ _ h => (⟨h.1, h.2.symm⟩ : _ ∧ _)
          rw [hd] at dg
          cases h101 : ((s[k].toNat : Int) == 101) with
          | true =>
            have Hs : Hid (auto 5 (k + 1) e d (s.data.toList.drop (k + 1)) = T) := auto_next s k 3 e d T 5 hlt ha.out (by decide) (by rw [stp3, hd, h101]; rfl)
            go_wp2_with (go_at_call 25; refine (dg _).mono ?_; rintro e w' ⟨rfl, rfl⟩)
            go_roundg (s.size - (k + 1))
            case measure => omega
            case rel => exact ⟨5, k + 1, e, d, by omega, by omega, by omega, by omega, rfl, rfl, by first | rfl | go_num, rfl, by go_num, Hs, rfl⟩
          | false =>
            cases h69 : ((s[k].toNat : Int) == 69) with
            | true =>
              have Hs : Hid (auto 5 (k + 1) e d (s.data.toList.drop (k + 1)) = T) := auto_next s k 3 e d T 5 hlt ha.out (by decide) (by rw [stp3, hd, h101, h69]; rfl)
              go_wp2_with (go_at_call 25; refine (dg _).mono ?_; rintro e w' ⟨rfl, rfl⟩)
              go_roundg (s.size - (k + 1))
              case measure => omega
              case rel => exact ⟨5, k + 1, e, d, by omega, by omega, by omega, by omega, rfl, rfl, by first | rfl | go_num, rfl, by go_num, Hs, rfl⟩
            | false =>
              have Hs : Hid ((e, d) = T) := auto_stop s k 3 e d T hlt ha.out (by rw [stp3, hd, h101, h69]; rfl)
              go_wp2_with (go_at_call 25; refine (dg _).mono ?_; rintro e w' ⟨rfl, rfl⟩)
              go_ret2
              exact ⟨by rw [← Hs.out]; rfl, rfl⟩
      · cases hd : dig s[k] with
        | true =>
          have dg := fun wx => (synDigit_any s[k] wx).mono fun _ _ h => (⟨h.1, h.2.symm⟩ : _ ∧ _)
          rw [hd] at dg
          have Hs : Hid (auto 4 (k + 1) (k + 1) true (s.data.toList.drop (k + 1)) = T) := auto_next s k 4 e d T 4 hlt ha.out (by decide) (by rw [stp4, hd]; rfl)
          go_wp2_with (go_at_call 25; refine (dg _).mono ?_; rintro e w' ⟨rfl, rfl⟩)
          go_roundg (s.size - (k + 1))
          case measure => omega
          case rel => exact ⟨4, k + 1, (k + 1), true, by omega, by omega, by omega, by omega, rfl, rfl, by first | rfl | go_num, rfl, by go_num, Hs, rfl⟩
        | false =>
          have dg := fun wx => (synDigit_any s[k] wx).mono fun _ _ h => (⟨h.1, h.2.symm⟩ : _ ∧ _)
          rw [hd] at dg
          cases h101 : ((s[k].toNat : Int) == 101) with
          | true =>
            have Hs : Hid (auto 5 (k + 1) e d (s.data.toList.drop (k + 1)) = T) := auto_next s k 4 e d T 5 hlt ha.out (by decide) (by rw [stp4, hd, h101]; rfl)
            go_wp2_with (go_at_call 25; refine (dg _).mono ?_; rintro e w' ⟨rfl, rfl⟩)
            go_roundg (s.size - (k + 1))
            case measure => omega
            case rel => exact ⟨5, k + 1, e, d, by omega, by omega, by omega, by omega, rfl, rfl, by first | rfl | go_num, rfl, by go_num, Hs, rfl⟩
          | false =>
            cases h69 : ((s[k].toNat : Int) == 69) with
            | true =>
              have Hs : Hid (auto 5 (k + 1) e d (s.data.toList.drop (k + 1)) = T) := auto_next s k 4 e d T 5 hlt ha.out (by decide) (by rw [stp4, hd, h101, h69]; rfl)
              go_wp2_with (go_at_call 25; refine (dg _).mono ?_; rintro e w' ⟨rfl, rfl⟩)
              go_roundg (s.size - (k + 1))
              case measure => omega
              case rel => exact ⟨5, k + 1, e, d, by omega, by omega, by omega, by omega, rfl, rfl, by first | rfl | go_num, rfl, by go_num, Hs, rfl⟩
            | false =>
              have Hs : Hid ((e, d) = T) := auto_stop s k 4 e d T hlt ha.out (by rw [stp4, hd, h101, h69]; rfl)
              go_wp2_with (go_at_call 25; refine (dg _).mono ?_; rintro e w' ⟨rfl, rfl⟩)
              go_ret2
              exact ⟨by rw [← Hs.out]; rfl, rfl⟩
      · cases hd : dig s[k] with
        | true =>
          have dg := fun wx => (synDigit_any s[k] wx).mono fun _ _ h => (⟨h.1, h.2.symm⟩ : _ ∧ _)
          rw [hd] at dg
          have Hs : Hid (auto 7 (k + 1) (k + 1) true (s.data.toList.drop (k + 1)) = T) := auto_next s k 5 e d T 7 hlt ha.out (by decide) (by rw [stp5, hd]; rfl)
          go_wp2_with (go_at_call 25; refine (dg _).mono ?_; rintro e w' ⟨rfl, rfl⟩)
          go_roundg (s.size - (k + 1))
          case measure => omega
          case rel => exact ⟨7, k + 1, (k + 1), true, by omega, by omega, by omega, by omega, rfl, rfl, by first | rfl | go_num, rfl, by go_num, Hs, rfl⟩
        | false =>
          have dg := fun wx => (synDigit_any s[k] wx).mono fun _ _ h => (⟨h.1, h.2.symm⟩ : _ ∧ _)
          rw [hd] at dg
          cases h43 : ((s[k].toNat : Int) == 43) with
          | true =>
            have Hs : Hid (auto 6 (k + 1) e d (s.data.toList.drop (k + 1)) = T) := auto_next s k 5 e d T 6 hlt ha.out (by decide) (by rw [stp5, hd, h43]; rfl)
            go_wp2_with (go_at_call 25; refine (dg _).mono ?_; rintro e w' ⟨rfl, rfl⟩)
            go_roundg (s.size - (k + 1))
            case measure => omega
            case rel => exact ⟨6, k + 1, e, d, by omega, by omega, by omega, by omega, rfl, rfl, by first | rfl | go_num, rfl, by go_num, Hs, rfl⟩
          | false =>
            cases h45 : ((s[k].toNat : Int) == 45) with
            | true =>
              have Hs : Hid (auto 6 (k + 1) e d (s.data.toList.drop (k + 1)) = T) := auto_next s k 5 e d T 6 hlt ha.out (by decide) (by rw [stp5, hd, h43, h45]; rfl)
              go_wp2_with (go_at_call 25; refine (dg _).mono ?_; rintro e w' ⟨rfl, rfl⟩)
              go_roundg (s.size - (k + 1))
              case measure => omega
              case rel => exact ⟨6, k + 1, e, d, by omega, by omega, by omega, by omega, rfl, rfl, by first | rfl | go_num, rfl, by go_num, Hs, rfl⟩
            | false =>
              have Hs : Hid ((e, d) = T) := auto_stop s k 5 e d T hlt ha.out (by rw [stp5, hd, h43, h45]; rfl)
              go_wp2_with (go_at_call 25; refine (dg _).mono ?_; rintro e w' ⟨rfl, rfl⟩)
              go_ret2
              exact ⟨by rw [← Hs.out]; rfl, rfl⟩
      · cases hd : dig s[k] with
        | true =>
          have dg := fun wx => (synDigit_any s[k] wx).mono fun _ _ h => (⟨h.1, h.2.symm⟩ : _ ∧ _)
          rw [hd] at dg
          have Hs : Hid (auto 7 (k + 1) (k + 1) true (s.data.toList.drop (k + 1)) = T) := auto_next s k 6 e d T 7 hlt ha.out (by decide) (by rw [stp6, hd]; rfl)
          go_wp2_with (go_at_call 25; refine (dg _).mono ?_; rintro e w' ⟨rfl, rfl⟩)
          go_roundg (s.size - (k + 1))
          case measure => omega
          case rel => exact ⟨7, k + 1, (k + 1), true, by omega, by omega, by omega, by omega, rfl, rfl, by first | rfl | go_num, rfl, by go_num, Hs, rfl⟩
        | false =>
          have dg := fun wx => (synDigit_any s[k] wx).mono fun _ _ h => (⟨h.1, h.2.symm⟩ : _ ∧ _)
          rw [hd] at dg
          have Hs : Hid ((e, d) = T) := auto_stop s k 6 e d T hlt ha.out (by rw [stp6, hd]; rfl)
          go_wp2_with (go_at_call 25; refine (dg _).mono ?_; rintro e w' ⟨rfl, rfl⟩)
          go_ret2
          exact ⟨by rw [← Hs.out]; rfl, rfl⟩
      · cases hd : dig s[k] with
        | true =>
          have dg := fun wx => (synDigit_any s[k] wx).mono fun _ _ h => (⟨h.1, h.2.symm⟩ : _ ∧ _)
          rw [hd] at dg
          have Hs : Hid (auto 7 (k + 1) (k + 1) true (s.data.toList.drop (k + 1)) = T) := auto_next s k 7 e d T 7 hlt ha.out (by decide) (by rw [stp7, hd]; rfl)
          go_wp2_with (go_at_call 25; refine (dg _).mono ?_; rintro e w' ⟨rfl, rfl⟩)
          go_roundg (s.size - (k + 1))
          case measure => omega
          case rel => exact ⟨7, k + 1, (k + 1), true, by omega, by omega, by omega, by omega, rfl, rfl, by first | rfl | go_num, rfl, by go_num, Hs, rfl⟩
        | false =>
          have dg := fun wx => (synDigit_any s[k] wx).mono fun _ _ h => (⟨h.1, h.2.symm⟩ : _ ∧ _)
          rw [hd] at dg
          have Hs : Hid ((e, d) = T) := auto_stop s k 7 e d T hlt ha.out (by rw [stp7, hd]; rfl)
          go_wp2_with (go_at_call 25; refine (dg _).mono ?_; rintro e w' ⟨rfl, rfl⟩)
          go_ret2
          exact ⟨by rw [← Hs.out]; rfl, rfl⟩
    · have Hs : Hid ((e, d) = T) := auto_end s k st e d T (by omega) ha.out
      go_wp2
      go_ret2
      exact ⟨by rw [← Hs.out]; rfl, rfl⟩
end Go.Proofs.Qxb6601015a
