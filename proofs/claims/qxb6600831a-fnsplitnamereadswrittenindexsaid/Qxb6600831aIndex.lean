import Derived.Test.Qxb6600831aSplitAll
import Derived.LoopTactic
namespace Go.Proofs.Qxb6600831a
open Go.RowKit Spl

theorem hide {p : Prop} (h : p) : Hid p := h

theorem at_u8 (s : ByteArray) (k : Nat) (h : k < s.size) (c : UInt8) : s.data.toList[k]? = some c ↔ ((s[k].toNat : Int) = (c.toNat : Int)) := by
  have e : s.data.toList[k]? = some s[k] := by rw [Array.getElem?_toList]; exact Array.getElem?_eq_getElem h
  rw [e, Option.some.injEq, ← UInt8.toNat_inj]; omega

/-- What indexOf(s, c) answers. -/
def Idx (l : List UInt8) (c : UInt8) (r : Int) : Prop := (r < 0 ∧ ∀ j : Nat, l[j]? ≠ some c) ∨ (0 ≤ r ∧ ∃ j : Nat, l[j]? = some c)

set_option maxHeartbeats 400000 in
theorem indexOf_any (s : ByteArray) (w : World) (hs : s.size ≤ 1048576) :
    Calls Try.prog 10 #[.string s, .int .u8 91] w fun e w' => ∃ r : Int, e = .returned (.int .i64 r) ∧ w = w' ∧ Idx s.data.toList 91 r := by
  go_enter Try.func10, Try.ntmps10
  go_wp2
  go_loop [5] (fun i => ∃ k : Nat, k ≤ s.size ∧ i = .int .i64 k ∧ Hid (∀ j : Nat, j < k → s.data.toList[j]? ≠ some 91)) (fun i => s.size - (intOf i).toNat)
  case atStart => exact ⟨0, Nat.zero_le _, rfl, hide (fun j hj => absurd hj (Nat.not_lt_zero _))⟩
  case round =>
    obtain ⟨k, hk, rfl, hno⟩ := hrel
    by_cases hlt : k < s.size
    · go_wp2
      · have hc : ((s[k].toNat : Int) == 91) = true := by assumption
        go_ret
        exact ⟨_, rfl, rfl, .inr ⟨by omega, k, (at_u8 s k hlt 91).2 (by simpa using hc)⟩⟩
      · have hc : ((s[k].toNat : Int) == 91) = false := by assumption
        go_round
        case rel =>
          refine ⟨k + 1, by omega, by go_num, hide (fun j hj => ?_)⟩
          by_cases e : j = k
          · subst e; intro h; have := (at_u8 s j hlt 91).1 h; rw [beq_eq_false_iff_ne] at hc; exact hc this
          · exact hno.out j (by omega)
        case measure => simp [intOf]; omega
    · go_wp2
      go_ret
      refine ⟨_, rfl, rfl, .inl ⟨by omega, fun j h => ?_⟩⟩
      obtain ⟨hl, _⟩ := List.getElem?_eq_some_iff.1 h
      rw [← size_data] at hl
      exact hno.out j (by omega) h

/-- What quotedReading(name) answers. -/
def QRet (s : ByteArray) (w : World) (e : Ending) (w' : World) : Prop :=
  (∃ q, Quo s.data.toList q ∧ e = .returned (.tuple #[.string (s.extract 0 q), .string (s.extract (q + 2) (s.size - 2)), .bool true]) ∧ ∃ n, w' = w.drewN n) ∨
  ((∀ q, ¬ Quo s.data.toList q) ∧ e = .returned (.tuple #[.string ⟨#[]⟩, .string ⟨#[]⟩, .bool false]) ∧ ∃ n, w' = w.drewN n)

theorem u8_bne {v : UInt8} {c : Int} {b : Bool} (h : ((v.toNat : Int) != c) = b) : b = false ↔ (v.toNat : Int) = c := by
  subst h; simp

theorem quoted_short (s : ByteArray) (w : World) (h4 : s.size < 4) : Calls Try.prog 11 #[.string s] w (QRet s w) := by
  have h4' : (s.size : Int) < 4 := by omega
  go_enter Try.func11, Try.ntmps11
  go_wp2
  go_ret3
  refine .inr ⟨fun q h => ?_, rfl, 0, rfl⟩
  have := h.len; rw [← size_data] at this; omega

theorem quoted_noclose (s : ByteArray) (w : World) (hs : s.size ≤ 1048576) (h4 : 4 ≤ s.size) (hc : (((s[s.size - 1]'(by omega)).toNat : Int) != 93) = true) : Calls Try.prog 11 #[.string s] w (QRet s w) := by
  have h4' : (4 : Int) ≤ s.size := by omega
  have hfin : ∀ q, ¬ Quo s.data.toList q := fun q h => by
    have := h.close
    rw [← size_data, at_u8 s _ (by omega)] at this
    rw [bne_iff_ne] at hc
    exact hc this
  have H : Hid (∀ q, ¬ Quo s.data.toList q) := hfin
  clear hfin
  go_enter Try.func11, Try.ntmps11
  go_wp2
  go_ret3
  exact .inr ⟨H, rfl, 0, rfl⟩

theorem quoted_noquote (s : ByteArray) (w : World) (hs : s.size ≤ 1048576) (h4 : 4 ≤ s.size) (hc : (((s[s.size - 1]'(by omega)).toNat : Int) != 93) = false) (hq : (((s[s.size - 2]'(by omega)).toNat : Int) != 34) = true) : Calls Try.prog 11 #[.string s] w (QRet s w) := by
  have h4' : (4 : Int) ≤ s.size := by omega
  have hfin : ∀ q, ¬ Quo s.data.toList q := fun q h => by
    have := h.quote
    rw [← size_data, at_u8 s _ (by omega)] at this
    rw [bne_iff_ne] at hq
    exact hq this
  have H : Hid (∀ q, ¬ Quo s.data.toList q) := hfin
  clear hfin
  go_enter Try.func11, Try.ntmps11
  go_wp2
  go_ret3
  exact .inr ⟨H, rfl, 0, rfl⟩

set_option maxHeartbeats 1000000 in
theorem quoted_loop (s : ByteArray) (w : World) (hs : s.size ≤ 1048576) (h4 : 4 ≤ s.size) (hc : (((s[s.size - 1]'(by omega)).toNat : Int) != 93) = false) (hq : (((s[s.size - 2]'(by omega)).toNat : Int) != 34) = false) : Calls Try.prog 11 #[.string s] w (QRet s w) := by
  have h4' : (4 : Int) ≤ s.size := by omega
  have Hc : Hid (s.data.toList[s.data.toList.length - 1]? = some 93 ∧ s.data.toList[s.data.toList.length - 2]? = some 34) := by
    refine ⟨?_, ?_⟩
    · rw [← size_data, at_u8 s _ (by omega)]; exact (u8_bne hc).1 rfl
    · rw [← size_data, at_u8 s _ (by omega)]; exact (u8_bne hq).1 rfl
  go_enter Try.func11, Try.ntmps11
  go_wp2
  go_loop [6, 7] (fun q i => ∃ z : Int, -1 ≤ z ∧ z + 3 ≤ s.size ∧ i = .int .i64 z ∧ q = .int .i64 (-1) ∧ Hid (∀ j : Nat, z < j → j + 2 < s.size → ¬ (s.data.toList[j]? = some 91 ∧ s.data.toList[j + 1]? = some 34))) (fun _ i => (intOf i + 1).toNat)
  case atStart => exact ⟨_, by omega, by omega, rfl, rfl, hide (fun j h1 h2 => by omega)⟩
  case round =>
    obtain ⟨z, hz1, hz2, rfl, rfl, hno⟩ := hrel
    by_cases hz : 0 ≤ z
    · obtain ⟨k, rfl⟩ := Int.eq_ofNat_of_zero_le hz
      have hk : k + 3 ≤ s.size := by omega
      by_cases hp1 : ((s[k].toNat : Int) == 91) = true
      · by_cases hp2 : ((s[k + 1].toNat : Int) == 34) = true
        · have hpair : Hid (s.data.toList[k]? = some 91 ∧ s.data.toList[k + 1]? = some 34) :=
            ⟨(at_u8 s k (by omega) 91).2 (by simpa using hp1), (at_u8 s (k + 1) (by omega) 34).2 (by simpa using hp2)⟩
          by_cases hin : k + 4 ≤ s.size
          · have hin' : (k : Int) + 2 ≤ (s.size : Int) - 2 := by omega
            go_wp2
            go_quiet (fail)
            go_wp2
            go_ret3
            refine .inl ⟨k, ⟨by rw [← size_data]; exact hin, Hc.out.1, Hc.out.2, hpair.out.1, hpair.out.2, fun j h1 h2 => ?_⟩, rfl, _, rfl⟩
            rw [← size_data] at h2
            exact hno.out j (by omega) h2
          · have hin' : (s.size : Int) - 2 < (k : Int) + 2 := by omega
            go_wp2
            go_ret3
            refine .inr ⟨fun q h => ?_, rfl, 0, rfl⟩
            have hl := h.len
            rw [← size_data] at hl
            refine h.last k (by omega) (by rw [← size_data]; omega) hpair.out
        · have hp2' : ((s[k + 1].toNat : Int) == 34) = false := by simpa using hp2
          have hnp : Hid (¬ (s.data.toList[k]? = some 91 ∧ s.data.toList[k + 1]? = some 34)) := fun h => hp2 (by have := (at_u8 s (k + 1) (by omega) 34).1 h.2; simpa using this)
          clear hp2
          go_wp2
          go_round
          case rel =>
            refine ⟨_, by omega, by omega, rfl, rfl, hide (fun j h1 h2 => ?_)⟩
            by_cases e : j = k
            · subst e; exact hnp
            · exact hno.out j (by omega) h2
          case measure => simp [intOf]
      · have hp1' : ((s[k].toNat : Int) == 91) = false := by simpa using hp1
        have hnp : Hid (¬ (s.data.toList[k]? = some 91 ∧ s.data.toList[k + 1]? = some 34)) := fun h => hp1 (by have := (at_u8 s k (by omega) 91).1 h.1; simpa using this)
        clear hp1
        go_wp2
        go_round
        case rel =>
          refine ⟨_, by omega, by omega, rfl, rfl, hide (fun j h1 h2 => ?_)⟩
          by_cases e : j = k
          · subst e; exact hnp
          · exact hno.out j (by omega) h2
        case measure => simp [intOf]
    · go_wp2
      go_ret3
      refine .inr ⟨fun q h => ?_, rfl, 0, rfl⟩
      have hl := h.len
      rw [← size_data] at hl
      exact hno.out q (by omega) (by omega) ⟨h.here, h.next⟩

theorem quoted_any (s : ByteArray) (w : World) (hs : s.size ≤ 1048576) : Calls Try.prog 11 #[.string s] w (QRet s w) := by
  by_cases h4 : 4 ≤ s.size
  · cases hc : (((s[s.size - 1]'(by omega)).toNat : Int) != 93) with
    | true => exact quoted_noclose s w hs h4 hc
    | false =>
      cases hq : (((s[s.size - 2]'(by omega)).toNat : Int) != 34) with
      | true => exact quoted_noquote s w hs h4 hc hq
      | false => exact quoted_loop s w hs h4 hc hq
  · exact quoted_short s w (by omega)

/-- What containsPair(s, bracket, quote) answers. -/
def PRet (s : ByteArray) (w : World) (e : Ending) (w' : World) : Prop :=
  ∃ r : Bool, e = .returned (.bool r) ∧ w = w' ∧ (r = false → ∀ j : Nat, ¬ (s.data.toList[j]? = some 91 ∧ s.data.toList[j + 1]? = some 34))

set_option maxHeartbeats 1000000 in
theorem pair_any (s : ByteArray) (w : World) (hs : s.size ≤ 1048576) : Calls Try.prog 13 #[.string s, .int .u8 91, .int .u8 34] w (PRet s w) := by
  go_enter Try.func13, Try.ntmps13
  go_wp2
  go_loop [7] (fun i => ∃ k : Nat, k ≤ s.size ∧ i = .int .i64 k ∧ Hid (∀ j : Nat, j < k → ¬ (s.data.toList[j]? = some 91 ∧ s.data.toList[j + 1]? = some 34))) (fun i => s.size - (intOf i).toNat)
  case atStart => exact ⟨0, Nat.zero_le _, rfl, hide (fun j hj => absurd hj (Nat.not_lt_zero _))⟩
  case round =>
    obtain ⟨k, hk, rfl, hno⟩ := hrel
    by_cases hlt : k + 1 < s.size
    · by_cases hp1 : ((s[k].toNat : Int) == 91) = true
      · by_cases hp2 : ((s[k + 1].toNat : Int) == 34) = true
        · go_wp2
          go_ret
          exact ⟨true, rfl, rfl, fun h => by cases h⟩
        · have hp2' : ((s[k + 1].toNat : Int) == 34) = false := by simpa using hp2
          have hnp : Hid (¬ (s.data.toList[k]? = some 91 ∧ s.data.toList[k + 1]? = some 34)) := fun h => hp2 (by have := (at_u8 s (k + 1) (by omega) 34).1 h.2; simpa using this)
          clear hp2
          go_wp2
          go_round
          case rel =>
            refine ⟨k + 1, by omega, by go_num, hide (fun j h1 => ?_)⟩
            by_cases e : j = k
            · subst e; exact hnp
            · exact hno.out j (by omega)
          case measure => simp [intOf]; omega
      · have hp1' : ((s[k].toNat : Int) == 91) = false := by simpa using hp1
        have hnp : Hid (¬ (s.data.toList[k]? = some 91 ∧ s.data.toList[k + 1]? = some 34)) := fun h => hp1 (by have := (at_u8 s k (by omega) 91).1 h.1; simpa using this)
        clear hp1
        go_wp2
        go_round
        case rel =>
          refine ⟨k + 1, by omega, by go_num, hide (fun j h1 => ?_)⟩
          by_cases e : j = k
          · subst e; exact hnp
          · exact hno.out j (by omega)
        case measure => simp [intOf]; omega
    · go_wp2
      go_ret
      refine ⟨false, rfl, rfl, fun _ j h => ?_⟩
      obtain ⟨hl, _⟩ := List.getElem?_eq_some_iff.1 h.2
      rw [← size_data] at hl
      exact hno.out j (by omega) h
end Go.Proofs.Qxb6600831a
