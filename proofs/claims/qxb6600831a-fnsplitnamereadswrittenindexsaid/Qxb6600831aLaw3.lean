import Derived.Test.Qxb6600831aIndex
import Derived.Test.Qxb6600831aLaw5
namespace Go.Proofs.Qxb6600831a
open Go.RowKit Spl

/-! ### Plain facts -/
theorem lastopen_of (t : List UInt8) (hc : t[t.length - 1]? = some 93) : ∀ (m j : Nat), t.length ≤ j + m → j + 1 < t.length → t[j]? = some 91 → ∃ o, LastOpen t o := by
  intro m
  induction m with
  | zero => intro j h1 h2; omega
  | succ m ih =>
    intro j h1 h2 h3
    by_cases h : ∃ i : Nat, j < i ∧ i + 1 < t.length ∧ t[i]? = some 91
    · obtain ⟨i, hi1, hi2, hi3⟩ := h
      exact ih i (by omega) hi2 hi3
    · exact ⟨j, by omega, hc, h3, fun i h4 h5 h6 => h ⟨i, h4, h5, h6⟩⟩

theorem quo_unique (t : List UInt8) (a b : Nat) (ha : Quo t a) (hb : Quo t b) : a = b := by
  have h1 := ha.len
  have h2 := hb.len
  by_cases h : a < b
  · exact absurd ⟨hb.here, hb.next⟩ (ha.last b h (by omega))
  · by_cases h' : b < a
    · exact absurd ⟨ha.here, ha.next⟩ (hb.last a h' (by omega))
    · omega

theorem head_at (name : ByteArray) (j : Nat) (hj : j + 1 < name.size) : (name.extract 0 (name.size - 1)).data.toList[j]? = name.data.toList[j]? := by
  rw [ext_data, List.drop_zero]; exact take_at _ _ _ (by omega)

theorem head_none (name : ByteArray) (hc : name.data.toList[name.data.toList.length - 1]? = some 93) (h : ∀ o, ¬ LastOpen name.data.toList o) (j : Nat) : (name.extract 0 (name.size - 1)).data.toList[j]? ≠ some 91 := by
  intro hj
  have hl : j + 1 < name.size := by
    obtain ⟨hl, _⟩ := List.getElem?_eq_some_iff.1 hj
    rw [← size_data, ByteArray.size_extract] at hl; omega
  rw [head_at name j hl] at hj
  rw [size_data] at hl
  obtain ⟨o, ho⟩ := lastopen_of _ hc _ j (Nat.le_add_left _ _) hl hj
  exact h o ho

theorem entry_none (name : ByteArray) (o : Nat) (h : LastOpen name.data.toList o) (j : Nat) : (name.extract (o + 1) (name.size - 1)).data.toList[j]? ≠ some 91 := by
  intro hj
  rw [ext_data, List.getElem?_take] at hj
  split at hj
  · rename_i hlt
    rw [List.getElem?_drop] at hj
    refine h.last (o + 1 + j) (by omega) ?_ hj
    rw [← size_data]; omega
  · cases hj

theorem indexOf_neg (s : ByteArray) (w : World) (hs : s.size ≤ 1048576) (h : ∀ j : Nat, s.data.toList[j]? ≠ some 91) :
    Calls Try.prog 10 #[.string s, .int .u8 91] w fun e w' => ∃ r : Int, r < 0 ∧ e = .returned (.int .i64 r) ∧ w = w' :=
  (indexOf_any s w hs).mono fun e w' ⟨r, he, hw, hi⟩ => ⟨r, by rcases hi with h1 | ⟨_, j, hj⟩; exact h1.1; exact absurd hj (h j), he, hw⟩
theorem indexOf_pos (s : ByteArray) (w : World) (hs : s.size ≤ 1048576) (j : Nat) (h : s.data.toList[j]? = some 91) :
    Calls Try.prog 10 #[.string s, .int .u8 91] w fun e w' => ∃ r : Int, 0 ≤ r ∧ e = .returned (.int .i64 r) ∧ w = w' :=
  (indexOf_any s w hs).mono fun e w' ⟨r, he, hw, hi⟩ => ⟨r, by rcases hi with ⟨_, h1⟩ | h1; exact absurd h (h1 j); exact h1.1, he, hw⟩

theorem quoted_yes (s : ByteArray) (w : World) (hs : s.size ≤ 1048576) (q : Nat) (hq : Quo s.data.toList q) :
    Calls Try.prog 11 #[.string s] w fun e w' => e = .returned (.tuple #[.string (s.extract 0 q), .string (s.extract (q + 2) (s.size - 2)), .bool true]) ∧ ∃ n, w' = w.drewN n :=
  (quoted_any s w hs).mono fun e w' h => by
    rcases h with ⟨q', h1, he, hw⟩ | ⟨h1, _⟩
    · rw [quo_unique _ _ _ h1 hq] at he; exact ⟨he, hw⟩
    · exact absurd hq (h1 q)
theorem quoted_no (s : ByteArray) (w : World) (hs : s.size ≤ 1048576) (hq : ∀ q, ¬ Quo s.data.toList q) :
    Calls Try.prog 11 #[.string s] w fun e w' => e = .returned (.tuple #[.string ⟨#[]⟩, .string ⟨#[]⟩, .bool false]) ∧ ∃ n, w' = w.drewN n :=
  (quoted_any s w hs).mono fun e w' h => by
    rcases h with ⟨q', h1, _⟩ | ⟨_, he, hw⟩
    · exact absurd h1 (hq q')
    · exact ⟨he, hw⟩

theorem last_eq (name : ByteArray) (h1 : 1 ≤ name.size) (hc : name.data.toList[name.data.toList.length - 1]? = some 93) : (((name[name.size - 1]'(by omega)).toNat : Int) == 93) = true := by
  rw [← size_data] at hc
  have := (at_u8 name (name.size - 1) (by omega) 93).1 hc
  simpa using this
theorem last_ne (name : ByteArray) (h1 : 1 ≤ name.size) (hc : ¬ name.data.toList[name.data.toList.length - 1]? = some 93) : (((name[name.size - 1]'(by omega)).toNat : Int) == 93) = false := by
  rw [← size_data, at_u8 name (name.size - 1) (by omega) 93] at hc
  simpa using hc

/-! ### zzBytes (function 8) -/
theorem bytes8_small (name : ByteArray) (d p : Bool) (w : World) (hn : (name.size : Int) ≤ 1048576) :
    Calls Try.prog 8 #[.string name, .bool d, .bool p] w fun e w' => e = .returned (.bool true) ∧ w = w' := by
  go_enter Try.func8, Try.ntmps8
  go_wp2
  go_ret
  exact ⟨rfl, rfl⟩
theorem bytes8_large (name : ByteArray) (d p : Bool) (w : World) (hn : (1048576 : Int) < name.size) :
    Calls Try.prog 8 #[.string name, .bool d, .bool p] w fun e w' => e = .returned (.bool false) ∧ w = w' := by
  go_enter Try.func8, Try.ntmps8
  go_wp2
  go_ret
  exact ⟨rfl, rfl⟩

theorem law3_large (name : ByteArray) (d p : Bool) (w : World) (hn : (1048576 : Int) < name.size) :
    Calls Try.prog 3 #[.string name, .bool d, .bool p] w fun e w' => e = .returned (.bool true) ∧ Grown w w' := by
  go_enter Try.func3, Try.ntmps3
  go_wp2_with (go_at_call 8; refine (bytes8_large _ _ _ _ hn).mono ?_; rintro e w' ⟨rfl, rfl⟩)
  go_ret
  exact ⟨rfl, Grown.refl _⟩
theorem law3_mid (name : ByteArray) (d p : Bool) (w : World) (hn : (name.size : Int) ≤ 1048576) (h2 : (65536 : Int) < name.size) :
    Calls Try.prog 3 #[.string name, .bool d, .bool p] w fun e w' => e = .returned (.bool true) ∧ Grown w w' := by
  go_enter Try.func3, Try.ntmps3
  go_wp2_with (go_at_call 8; refine (bytes8_small _ _ _ _ hn).mono ?_; rintro e w' ⟨rfl, rfl⟩)
  go_ret
  exact ⟨rfl, Grown.refl _⟩

theorem grown_drewN (w w1 : World) (h : Grown w w1) (n : Nat) : Grown w (w1.drewN n) := by
  induction n with
  | zero => exact h
  | succ n ih => exact ih.drew

set_option maxRecDepth 100000 in
set_option maxHeartbeats 2000000 in
theorem law3_small (name : ByteArray) (d p : Bool) (w : World) (h2 : (name.size : Int) ≤ 65536) :
    Calls Try.prog 3 #[.string name, .bool d, .bool p] w fun e w' => e = .returned (.bool true) ∧ Grown w w' := by
  have hn : (name.size : Int) ≤ 1048576 := by omega
  go_enter Try.func3, Try.ntmps3
  go_wp2_with (first
    | (go_at_call 8; refine (bytes8_small _ _ _ _ hn).mono ?_; rintro e w' ⟨rfl, rfl⟩)
    | (refine wpList_opts2 rfl _ _ rfl d p rfl rfl ?_)
    | (refine wpList_storeOpts rfl _ _ rfl d p _ rfl rfl rfl ?_))
  refine (zzsplit _ _ name d p _ (by omega) (cell12 _ _ _) (cell3 _ _ _)).mono ?_
  rintro e w' ⟨⟨x, y, k, rfl, hW⟩, n, rfl⟩
  have hxs : (name.extract 0 (name.size - 1)).size ≤ 1048576 := by simp only [ByteArray.size_extract]; omega
  rcases hW with ⟨rfl, rfl, rfl, hno⟩ | ⟨rfl, rfl, o, hO, hx, hy⟩ | ⟨rfl, rfl, rfl, q, hQ, hx, hy⟩ | ⟨rfl, rfl, rfl, hq, o, hO, ho, hx, rfl⟩ | ⟨rfl, rfl, rfl, hq, o, hO, ho, hx, hy⟩
  · -- ordinary
    by_cases h0 : (0 : Int) < x.size
    · by_cases hc : x.data.toList[x.data.toList.length - 1]? = some 93
      · have hl := last_eq x (by omega) hc
        rcases hno with hno | ⟨rfl, rfl⟩
        · have hnone := hide (head_none x hc hno)
          clear hno hc
          go_wp2_with (go_at_call 10; refine (indexOf_neg _ _ hxs hnone).mono ?_; rintro e w' ⟨r, hr, rfl, rfl⟩)
          go_ret
          exact ⟨rfl, grown_new _ _ _ _⟩
        · clear hc
          go_wp2_with (go_at_call 10; refine (indexOf_any _ _ hxs).mono ?_; rintro e w' ⟨r, rfl, rfl, hr⟩; clear hr)
          all_goals (go_ret; exact ⟨rfl, grown_new _ _ _ _⟩)
      · have hl := last_ne x (by omega) hc
        clear hc hno
        go_wp2
        go_ret
        exact ⟨rfl, grown_new _ _ _ _⟩
    · clear hno
      go_wp2
      go_ret
      exact ⟨rfl, grown_new _ _ _ _⟩
  · -- localized
    have hlen := hO.len
    rw [← size_data] at hlen
    have h0 : (0 : Int) < name.size := by omega
    have hl := last_eq name (by omega) hO.close
    have hat := hide ((head_at name o (by omega)).trans hO.here)
    have hnone := hide (entry_none name o hO)
    have hcat : ((x ++ ⟨#[91]⟩ ++ y ++ ⟨#[93]⟩).toList == name.toList) = true := eq_toList (by rw [hx, hy]; exact cat_open name o hO)
    have hbx : x.size ≤ name.size := by rw [hx]; exact ext_size_le _ _ _
    have hby : y.size ≤ name.size := by rw [hy]; exact ext_size_le _ _ _
    rw [← hy] at hnone
    clear hx hy hO
    cases p
    all_goals
      go_wp2_with fail
      refine (indexOf_pos _ _ hxs o hat).mono ?_
      rintro e w' ⟨r, hr, rfl, rfl⟩
      go_wp2_with fail
      refine (indexOf_neg _ _ (by omega) hnone).mono ?_
      rintro e w' ⟨r2, hr2, rfl, rfl⟩
      go_wp2
      go_ret
      exact ⟨rfl, grown_new _ _ _ _⟩
  · -- quoted
    have hlen := hQ.len
    rw [← size_data] at hlen
    have h0 : (0 : Int) < name.size := by omega
    have hl := last_eq name (by omega) hQ.close
    have hat := hide ((head_at name q (by omega)).trans hQ.here)
    have HQ := hide hQ
    have hex : (x.toList == (name.extract 0 q).toList) = true := eq_toList hx
    have hey : (y.toList == (name.extract (q + 2) (name.size - 2)).toList) = true := eq_toList hy
    clear hx hy hQ
    go_wp2_with fail
    refine (indexOf_pos _ _ hxs q hat).mono ?_
    rintro e w' ⟨r, hr, rfl, rfl⟩
    go_wp2_with fail
    refine (quoted_yes name _ (by omega) q HQ).mono ?_
    rintro e w' ⟨rfl, n2, rfl⟩
    go_wp2
    go_ret
    refine ⟨rfl, ?_⟩
    first | exact grown_new _ _ _ _ | exact grown_drewN _ _ (grown_new _ _ _ n) n2
  · -- array
    have Ho := hide ho
    clear ho
    have hlen := hO.len
    rw [← size_data] at hlen
    have h0 : (0 : Int) < name.size := by omega
    have h22 : (2 : Int) ≤ name.size := by omega
    have hl := last_eq name (by omega) hO.close
    have hat := hide ((head_at name o (by omega)).trans hO.here)
    have hb : (((name[name.size - 2]'(by omega)).toNat : Int) == 91) = true := by
      have := (at_u8 name (name.size - 2) (by omega) 91).1 (by rw [show name.size - 2 = o by have := Ho.out; omega]; exact hO.here)
      simpa using this
    have HQ := hide hq
    have hcat : ((x ++ ⟨#[91, 93]⟩).toList == name.toList) = true := eq_toList (by rw [hx]; exact cat_array name o hO Ho)
    have hbx : x.size ≤ name.size := by rw [hx]; exact ext_size_le _ _ _
    clear hx hO hq
    go_wp2_with fail
    refine (indexOf_pos _ _ hxs o hat).mono ?_
    rintro e w' ⟨r, hr, rfl, rfl⟩
    go_wp2_with fail
    refine (quoted_no name _ (by omega) HQ).mono ?_
    rintro e w' ⟨rfl, n2, rfl⟩
    go_wp2
    go_ret
    refine ⟨rfl, ?_⟩
    first | exact grown_new _ _ _ _ | exact grown_drewN _ _ (grown_new _ _ _ n) n2
  · -- map
    have hlen := hO.len
    rw [← size_data] at hlen
    have h0 : (0 : Int) < name.size := by omega
    have h22 : (2 : Int) ≤ name.size := by omega
    have hl := last_eq name (by omega) hO.close
    have hat := hide ((head_at name o (by omega)).trans hO.here)
    have hb : (((name[name.size - 2]'(by omega)).toNat : Int) == 91) = false := by
      have h1 := hO.last (name.size - 2) (by omega) (by rw [← size_data]; omega)
      rw [ne_eq, at_u8 name (name.size - 2) (by omega) 91] at h1
      simpa using h1
    have HQ := hide hq
    have hnone := hide (entry_none name o hO)
    have hcat : ((x ++ ⟨#[91]⟩ ++ y ++ ⟨#[93]⟩).toList == name.toList) = true := eq_toList (by rw [hx, hy]; exact cat_open name o hO)
    have hbx : x.size ≤ name.size := by rw [hx]; exact ext_size_le _ _ _
    have hby : y.size ≤ name.size := by rw [hy]; exact ext_size_le _ _ _
    have hye : y.toList.isEmpty = false := by
      have hsz : 0 < y.size := by rw [hy, ByteArray.size_extract]; omega
      rw [size_data, ← ByteArray.toList_eq] at hsz
      cases hyl : y.toList with
      | nil => rw [hyl] at hsz; simp at hsz
      | cons a l => rfl
    rw [← hy] at hnone
    clear hx hy hO hq ho
    go_wp2_with fail
    refine (indexOf_pos _ _ hxs o hat).mono ?_
    rintro e w' ⟨r, hr, rfl, rfl⟩
    go_wp2_with fail
    refine (quoted_no name _ (by omega) HQ).mono ?_
    rintro e w' ⟨rfl, n2, rfl⟩
    go_wp2_with fail
    refine (indexOf_neg _ _ (by omega) hnone).mono ?_
    rintro e w' ⟨r2, hr2, rfl, rfl⟩
    go_wp2
    go_ret
    refine ⟨rfl, ?_⟩
    first | exact grown_new _ _ _ _ | exact grown_drewN _ _ (grown_new _ _ _ n) n2
end Go.Proofs.Qxb6600831a
