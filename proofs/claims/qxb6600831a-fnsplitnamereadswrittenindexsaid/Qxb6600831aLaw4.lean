import Derived.Test.Qxb6600831aLaw3
import Derived.Test.Qxb6600831aPlain4
namespace Go.Proofs.Qxb6600831a
open Go.RowKit Spl

/-! ### zzBytes (function 12) -/
theorem bytes12_yes (a b : ByteArray) (f : Int) (d : Bool) (w : World) (h : (a.size : Int) + b.size ≤ 1048576) :
    Calls Try.prog 12 #[.string a, .string b, .int .i64 f, .bool d] w fun e w' => e = .returned (.bool true) ∧ w = w' := by
  have h1 : (a.size : Int) ≤ 1048576 := by omega
  have h2 : (b.size : Int) ≤ 1048576 := by omega
  go_enter Try.func12, Try.ntmps12
  go_wp2
  go_ret
  exact ⟨rfl, rfl⟩
theorem bytes12_no (a b : ByteArray) (f : Int) (d : Bool) (w : World) (ha : a.size ≤ maxLen) (hb : b.size ≤ maxLen) (h : (1048576 : Int) < (a.size : Int) + b.size) :
    Calls Try.prog 12 #[.string a, .string b, .int .i64 f, .bool d] w fun e w' => e = .returned (.bool false) ∧ w = w' := by
  unfold maxLen at ha hb
  by_cases h1 : (a.size : Int) ≤ 1048576
  · by_cases h2 : (b.size : Int) ≤ 1048576
    · go_enter Try.func12, Try.ntmps12
      go_wp2
      go_ret
      exact ⟨rfl, rfl⟩
    · go_enter Try.func12, Try.ntmps12
      go_wp2
      go_ret
      exact ⟨rfl, rfl⟩
  · go_enter Try.func12, Try.ntmps12
    go_wp2
    go_ret
    exact ⟨rfl, rfl⟩

theorem law4_skip (a b : ByteArray) (f : Int) (d : Bool) (w : World) (ha : a.size ≤ maxLen) (hb : b.size ≤ maxLen) (h : (1048576 : Int) < (a.size : Int) + b.size) :
    Calls Try.prog 4 #[.string a, .string b, .int .i64 f, .bool d] w fun e w' => e = .returned (.bool true) ∧ Grown w w' := by
  go_enter Try.func4, Try.ntmps4
  go_wp2_with (go_at_call 12; refine (bytes12_no _ _ _ _ _ ha hb h).mono ?_; rintro e w' ⟨rfl, rfl⟩)
  go_ret
  exact ⟨rfl, Grown.refl _⟩

set_option maxRecDepth 100000 in
theorem law4_mid (a b : ByteArray) (f : Int) (d : Bool) (w : World) (h : (a.size : Int) + b.size ≤ 1048576) (h2 : (65536 : Int) < a.size ∨ (65536 : Int) < b.size) :
    Calls Try.prog 4 #[.string a, .string b, .int .i64 f, .bool d] w fun e w' => e = .returned (.bool true) ∧ Grown w w' := by
  by_cases h3 : (65536 : Int) < a.size
  · clear h2
    go_enter Try.func4, Try.ntmps4
    go_wp2_with (go_at_call 12; refine (bytes12_yes _ _ _ _ _ h).mono ?_; rintro e w' ⟨rfl, rfl⟩)
    go_ret
    exact ⟨rfl, Grown.refl _⟩
  · have h4 : (65536 : Int) < b.size := by omega
    have h3' : (a.size : Int) ≤ 65536 := by omega
    clear h2 h3
    go_enter Try.func4, Try.ntmps4
    go_wp2_with (go_at_call 12; refine (bytes12_yes _ _ _ _ _ h).mono ?_; rintro e w' ⟨rfl, rfl⟩)
    go_ret
    exact ⟨rfl, Grown.refl _⟩

set_option maxRecDepth 100000 in
set_option maxHeartbeats 2000000 in
theorem law4_other (a b : ByteArray) (f : Int) (d : Bool) (w : World) (ha : (a.size : Int) ≤ 65536) (hb : (b.size : Int) ≤ 65536) (h0 : (f == 0) = false) (h1 : (f == 1) = false) (h2 : (f == 2) = false) :
    Calls Try.prog 4 #[.string a, .string b, .int .i64 f, .bool d] w fun e w' => e = .returned (.bool true) ∧ Grown w w' := by
  have h : (a.size : Int) + b.size ≤ 1048576 := by omega
  go_enter Try.func4, Try.ntmps4
  go_wp2_with (first
    | (go_at_call 12; refine (bytes12_yes _ _ _ _ _ h).mono ?_; rintro e w' ⟨rfl, rfl⟩)
    | (refine wpList_opts1 rfl _ rfl d rfl ?_)
    | (refine wpList_storeOpts rfl _ _ rfl d false _ rfl rfl rfl ?_))
  go_ret
  exact ⟨rfl, grown_new _ _ _ 0⟩

theorem lastb (b : ByteArray) (h : 1 ≤ b.size) (c : UInt8) (x : Bool) (hx : (((b[b.size - 1]'(by omega)).toNat : Int) == (c.toNat : Int)) = x) : x = true ↔ b.data.toList[b.data.toList.length - 1]? = some c := by
  subst hx
  rw [← size_data, at_u8 b (b.size - 1) (by omega) c]; simp

theorem isEmpty_size (b : ByteArray) : b.toList.isEmpty = true ↔ b.size = 0 := by
  rw [size_data, ← ByteArray.toList_eq, List.isEmpty_iff, List.length_eq_zero_iff]

set_option maxRecDepth 100000 in
set_option maxHeartbeats 2000000 in
theorem law4_form0 (a b : ByteArray) (d : Bool) (w : World) (ha : (a.size : Int) ≤ 65536) (hb : (b.size : Int) ≤ 65536) :
    Calls Try.prog 4 #[.string a, .string b, .int .i64 0, .bool d] w fun e w' => e = .returned (.bool true) ∧ Grown w w' := by
  have h : (a.size : Int) + b.size ≤ 1048576 := by omega
  by_cases hE : ∃ j : Nat, b.data.toList[j]? = some 91
  · obtain ⟨j, hj⟩ := hE
    have hj' := hide hj
    clear hj
    go_enter Try.func4, Try.ntmps4
    go_wp2_with (first
      | (go_at_call 12; refine (bytes12_yes _ _ _ _ _ h).mono ?_; rintro e w' ⟨rfl, rfl⟩)
      | (go_at_call 10; refine (indexOf_pos _ _ (by omega) j hj').mono ?_; rintro e w' ⟨r, hr, rfl, rfl⟩)
      | (refine wpList_opts1 rfl _ rfl d rfl ?_)
      | (refine wpList_storeOpts rfl _ _ rfl d false _ rfl rfl rfl ?_))
    go_ret
    exact ⟨rfl, grown_new _ _ _ 0⟩
  · have hE' : Hid (∀ j : Nat, b.data.toList[j]? ≠ some 91) := fun j hj => hE ⟨j, hj⟩
    clear hE
    have hcat : (a ++ ⟨#[91]⟩ ++ b ++ ⟨#[93]⟩).size ≤ 1048576 := by
      simp only [ByteArray.size_append]; rw [show (⟨#[91]⟩ : ByteArray).size = 1 from rfl, show (⟨#[93]⟩ : ByteArray).size = 1 from rfl]; omega
    cases d with
    | true =>
      go_enter Try.func4, Try.ntmps4
      go_wp2_with (first
        | (go_at_call 12; refine (bytes12_yes _ _ _ _ _ h).mono ?_; rintro e w' ⟨rfl, rfl⟩)
        | (go_at_call 10; refine (indexOf_neg _ _ (by omega) hE').mono ?_; rintro e w' ⟨r, hr, rfl, rfl⟩)
        | (refine wpList_opts1 rfl _ rfl true rfl ?_)
        | (refine wpList_storeOpts rfl _ _ rfl true false _ rfl rfl rfl ?_))
      refine (zzsplit _ _ _ true false _ hcat (cell12 _ _ _) (cell3 _ _ _)).mono ?_
      rintro e w' ⟨⟨x, y, k, rfl, hW⟩, n, rfl⟩
      obtain ⟨rfl, rfl, hk⟩ := ways_open _ _ _ _ _ _ hE' (fun h => by cases h) hW
      obtain rfl : k = 3 := by
        rcases hk with ⟨_, hk⟩ | ⟨h, _⟩ | ⟨h, _⟩
        · exact hk
        · cases h
        · cases h
      clear hk hW
      go_wp2
      go_ret
      exact ⟨rfl, grown_new _ _ _ _⟩
    | false =>
      cases he : b.toList.isEmpty with
      | true =>
        go_enter Try.func4, Try.ntmps4
        go_wp2_with (first
          | (go_at_call 12; refine (bytes12_yes _ _ _ _ _ h).mono ?_; rintro e w' ⟨rfl, rfl⟩)
          | (go_at_call 10; refine (indexOf_neg _ _ (by omega) hE').mono ?_; rintro e w' ⟨r, hr, rfl, rfl⟩)
          | (refine wpList_opts1 rfl _ rfl false rfl ?_)
          | (refine wpList_storeOpts rfl _ _ rfl false false _ rfl rfl rfl ?_))
        go_ret
        exact ⟨rfl, grown_new _ _ _ 0⟩
      | false =>
        have hb1 : (1 : Int) ≤ b.size := by
          have : ¬ b.size = 0 := fun h0 => by rw [(isEmpty_size b).2 h0] at he; cases he
          omega
        have hb1' : 1 ≤ b.size := by omega
        cases hl : (((b[b.size - 1]'(by omega)).toNat : Int) == 34) with
        | true =>
          go_enter Try.func4, Try.ntmps4
          go_wp2_with (first
            | (go_at_call 12; refine (bytes12_yes _ _ _ _ _ h).mono ?_; rintro e w' ⟨rfl, rfl⟩)
            | (go_at_call 10; refine (indexOf_neg _ _ (by omega) hE').mono ?_; rintro e w' ⟨r, hr, rfl, rfl⟩)
            | (refine wpList_opts1 rfl _ rfl false rfl ?_)
            | (refine wpList_storeOpts rfl _ _ rfl false false _ rfl rfl rfl ?_))
          go_ret
          exact ⟨rfl, grown_new _ _ _ 0⟩
        | false =>
          have hq : Hid (b.data.toList[b.data.toList.length - 1]? ≠ some 34) := fun h34 => by
            have := (lastb b hb1' 34 _ hl).2 h34
            cases this
          go_enter Try.func4, Try.ntmps4
          go_wp2_with (first
            | (go_at_call 12; refine (bytes12_yes _ _ _ _ _ h).mono ?_; rintro e w' ⟨rfl, rfl⟩)
            | (go_at_call 10; refine (indexOf_neg _ _ (by omega) hE').mono ?_; rintro e w' ⟨r, hr, rfl, rfl⟩)
            | (refine wpList_opts1 rfl _ rfl false rfl ?_)
            | (refine wpList_storeOpts rfl _ _ rfl false false _ rfl rfl rfl ?_))
          refine (zzsplit _ _ _ false false _ hcat (cell12 _ _ _) (cell3 _ _ _)).mono ?_
          rintro e w' ⟨⟨x, y, k, rfl, hW⟩, n, rfl⟩
          obtain ⟨rfl, rfl, hk⟩ := ways_open _ _ _ _ _ _ hE' (fun _ => hq) hW
          obtain rfl : k = 2 := by
            rcases hk with ⟨h, _⟩ | ⟨_, h, _⟩ | ⟨_, _, hk⟩
            · cases h
            · omega
            · exact hk
          clear hk hW
          go_wp2
          go_ret
          exact ⟨rfl, grown_new _ _ _ _⟩

set_option maxRecDepth 100000 in
set_option maxHeartbeats 2000000 in
theorem law4_form1 (a b : ByteArray) (d : Bool) (w : World) (ha : (a.size : Int) ≤ 65536) (hb : (b.size : Int) ≤ 65536) :
    Calls Try.prog 4 #[.string a, .string b, .int .i64 1, .bool d] w fun e w' => e = .returned (.bool true) ∧ Grown w w' := by
  have h : (a.size : Int) + b.size ≤ 1048576 := by omega
  have hcat : (a ++ ⟨#[91, 93]⟩).size ≤ 1048576 := by
    simp only [ByteArray.size_append]; rw [show (⟨#[91, 93]⟩ : ByteArray).size = 2 from rfl]; omega
  go_enter Try.func4, Try.ntmps4
  go_wp2_with (first
    | (go_at_call 12; refine (bytes12_yes _ _ _ _ _ h).mono ?_; rintro e w' ⟨rfl, rfl⟩)
    | (refine wpList_opts1 rfl _ rfl d rfl ?_)
    | (refine wpList_storeOpts rfl _ _ rfl d false _ rfl rfl rfl ?_))
  refine (zzsplit _ _ _ d false _ hcat (cell12 _ _ _) (cell3 _ _ _)).mono ?_
  rintro e w' ⟨⟨x, y, k, rfl, hW⟩, n, rfl⟩
  rw [show a ++ ⟨#[91, 93]⟩ = a ++ ⟨#[91]⟩ ++ ⟨#[]⟩ ++ ⟨#[93]⟩ from ba_ext (by simp)] at hW
  obtain ⟨rfl, rfl, hk⟩ := ways_open _ _ _ _ _ _ (fun j => by simp) (fun _ => by simp) hW
  cases d with
  | true =>
    obtain rfl : k = 3 := by
      rcases hk with ⟨_, hk⟩ | ⟨h, _⟩ | ⟨h, _⟩
      · exact hk
      · cases h
      · cases h
    clear hk hW
    go_wp2
    go_ret
    exact ⟨rfl, grown_new _ _ _ _⟩
  | false =>
    obtain rfl : k = 1 := by
      rcases hk with ⟨h, _⟩ | ⟨_, _, hk⟩ | ⟨_, h, _⟩
      · cases h
      · exact hk
      · exact absurd h (by decide)
    clear hk hW
    go_wp2
    go_ret
    exact ⟨rfl, grown_new _ _ _ _⟩

set_option maxRecDepth 100000 in
set_option maxHeartbeats 2000000 in
theorem law4_form2d (a b : ByteArray) (w : World) (ha : (a.size : Int) ≤ 65536) (hb : (b.size : Int) ≤ 65536) :
    Calls Try.prog 4 #[.string a, .string b, .int .i64 2, .bool true] w fun e w' => e = .returned (.bool true) ∧ Grown w w' := by
  have h : (a.size : Int) + b.size ≤ 1048576 := by omega
  go_enter Try.func4, Try.ntmps4
  go_wp2_with (first
    | (go_at_call 12; refine (bytes12_yes _ _ _ _ _ h).mono ?_; rintro e w' ⟨rfl, rfl⟩)
    | (refine wpList_opts1 rfl _ rfl true rfl ?_)
    | (refine wpList_storeOpts rfl _ _ rfl true false _ rfl rfl rfl ?_))
  go_ret
  exact ⟨rfl, grown_new _ _ _ 0⟩

set_option maxRecDepth 100000 in
set_option maxHeartbeats 4000000 in
theorem law4_form2 (a b : ByteArray) (w : World) (ha : (a.size : Int) ≤ 65536) (hb : (b.size : Int) ≤ 65536) :
    Calls Try.prog 4 #[.string a, .string b, .int .i64 2, .bool false] w fun e w' => e = .returned (.bool true) ∧ Grown w w' := by
  have h : (a.size : Int) + b.size ≤ 1048576 := by omega
  have hcat : (a ++ ⟨#[91, 34]⟩ ++ b ++ ⟨#[34, 93]⟩).size ≤ 1048576 := by
    simp only [ByteArray.size_append]; rw [show (⟨#[91, 34]⟩ : ByteArray).size = 2 from rfl, show (⟨#[34, 93]⟩ : ByteArray).size = 2 from rfl]; omega
  cases he : b.toList.isEmpty with
  | true =>
    have hlast : Hid (b.data.toList[b.data.toList.length - 1]? ≠ some 91) := fun h91 => by
      obtain ⟨hl, _⟩ := List.getElem?_eq_some_iff.1 h91
      have := (isEmpty_size b).1 he
      rw [size_data] at this; omega
    go_enter Try.func4, Try.ntmps4
    go_wp2_with (first
      | (go_at_call 12; refine (bytes12_yes _ _ _ _ _ h).mono ?_; rintro e w' ⟨rfl, rfl⟩)
      | (refine wpList_opts1 rfl _ rfl false rfl ?_)
      | (refine wpList_storeOpts rfl _ _ rfl false false _ rfl rfl rfl ?_))
    refine (pair_any b _ (by omega)).mono ?_
    rintro e w' ⟨r, rfl, rfl, hr⟩
    cases r with
    | true =>
      clear hr
      go_wp2
      go_ret
      exact ⟨rfl, grown_new _ _ _ 0⟩
    | false =>
      have Hr := hide (hr rfl)
      clear hr
      go_wp2_with fail
      refine (zzsplit _ _ _ false false _ hcat (cell12 _ _ _) (cell3 _ _ _)).mono ?_
      rintro e w' ⟨⟨x, y, k, rfl, hW⟩, n, rfl⟩
      obtain ⟨rfl, rfl, rfl⟩ := ways_quo _ _ _ _ _ Hr hlast hW
      clear hW
      go_wp2
      go_ret
      exact ⟨rfl, grown_new _ _ _ _⟩
  | false =>
    have hb1 : (1 : Int) ≤ b.size := by
      have : ¬ b.size = 0 := fun h0 => by rw [(isEmpty_size b).2 h0] at he; cases he
      omega
    have hb1' : 1 ≤ b.size := by omega
    cases hl : (((b[b.size - 1]'(by omega)).toNat : Int) == 91) with
    | true =>
      go_enter Try.func4, Try.ntmps4
      go_wp2_with (first
        | (go_at_call 12; refine (bytes12_yes _ _ _ _ _ h).mono ?_; rintro e w' ⟨rfl, rfl⟩)
        | (refine wpList_opts1 rfl _ rfl false rfl ?_)
        | (refine wpList_storeOpts rfl _ _ rfl false false _ rfl rfl rfl ?_))
      refine (pair_any b _ (by omega)).mono ?_
      rintro e w' ⟨r, rfl, rfl, hr⟩
      clear hr
      cases r
      all_goals
        go_wp2
        go_ret
        exact ⟨rfl, grown_new _ _ _ 0⟩
    | false =>
      have hlast : Hid (b.data.toList[b.data.toList.length - 1]? ≠ some 91) := fun h91 => by
        have := (lastb b hb1' 91 _ hl).2 h91
        cases this
      go_enter Try.func4, Try.ntmps4
      go_wp2_with (first
        | (go_at_call 12; refine (bytes12_yes _ _ _ _ _ h).mono ?_; rintro e w' ⟨rfl, rfl⟩)
        | (refine wpList_opts1 rfl _ rfl false rfl ?_)
        | (refine wpList_storeOpts rfl _ _ rfl false false _ rfl rfl rfl ?_))
      refine (pair_any b _ (by omega)).mono ?_
      rintro e w' ⟨r, rfl, rfl, hr⟩
      cases r with
      | true =>
        clear hr
        go_wp2
        go_ret
        exact ⟨rfl, grown_new _ _ _ 0⟩
      | false =>
        have Hr := hide (hr rfl)
        clear hr
        go_wp2_with fail
        refine (zzsplit _ _ _ false false _ hcat (cell12 _ _ _) (cell3 _ _ _)).mono ?_
        rintro e w' ⟨⟨x, y, k, rfl, hW⟩, n, rfl⟩
        obtain ⟨rfl, rfl, rfl⟩ := ways_quo _ _ _ _ _ Hr hlast hW
        clear hW
        go_wp2
        go_ret
        exact ⟨rfl, grown_new _ _ _ _⟩

theorem law4_all (a b : ByteArray) (f : Int) (d : Bool) (w : World) (ha : a.size ≤ maxLen) (hb : b.size ≤ maxLen) :
    Calls Try.prog 4 #[.string a, .string b, .int .i64 f, .bool d] w fun e w' => e = .returned (.bool true) ∧ Grown w w' := by
  by_cases h : (a.size : Int) + b.size ≤ 1048576
  · by_cases h1 : (a.size : Int) ≤ 65536
    · by_cases h2 : (b.size : Int) ≤ 65536
      · by_cases f0 : f = 0
        · subst f0; exact law4_form0 a b d w h1 h2
        by_cases f1 : f = 1
        · subst f1; exact law4_form1 a b d w h1 h2
        by_cases f2 : f = 2
        · subst f2
          cases d with
          | true => exact law4_form2d a b w h1 h2
          | false => exact law4_form2 a b w h1 h2
        exact law4_other a b f d w h1 h2 (beq_eq_false_iff_ne.2 f0) (beq_eq_false_iff_ne.2 f1) (beq_eq_false_iff_ne.2 f2)
      · exact law4_mid a b f d w h (.inr (by omega))
    · exact law4_mid a b f d w h (.inl (by omega))
  · exact law4_skip a b f d w ha hb (by omega)
end Go.Proofs.Qxb6600831a
