import Derived.Test.Qxb6600831aSplitAll
import Derived.Test.Qxb6600831aOpts
namespace Go.Proofs.Qxb6600831a
open Go.RowKit Spl

theorem bytes14_small (name : ByteArray) (d p : Bool) (w : World) (hn : (name.size : Int) ≤ 1048576) :
    Calls Try.prog 14 #[.string name, .bool d, .bool p] w fun e w' => e = .returned (.bool true) ∧ w = w' := by
  go_enter Try.func14, Try.ntmps14
  go_wp2
  go_ret
  exact ⟨rfl, rfl⟩
theorem bytes14_large (name : ByteArray) (d p : Bool) (w : World) (hn : (1048576 : Int) < name.size) :
    Calls Try.prog 14 #[.string name, .bool d, .bool p] w fun e w' => e = .returned (.bool false) ∧ w = w' := by
  go_enter Try.func14, Try.ntmps14
  go_wp2
  go_ret
  exact ⟨rfl, rfl⟩

theorem grown_new (w : World) (cs : Array Value) (t : TypeId) (n : Nat) : Grown w ((w.alloc (.cells cs t)).drewN n) := by
  induction n with
  | zero => exact (Grown.refl w).alloc _ _
  | succ n ih => exact ih.drew

theorem eq_toList {a b : ByteArray} (h : a = b) : (a.toList == b.toList) = true := by rw [h]; exact beq_self_eq_true _
theorem ne_toList {a b : ByteArray} (h : a.size ≠ b.size) : (a.toList == b.toList) = false := by
  rw [beq_eq_false_iff_ne]; intro e; apply h
  rw [size_data, size_data, ← ByteArray.toList_eq a, ← ByteArray.toList_eq b, e]

theorem ext_size_le (name : ByteArray) (a b : Nat) : (name.extract a b).size ≤ name.size := by simp only [ByteArray.size_extract]; omega

theorem law5_large (name : ByteArray) (d p : Bool) (w : World) (hn : (1048576 : Int) < name.size) :
    Calls Try.prog 5 #[.string name, .bool d, .bool p] w fun e w' => e = .returned (.bool true) ∧ Grown w w' := by
  go_enter Try.func5, Try.ntmps5
  go_wp2_with (go_at_call 14; refine (bytes14_large _ _ _ _ hn).mono ?_; rintro e w' ⟨rfl, rfl⟩)
  go_ret
  exact ⟨rfl, Grown.refl _⟩
theorem law5_mid (name : ByteArray) (d p : Bool) (w : World) (hn : (name.size : Int) ≤ 1048576) (h2 : (65536 : Int) < name.size) :
    Calls Try.prog 5 #[.string name, .bool d, .bool p] w fun e w' => e = .returned (.bool true) ∧ Grown w w' := by
  go_enter Try.func5, Try.ntmps5
  go_wp2_with (go_at_call 14; refine (bytes14_small _ _ _ _ hn).mono ?_; rintro e w' ⟨rfl, rfl⟩)
  go_ret
  exact ⟨rfl, Grown.refl _⟩

set_option maxHeartbeats 1000000 in
theorem law5_small (name : ByteArray) (d p : Bool) (w : World) (h2 : (name.size : Int) ≤ 65536) :
    Calls Try.prog 5 #[.string name, .bool d, .bool p] w fun e w' => e = .returned (.bool true) ∧ Grown w w' := by
  have hn : (name.size : Int) ≤ 1048576 := by omega
  go_enter Try.func5, Try.ntmps5
  go_wp2_with (first
    | (go_at_call 14; refine (bytes14_small _ _ _ _ hn).mono ?_; rintro e w' ⟨rfl, rfl⟩)
    | (refine wpList_opts2 rfl _ _ rfl d p rfl rfl ?_)
    | (refine wpList_storeOpts rfl _ _ rfl d p _ rfl rfl rfl ?_))
  refine (zzsplit _ _ name d p _ (by omega) (cell12 _ _ _) (cell3 _ _ _)).mono ?_
  rintro e w' ⟨⟨x, y, k, rfl, hW⟩, n, rfl⟩
  rcases hW with ⟨rfl, rfl, rfl, _⟩ | ⟨rfl, rfl, o, hO, hx, hy⟩ | ⟨rfl, rfl, rfl, q, hQ, hx, hy⟩ | ⟨rfl, rfl, rfl, _, o, hO, ho, hx, rfl⟩ | ⟨rfl, rfl, rfl, _, o, hO, ho, hx, hy⟩
  · go_wp2
    go_ret
    exact ⟨rfl, grown_new _ _ _ _⟩
  · have hcat : ((x ++ ⟨#[91]⟩ ++ y ++ ⟨#[93]⟩).toList == name.toList) = true := eq_toList (by rw [hx, hy]; exact cat_open name o hO)
    have hbx : x.size ≤ name.size := by rw [hx]; exact ext_size_le _ _ _
    have hby : y.size ≤ name.size := by rw [hy]; exact ext_size_le _ _ _
    clear hx hy hO
    go_wp2
    go_ret
    exact ⟨rfl, grown_new _ _ _ _⟩
  · have hc : x ++ ⟨#[91, 34]⟩ ++ y ++ ⟨#[34, 93]⟩ = name := by rw [hx, hy]; exact cat_quo name q hQ
    have hcat : ((x ++ ⟨#[91, 34]⟩ ++ y ++ ⟨#[34, 93]⟩).toList == name.toList) = true := eq_toList hc
    have hno : ((x ++ ⟨#[91]⟩ ++ y ++ ⟨#[93]⟩).toList == name.toList) = false := ne_toList (by
      rw [← hc]; simp only [ByteArray.size_append]
      rw [show (⟨#[91]⟩ : ByteArray).size = 1 from rfl, show (⟨#[93]⟩ : ByteArray).size = 1 from rfl, show (⟨#[91, 34]⟩ : ByteArray).size = 2 from rfl, show (⟨#[34, 93]⟩ : ByteArray).size = 2 from rfl]
      omega)
    have hbx : x.size ≤ name.size := by rw [hx]; exact ext_size_le _ _ _
    have hby : y.size ≤ name.size := by rw [hy]; exact ext_size_le _ _ _
    clear hx hy hQ hc
    go_wp2
    go_ret
    exact ⟨rfl, grown_new _ _ _ _⟩
  · have hcat : ((x ++ ⟨#[91, 93]⟩).toList == name.toList) = true := eq_toList (by rw [hx]; exact cat_array name o hO ho)
    have hbx : x.size ≤ name.size := by rw [hx]; exact ext_size_le _ _ _
    clear hx hO ho
    go_wp2
    go_ret
    exact ⟨rfl, grown_new _ _ _ _⟩
  · have hcat : ((x ++ ⟨#[91]⟩ ++ y ++ ⟨#[93]⟩).toList == name.toList) = true := eq_toList (by rw [hx, hy]; exact cat_open name o hO)
    have hbx : x.size ≤ name.size := by rw [hx]; exact ext_size_le _ _ _
    have hby : y.size ≤ name.size := by rw [hy]; exact ext_size_le _ _ _
    clear hx hy hO
    go_wp2
    go_ret
    exact ⟨rfl, grown_new _ _ _ _⟩
end Go.Proofs.Qxb6600831a
