import Derived.Test.Qxb6603218aClone
import Derived.WalkSmall
namespace Go.Proofs.Qxb6603218a
open Go.RowKit
attribute [local go_sem] R_set

theorem bytes5_yes (a : Option Addr) (n c : Nat) (w : World) (h : (n : Int) ≤ 1048576) :
    Calls Try.prog 5 #[.slice a n c] w fun e w' => e = .returned (.bool true) ∧ w = w' := by
  go_enter Try.func5, Try.ntmps5
  go_wp2
  go_ret
  exact ⟨rfl, rfl⟩
theorem bytes5_no (a : Option Addr) (n c : Nat) (w : World) (h : (1048576 : Int) < n) :
    Calls Try.prog 5 #[.slice a n c] w fun e w' => e = .returned (.bool false) ∧ w = w' := by
  go_enter Try.func5, Try.ntmps5
  go_wp2
  go_ret
  exact ⟨rfl, rfl⟩

theorem law3_big (a : Option Addr) (n c : Nat) (w : World) (h : (1048576 : Int) < n) :
    Calls Try.prog 3 #[.slice a n c] w fun e w' => e = .returned (.bool true) ∧ Below w.heap.size w w' := by
  go_enter Try.func3, Try.ntmps3
  go_wp2_with (go_at_call 5; refine (bytes5_no _ _ _ _ h).mono ?_; rintro e w' ⟨rfl, rfl⟩)
  go_ret
  exact ⟨rfl, Below.refl _ _⟩
theorem law3_short (a : Option Addr) (n c : Nat) (w : World) (h : (n : Int) < 209) :
    Calls Try.prog 3 #[.slice a n c] w fun e w' => e = .returned (.bool true) ∧ Below w.heap.size w w' := by
  have h2 : (n : Int) ≤ 1048576 := by omega
  have b5 := bytes5_yes a n c w h2
  have q1 : decide ((1048576 : Int) < (n : Int)) = false := decide_eq_false (by omega)
  have q2 : decide ((n : Int) < 209) = true := decide_eq_true h
  clear h h2
  go_enter Try.func3, Try.ntmps3
  go_wp2_with (go_at_call 5; refine b5.mono ?_; rintro e w' ⟨rfl, rfl⟩)
  go_ret
  exact ⟨rfl, Below.refl _ _⟩

/-- The signed message. -/
def msg (zs : List Int) : List Int := zs.take 145 ++ zs.drop 209
theorem msg_len (zs : List Int) (m : Nat) (h : zs.length = m + 209) : (msg zs).length = 145 + m := by
  unfold msg; simp; omega
theorem msg_lo (zs : List Int) (m i : Nat) (h : zs.length = m + 209) (hi : i < 145) : (msg zs).getD i 0 = zs.getD i 0 := by
  unfold msg
  rw [List.getD_eq_getElem?_getD, List.getD_eq_getElem?_getD, List.getElem?_append_left (by rw [List.length_take]; omega), List.getElem?_take, if_pos hi]
theorem msg_hi (zs : List Int) (m i : Nat) (h : zs.length = m + 209) (hi : 145 ≤ i) : (msg zs).getD i 0 = zs.getD (i + 64) 0 := by
  unfold msg
  have hl : (zs.take 145).length = 145 := by rw [List.length_take]; omega
  rw [List.getD_eq_getElem?_getD, List.getD_eq_getElem?_getD, List.getElem?_append_right (by rw [hl]; exact hi), hl, List.getElem?_drop, show 209 + (i - 145) = i + 64 by omega]

set_option maxRecDepth 100000 in
set_option maxHeartbeats 4000000 in
theorem law3_main (b off m c : Nat) (zs : List Int) (w : World) (hz : zs.length = m + 209) (hn : m + 209 ≤ 1048576) (hb : b < w.heap.size)
    (hcell : ∀ j, j < m + 209 → w.cell? ⟨b, off + j, none⟩ = some (.int .u8 (zs.getD j 0))) :
    Calls Try.prog 3 #[.slice (some ⟨b, off, none⟩) (m + 209) c] w fun e w' => e = .returned (.bool true) ∧ Below w.heap.size w w' := by
  have hn2 : ((m : Int) + 209) ≤ 1048576 := by omega
  have b5 := bytes5_yes (some ⟨b, off, none⟩) (m + 209) c w (by omega)
  have cl1 := clone_any b off (m + 209) c zs w hz hn hb hcell
  obtain ⟨w1, hw1⟩ : ∃ w1, w1 = w.alloc (.cells (R zs) 5) := ⟨_, rfl⟩
  have s1 : w1.heap.size = w.heap.size + 1 := by rw [hw1]; simp
  have r1 : ∀ j, j < m + 209 → w1.cell? ⟨w.heap.size, 0 + j, none⟩ = some (.int .u8 (zs.getD j 0)) := fun j hj => by rw [hw1]; exact R_cell w zs j (by omega)
  have cl2 := clone_any w.heap.size 0 (m + 209) (m + 209) zs w1 hz hn (by omega) r1
  obtain ⟨w2, hw2⟩ : ∃ w2, w2 = w1.alloc (.cells (R zs) 5) := ⟨_, rfl⟩
  have s2 : w2.heap.size = w.heap.size + 2 := by rw [hw2]; simp [s1]
  have r2 : ∀ j, j < m + 209 → w2.cell? ⟨w.heap.size, 0 + j, none⟩ = some (.int .u8 (zs.getD j 0)) := fun j hj => by
    rw [hw2, World.cell?_alloc_past _ _ _ (by omega)]; exact r1 j hj
  have q2 : ∀ j, j < m + 209 → w2.cell? ⟨w1.heap.size, 0 + j, none⟩ = some (.int .u8 (zs.getD j 0)) := fun j hj => by rw [hw2]; exact R_cell w1 zs j (by omega)
  have sg := zzsigned_any w1.heap.size 0 m zs w2 hz hn (by omega) q2
  have eq := fun l : List Int => equal_any w1.heap.size 0 w.heap.size 0 (m + 209) (m + 209) (m + 209) zs (w2.alloc (.cells (R l) 5)) hn
    (fun j hj => by rw [World.cell?_alloc_past _ _ _ (by omega)]; exact q2 j hj) (fun j hj => by rw [World.cell?_alloc_past _ _ _ (by omega)]; exact r2 j hj)
  have be2 : Below w.heap.size w w2 := by
    rw [hw2, hw1]; exact ((Below.refl _ _).alloc (Nat.le_refl _) _).alloc (by simp) _
  rw [show zs.take 145 ++ zs.drop 209 = msg zs from rfl] at sg
  rw [← hw1] at cl1
  rw [← hw2] at cl2
  rw [s1] at cl2 sg eq
  have p1 : decide ((1048576 : Int) < (m : Int) + 209) = false := decide_eq_false (by omega)
  have p2 : decide ((m : Int) + 209 < 209) = false := decide_eq_false (by omega)
  have R2 := hide r2
  have Hz := hide hz
  have HB := hide be2
  have hs2 : w.heap.size < w2.heap.size := by omega
  have hm3 : (m : Int) ≤ 10000000 := by omega
  clear hcell r1 r2 q2 hw1 hw2 hz be2 s1 s2 hn hn2
  have p3 : ((145 + (m : Int)) != (m : Int) + 209 - 64) = false := by rw [bne_eq_false_iff_eq]; omega
  go_enter Try.func3, Try.ntmps3
  go_wp2_with (go_at_call 5; refine b5.mono ?_; rintro e w' ⟨rfl, rfl⟩)
  refine cl1.mono ?_
  rintro e w' ⟨rfl, rfl⟩
  go_wp2_with fail
  refine cl2.mono ?_
  rintro e W2 ⟨rfl, rfl⟩
  go_wp2_with fail
  refine sg.mono ?_
  rintro e w' ⟨rfl, rfl⟩
  clear cl1 cl2 sg b5
  go_wp2_with fail
  go_loop [5] (fun i => ∃ k : Nat, k ≤ 145 + m ∧ i = .int .i64 (k : Int)) (fun i => 145 + m - (intOf i).toNat)
  case atStart => exact ⟨0, Nat.zero_le _, rfl⟩
  case round =>
    obtain ⟨k, hk, rfl⟩ := hrel
    by_cases hlt : k < 145 + m
    · have hlt' : (k : Int) < 145 + (m : Int) := by omega
      have cm := R_at (msg zs) k (by rw [msg_len zs m Hz]; exact hlt)
      by_cases h145 : k < 145
      · have h145' : (k : Int) < 145 := by omega
        have hkb : (k : Int) < (m : Int) + 209 := by omega
        have cb := R2.out k (by omega)
        rw [Nat.zero_add, ← msg_lo zs m k Hz h145] at cb
        generalize (msg zs).getD k 0 = y at cm cb
        go_wp2
        go_round
        case rel => exact ⟨k + 1, by omega, by go_num⟩
        case measure => simp [intOf]; omega
      · have h145' : decide ((k : Int) < 145) = false := decide_eq_false (by omega)
        have hkb : (k : Int) + 64 < (m : Int) + 209 := by omega
        have cb := R2.out (k + 64) (by omega)
        rw [Nat.zero_add, ← msg_hi zs m k Hz (by omega)] at cb
        generalize (msg zs).getD k 0 = y at cm cb
        go_wp2
        go_round
        case rel => exact ⟨k + 1, by omega, by go_num⟩
        case measure => simp [intOf]; omega
    · have hlt' : decide ((k : Int) < 145 + (m : Int)) = false := decide_eq_false (by omega)
      go_wp2_with fail
      go_loopw [7] (fun i wr => ∃ (j : Nat) (l : List Int), j ≤ 145 + m ∧ l.length = 145 + m ∧ i = .int .i64 (j : Int) ∧ wr = W2.alloc (.cells (R l) 5)) (fun i _ => 145 + m - (intOf i).toNat)
      case atStart => exact ⟨0, msg zs, Nat.zero_le _, msg_len zs m Hz, rfl, rfl⟩
      case round =>
        obtain ⟨j, l, hj, hl, rfl, rfl⟩ := hrel
        have Hl := hide hl
        by_cases hjt : j < 145 + m
        · have hjt' : (j : Int) < 145 + (m : Int) := by omega
          have cm := R_at l j (by omega)
          generalize l.getD j 0 = y at cm
          clear hl
          go_wp2
          go_roundw
          case rel => exact ⟨j + 1, _, by omega, by rw [List.length_set]; exact Hl, by go_num, rfl⟩
          case measure => simp [intOf]; omega
        · have hjt' : decide ((j : Int) < 145 + (m : Int)) = false := decide_eq_false (by omega)
          clear hl
          go_wp2_with (go_at_call 8; refine (eq l).mono ?_; rintro e w' ⟨rfl, q, rfl⟩)
          go_ret
          exact ⟨rfl, Below.trans HB (below_drewN ((Below.refl _ _).alloc (by omega) _) q)⟩
end Go.Proofs.Qxb6603218a
