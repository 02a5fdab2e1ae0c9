import Derived.Test.Qxb6603231aRound
import Derived.Deep.CutRange
import Derived.LaidEqlPtr
import Derived.Lib.Builder
namespace Go.Proofs.Qxb6603231a
open Go Go.RowKit

theorem info73 : ∃ j, Try.prog.info? 73 = some j ∧ j.size ≠ 0 := by
  have h : (Try.prog.info? 73).map (·.size) = some 7 := by kernel_rfl
  cases hq : Try.prog.info? 73 with
  | none => rw [hq] at h; cases h
  | some j => rw [hq] at h; refine ⟨j, rfl, ?_⟩; simp at h; omega
theorem ptr_neq_same (w : World) (z : Nat) : (binOp .neq 46 (.pointer (some ⟨z, 0, none⟩)) (.pointer (some ⟨z, 0, none⟩))).run Try.prog w = .ok (.bool false) w := by
  obtain ⟨j, hj, _⟩ := info73
  exact Lib.run_neq_ptr_same w ⟨z, 0, none⟩ Try.underlying46 hj
theorem Ball.ptr_other {H H' m m' : Nat} {att att' : Int} {w : World} {z z' : Nat} (h : Ball H m att w z) (h' : Ball H' m' att' w z') (hne : z ≠ z') : (binOp .eql 46 (.pointer (some ⟨z, 0, none⟩)) (.pointer (some ⟨z', 0, none⟩))).run Try.prog w = .ok (.bool false) w := by
  obtain ⟨j, hj, hs⟩ := info73
  obtain ⟨_, _, _, _, _, _, _, h1, _⟩ := h
  obtain ⟨_, _, _, _, _, _, _, h2, _⟩ := h'
  exact run_eql_ptr_other w (a := ⟨z, 0, none⟩) (b := ⟨z', 0, none⟩) Try.underlying46 hj hs (fun e => hne (by cases e; rfl)) h1 h2
theorem cell_new (w : World) (v : Value) (e : TypeId) : (w.alloc (.cells #[v] e)).cell? ⟨w.heap.size, 0, none⟩ = some v := by
  rw [cell_of (MapKept.heap_alloc w _).1]; rfl
theorem size_set (w : World) (p : Addr) (u : Value) : (w.setCell p u).heap.size = w.heap.size := by simp [World.setCell]
theorem cell_new2 (w : World) (o1 : Obj) (b i : Nat) (u v : Value) (e : TypeId) : (((w.alloc o1).setCell ⟨b, i, none⟩ u).alloc (.cells #[v] e)).cell? ⟨w.heap.size + 1, 0, none⟩ = some v := by
  have := cell_new ((w.alloc o1).setCell ⟨b, i, none⟩ u) v e
  rw [size_set, World.size_alloc] at this
  exact this
theorem Rest.grow {H n : Nat} {A : Nat → Int} {M : Nat → Bool} {w : World} {L : List (Int × Nat)} {wr : World} (h : Rest H n A M w L wr) (hlt : L.length < n) {a : Int} {z : Nat} {o1 o2 : Obj} :
    Rest H n A M w (L ++ [(a, z)]) ((((wr.alloc o1).setCell ⟨H + 4, L.length, none⟩ (.int .i64 a)).alloc o2).setCell ⟨H + 5, L.length, none⟩ (.pointer (some ⟨z, 0, none⟩))) := by
  have hs := h.size
  have s1 : ((wr.alloc o1).setCell ⟨H + 4, L.length, none⟩ (.int .i64 a)).heap.size = wr.heap.size + 1 := by rw [size_set, World.size_alloc]
  refine ⟨?_, ?_, ?_, ?_, ?_⟩
  · refine Below.setCell (Below.alloc (Below.setCell (h.below.alloc (by omega) _) ?_ _) ?_ _) ?_ _
    · show H ≤ H + 4; omega
    · rw [s1]; omega
    · show H ≤ H + 5; omega
  · rw [size_set, World.size_alloc, s1]; omega
  · obtain ⟨cs, h1, h2⟩ := h.steps
    refine ⟨cs, ?_, h2⟩
    rw [heap_set_other _ (by omega), Below.heap_alloc _ _ _ (by rw [s1]; omega), heap_set_other _ (by omega), Below.heap_alloc _ _ _ (by omega)]; exact h1
  · refine RowIs.keep (wr := (wr.alloc o1).setCell ⟨H + 4, L.length, none⟩ (seenF (a, z))) ?_ ?_
    · exact (h.seen.keep (Below.heap_alloc _ _ _ (by omega))).snoc hlt (a, z)
    · rw [heap_set_other _ (by omega), Below.heap_alloc _ _ _ (by rw [s1]; omega)]; rfl
  · refine RowIs.snoc (p := (a, z)) (f := ptrF) (h.ptrs.keep ?_) hlt
    rw [Below.heap_alloc _ _ _ (by rw [s1]; omega), heap_set_other _ (by omega), Below.heap_alloc _ _ _ (by omega)]
theorem size2 : (Try.prog.info? 2).map (·.size) = some 1 := by kernel_rfl
theorem size46 : (Try.prog.info? 46).map (·.size) = some 1 := by kernel_rfl
theorem look_none_of {L : List (Int × Nat)} {att : Int} (h : ∀ p ∈ L, p.1 ≠ att) : look L att = none := by
  unfold look
  rw [List.find?_eq_none.2 (fun p hp => by simpa using h p hp)]; rfl

set_option maxRecDepth 100000 in
set_option maxHeartbeats 4000000 in
theorem law4_main (b off n c m : Nat) (A : Nat → Int) (M : Nat → Bool) (w : World) (hn : n ≤ 4096) (hm : m ≤ 4096) (hb : b < w.heap.size) (hatt : ∀ j, j < n → (Lit.int .i64 (A j)).wf = true)
    (hcell : ∀ j, j < n → w.cell? ⟨b, off + j * 2, none⟩ = some (.int .i64 (A j)) ∧ w.cell? ⟨b, off + j * 2 + 1, none⟩ = some (.bool (M j))) :
    Calls Try.prog 4 #[.int .i64 (m : Int), .slice (some ⟨b, off, none⟩) n c] w fun e w' => e = .returned (.bool true) ∧ Below w.heap.size w w' := by
  have b15 := bytes15_yes (.int .i64 (m : Int)) (some ⟨b, off, none⟩) n c w (by omega)
  have ds := distinct_any b off n c A w hn (fun j hj => (hcell j hj).1)
  have p1 : decide ((4096 : Int) < (n : Int)) = false := decide_eq_false (by omega)
  have p2 : decide ((4096 : Int) < (m : Int)) = false := decide_eq_false (by omega)
  have p3 : decide ((m : Int) < 0) = false := decide_eq_false (by omega)
  have Hcell := hide hcell
  have Hatt := hide hatt
  clear hcell hatt
  have cp : ∀ q, Calls Try.prog 17 #[.slice (some ⟨b, off, none⟩) n c] (w.drewN q) fun e w' => e = .returned (.slice (some ⟨w.heap.size, 0, none⟩) n n) ∧ ∃ cs : Array Value, Steps A M n cs ∧ (w.drewN q).alloc (.cells cs 45) = w' :=
    fun q => copy_any b off n c A M (w.drewN q) hn hb Hcell
  obtain ⟨ss, hss, mkS⟩ := make_one 35 2 _ 8 Try.underlying35 info2 (by omega) n hn
  obtain ⟨pp, hpp, mkP⟩ := make_one 43 46 _ 8 Try.underlying43 info46 (by omega) n hn
  have Hss := hide hss
  have Hpp := hide hpp
  clear Hcell hss hpp
  obtain ⟨H, hH⟩ : ∃ H, H = w.heap.size := ⟨_, rfl⟩
  rw [← hH] at cp
  have HH := hide hH
  go_enter Try.func4, Try.ntmps4
  go_wp2_with (first | (go_at_call 15; refine b15.mono ?_; rintro e w' ⟨rfl, rfl⟩) | (go_at_call 16; refine ds.mono ?_; rintro e w' ⟨d, hd, rfl, q, rfl⟩))
  · go_ret
    exact ⟨rfl, ⟨rfl, rfl, rfl, Nat.le_refl _, fun _ _ => rfl⟩⟩
  clear b15 ds p1 p2 p3
  generalize wrap64 ((m : Int) * (d : Int)) = md
  refine (cp q).mono ?_
  rintro e W1 ⟨rfl, cs, hcs, hw1⟩
  have s1 : W1.heap.size = H + 1 := by rw [← hw1, hH]; exact World.size_alloc _ _
  have e1 : W1.heap[H]? = some (.cells cs 45) := by rw [← hw1, hH]; exact (MapKept.heap_alloc (w.drewN q) _).1
  have be1 : Below H w W1 := by
    rw [← hw1, hH]; exact (show Below w.heap.size w (w.drewN q) from ⟨rfl, rfl, rfl, Nat.le_refl _, fun _ _ => rfl⟩).alloc (Nat.le_refl _) _
  have nw := new_any m W1
  have nt := new_tal m W1
  rw [s1] at nw nt
  simp only [Nat.add_assoc, Nat.reduceAdd] at nw nt
  have HS := hide hcs
  have E1 := hide e1
  have B1 := hide be1
  have NT := hide nt
  have S1 := hide s1
  clear hw1 hcs e1 be1 nt s1 hH
  go_wp2_with fail
  refine nw.mono ?_
  rintro e W2 ⟨rfl, hw2⟩
  have T2 : Tal (H + 4) m (H + 3) (H + 1) 0 [] W2 := by rw [← hw2]; exact NT.out
  have s2 : W2.heap.size = H + 4 := by rw [← hw2]; simp [S1.out]
  have e2 : W2.heap[H]? = some (.cells cs 45) := by
    rw [← hw2, Below.heap_alloc _ _ _ (by simp [S1.out]; omega), Below.heap_alloc _ _ _ (by simp [S1.out]; omega), Below.heap_alloc _ _ _ (by simp [S1.out])]
    exact E1.out
  have be2 : Below H w W2 := by
    rw [← hw2]
    exact ((B1.out.alloc (by rw [S1.out]; omega) _).alloc (by simp [S1.out]; omega) _).alloc (by simp [S1.out]; omega) _
  have T2' := hide T2
  have E2 := hide e2
  have B2 := hide be2
  have S2 := hide s2
  clear hw2 T2 e2 be2 nw E1 B1 NT S1
  go_wp2_with fail
  have R0 : Rest H n A M w [] ((W2.alloc (.cells ss 2)).alloc (.cells pp 46)) := by
    have a1 : (W2.alloc (.cells ss 2)).heap[H + 4]? = some (.cells ss 2) := by
      have := (MapKept.heap_alloc W2 (.cells ss 2)).1
      rw [S2.out] at this; exact this
    have a2 : ((W2.alloc (.cells ss 2)).alloc (.cells pp 46)).heap[H + 5]? = some (.cells pp 46) := by
      have := (MapKept.heap_alloc (W2.alloc (.cells ss 2)) (.cells pp 46)).1
      rw [World.size_alloc, S2.out] at this; exact this
    have z1 := S2.out
    refine ⟨(B2.out.alloc (by omega) _).alloc (by simp; omega) _, by simp; omega, ⟨cs, ?_, HS.out⟩, ⟨ss, ?_, Hss, fun j p hj => by simp at hj⟩, ⟨pp, a2, Hpp, fun j p hj => by simp at hj⟩⟩
    · rw [Below.heap_alloc _ _ _ (by simp; omega), Below.heap_alloc _ _ _ (by omega)]; exact E2.out
    · rw [Below.heap_alloc _ _ _ (by simp; omega)]; exact a1
  have T0 : Tal (H + 6) m (H + 3) (H + 1) 0 [] ((W2.alloc (.cells ss 2)).alloc (.cells pp 46)) := by
    refine ((T2'.out.alloc _).alloc _).raise (by omega) ?_
    have z1 := S2.out
    simp; omega
  have R0' := hide R0
  have T0' := hide T0
  clear R0 T0 T2' E2 B2 S2 HS Hss Hpp mkS mkP cp s2
  go_loopg [6, 7, 8] n (fun g t6 t7 t8 wr => ∃ (k nn : Nat) (L : List (Int × Nat)), k ≤ n ∧ nn ≤ k ∧ L.length ≤ k ∧ g = n - k ∧ t6 = .slice (some ⟨H + 4, 0, none⟩) L.length n ∧ t7 = .slice (some ⟨H + 5, 0, none⟩) L.length n ∧ t8 = .int .i64 (k : Int) ∧
    Hid (Tal (H + 6) m (H + 3) (H + 1) nn L wr) ∧ Hid (Rest H n A M w L wr))
  case atStart => exact ⟨0, 0, [], Nat.zero_le _, Nat.le_refl _, Nat.le_refl _, rfl, rfl, rfl, rfl, T0', R0'⟩
  case round =>
    clear R0' T0'
    obtain ⟨k, nn, L, hk, hnn, hL, hg, rfl, rfl, rfl, HT, HR⟩ := hrel
    by_cases hlt : k < n
    · have hlt' : (k : Int) < (n : Int) := by omega
      have hc1 : wr.cell? ⟨H, 0 + k * 2, none⟩ = some (.int .i64 (A k)) := by
        obtain ⟨cs, h1, h2⟩ := HR.out.steps
        rw [Nat.zero_add, cell_of h1]; exact (h2 k hlt).1
      have hc2 : wr.cell? ⟨H, 0 + k * 2 + 1, none⟩ = some (.bool (M k)) := by
        obtain ⟨cs, h1, h2⟩ := HR.out.steps
        rw [Nat.zero_add, cell_of h1]; exact (h2 k hlt).2
      have hak := Hatt.out k hlt
      generalize A k = a at hc1 hak
      generalize M k = mk at hc2
      have zz := zzin_any (HT.out.alloc (.cells #[.int .i64 a, .bool mk] 45)) hm (by unfold maxLen; omega) a hak mk
      rw [Nat.zero_add] at hc1 hc2
      go_wp2_with fail
      refine zz.mono ?_
      rintro e W3 ⟨v, rfl, hK, hL3⟩
      have hsz := HR.out.size
      have R3 : Rest H n A M w L W3 := (HR.out.kept (kept_alloc _ _ _ _)).kept hK
      have e3 : W3.heap[wr.heap.size]? = some (.cells #[.int .i64 a, .bool mk] 45) := (hK.block _ (by simp) (by omega) (by omega)).trans (MapKept.heap_alloc wr _).1
      have c30 : W3.cell? ⟨wr.heap.size, 0, none⟩ = some (.int .i64 a) := by rw [cell_of e3]; rfl
      have c31 : W3.cell? ⟨wr.heap.size, 1, none⟩ = some (.bool mk) := by rw [cell_of e3]; rfl
      have hold : ∀ p ∈ L, p.2 < wr.heap.size + 1 := fun p hp => by
        have := (HT.out.balls p hp).lt; omega
      have hIn : InLeft (H + 6) m (H + 3) (H + 1) nn L a mk (wr.alloc (.cells #[.int .i64 a, .bool mk] 45)) v W3 := hL3
      unfold InLeft at hIn
      rw [World.size_alloc] at hIn
      clear zz hL3 hK e3 hc1 hc2
      generalize wr.heap.size = S at *
      have HIn := hide hIn
      have Hold := hide hold
      have R3' := hide R3
      clear hIn hold R3 HR HT
      go_upto_block 2 with fail
      go_cut [11, 12] from 65 to 78 (fun t11 t12 wx => ∃ q, wx = W3.drewN q ∧ ((look L a = none ∧ t11 = .int .i64 (-1)) ∨ ∃ (j : Nat) (p : Int × Nat), L[j]? = some p ∧ p.1 = a ∧ t11 = .int .i64 (j : Int)))
      case first =>
        clear HIn Hold
        go_wp2_with fail
        go_loopg [11, 12] L.length (fun g t11 t12 wr2 => ∃ j q : Nat, j ≤ L.length ∧ g = L.length - j ∧ t11 = .int .i64 (-1) ∧ t12 = .int .i64 (j : Int) ∧ wr2 = W3.drewN q ∧ Hid (∀ i p, i < j → L[i]? = some p → p.1 ≠ a))
        case atStart => exact ⟨0, 0, Nat.zero_le _, rfl, rfl, rfl, rfl, hide (fun i p hi => by omega)⟩
        case round =>
          obtain ⟨j, q, hj, hg2, rfl, rfl, rfl, HN⟩ := hrel
          by_cases hjt : j < L.length
          · have hjt' : (j : Int) < (L.length : Int) := by omega
            obtain ⟨⟨pa, pz⟩, hp⟩ : ∃ p, L[j]? = some p := ⟨_, List.getElem?_eq_getElem hjt⟩
            have cs3 := R3'.out.seen.cell hp
            obtain ⟨W, hW⟩ : ∃ W, W = W3.drewN q := ⟨_, rfl⟩
            have d1 : W.cell? ⟨H + 4, 0 + j, none⟩ = some (.int .i64 pa) := by rw [hW, Nat.zero_add]; exact cs3
            have d2 : W.cell? ⟨S, 0, none⟩ = some (.int .i64 a) := by rw [hW]; exact c30
            rw [← hW]
            rw [Nat.zero_add] at d1
            have HW := hide hW
            have HP := hide hp
            clear hW cs3 hp c30 c31
            by_cases hpa : pa = a
            · subst hpa
              go_wp2
              go_quiet (fail)
              go_wp2
              go_meet
              exact ⟨q + nq, by rw [HW.out, World.drewN_drewN], Or.inr ⟨j, (pa, pz), HP.out, rfl, rfl⟩⟩
            · have hpa' : (pa == a) = false := by simp [hpa]
              go_wp2
              go_quiet (fail)
              go_wp2
              go_roundg (L.length - (j + 1))
              case measure => omega
              case rel =>
                refine ⟨j + 1, q + nq, by omega, rfl, rfl, by go_num, by rw [HW.out, World.drewN_drewN], hide fun i p hi hip => ?_⟩
                by_cases e : i = j
                · subst e
                  have := hip.symm.trans HP.out
                  cases this
                  exact hpa
                · exact HN.out i p (by omega) hip
          · have hjt' : decide ((j : Int) < (L.length : Int)) = false := decide_eq_false (by omega)
            go_wp2
            go_meet
            refine ⟨q, rfl, Or.inl ⟨look_none_of fun p hp => ?_, rfl⟩⟩
            obtain ⟨i, hi, hip⟩ := List.mem_iff_getElem.1 hp
            exact HN.out i p (by omega) (by rw [List.getElem?_eq_getElem hi, hip])
      case rest =>
        obtain ⟨q, hwc, hcase⟩ := hcut
        have d0 : wc.cell? ⟨S, 0, none⟩ = some (.int .i64 a) := by rw [hwc]; exact c30
        have d1 : wc.cell? ⟨S, 1, none⟩ = some (.bool mk) := by rw [hwc]; exact c31
        have R4 : Hid (Rest H n A M w L wc) := by rw [hwc]; exact R3'.out.kept (kept_drewN _ _ _ _)
        have HI4 := HIn.out
        clear c30 c31 R3' HIn
        rcases HI4 with ⟨z, hz, rfl, hT⟩ | ⟨hz, rfl, rfl, hT⟩ | ⟨hz, rfl, z, rfl, hzz, hT⟩
        · rcases hcase with ⟨h0, _⟩ | ⟨j, ⟨pa, pz⟩, hj, rfl, rfl⟩
          · rw [hz] at h0; cases h0
          · have hjt : j < L.length := (List.getElem?_eq_some_iff.1 hj).1
            have hmem : (pa, pz) ∈ L := List.mem_of_getElem? hj
            have hlk := look_of_mem hT.nd hmem
            obtain rfl : pz = z := by
              have := hlk.symm.trans hz
              exact Option.some.inj this
            have cp4 : wc.cell? ⟨H + 5, j, none⟩ = some (.pointer (some ⟨pz, 0, none⟩)) := R4.out.ptrs.cell hj
            have T4 : Hid (Tal (H + 6) m (H + 3) (H + 1) nn L wc) := by rw [hwc]; exact hT.drewN q
            have hjt' : (j : Int) < (L.length : Int) := by omega
            have hnq := ptr_neq_same wc pz
            clear hz hlk hwc hmem hj hT
            go_wp2
            go_roundg (n - (k + 1))
            case measure => omega
            case rel => exact ⟨k + 1, nn, L, by omega, by omega, by omega, rfl, rfl, rfl, by go_num, T4, R4⟩
        · rcases hcase with ⟨h0, rfl⟩ | ⟨j, p, hj, hpa, _⟩
          · have T4 : Hid (Tal (H + 6) m (H + 3) (H + 1) nn L wc) := by rw [hwc]; exact hT.drewN q
            clear hz h0 hwc hT
            go_wp2
            go_roundg (n - (k + 1))
            case measure => omega
            case rel => exact ⟨k + 1, nn, L, by omega, by omega, by omega, rfl, rfl, rfl, by go_num, T4, R4⟩
          · exact absurd hpa (look_none hz p (List.mem_of_getElem? hj))
        · rcases hcase with ⟨h0, rfl⟩ | ⟨j, p, hj, hpa, _⟩
          · have T4 : Tal (H + 6) m (H + 3) (H + 1) (nn + 1) (L ++ [(a, z)]) wc := by rw [hwc]; exact hT.drewN q
            have sz := sizes_any (T4.balls (a, z) (by simp))
            have T4' := hide T4
            clear hz h0 hwc hT T4
            have Hzz := hide hzz
            clear hzz
            go_wp2_with fail
            refine sz.mono ?_
            rintro e W5 ⟨rfl, nd, hw5⟩
            have T5 : Hid (Tal (H + 6) m (H + 3) (H + 1) (nn + 1) (L ++ [(a, z)]) W5) := by rw [← hw5]; exact T4'.out.drewN nd
            have R5 : Hid (Rest H n A M w L W5) := by rw [← hw5]; exact R4.out.kept (kept_drewN _ _ _ _)
            have f0 : W5.cell? ⟨S, 0, none⟩ = some (.int .i64 a) := by rw [← hw5]; exact d0
            clear sz d0 d1 hw5 T4' R4
            go_wp2_with fail
            go_loopg [20] L.length (fun g t20 wr2 => ∃ j : Nat, j ≤ L.length ∧ g = L.length - j ∧ t20 = .int .i64 (j : Int) ∧ W5 = wr2)
            case atStart => exact ⟨0, Nat.zero_le _, rfl, rfl, rfl⟩
            case round =>
              obtain ⟨j, hj, hg3, rfl, rfl⟩ := hrel
              by_cases hjt : j < L.length
              · have hjt' : (j : Int) < (L.length : Int) := by omega
                obtain ⟨⟨pa, pz⟩, hp⟩ : ∃ p, L[j]? = some p := ⟨_, List.getElem?_eq_getElem hjt⟩
                have hmem : (pa, pz) ∈ L := List.mem_of_getElem? hp
                have cp5 : W5.cell? ⟨H + 5, j, none⟩ = some (.pointer (some ⟨pz, 0, none⟩)) := R5.out.ptrs.cell hp
                have hlt2 := Hold.out _ hmem
                have hge := Hzz.out
                have hq := (T5.out.balls (pa, pz) (by simp [hmem])).ptr_other (T5.out.balls (a, z) (by simp)) (by simp only at hlt2 ⊢; omega)
                clear hp hmem hlt2 hge
                go_wp2
                go_roundg (L.length - (j + 1))
                case measure => omega
                case rel => exact ⟨j + 1, by omega, rfl, by go_num, rfl⟩
              · have hjt' : decide ((j : Int) < (L.length : Int)) = false := decide_eq_false (by omega)
                obtain ⟨s5, hs5, hss5, _⟩ := R5.out.seen
                obtain ⟨p5, hp5, hpp5, _⟩ := R5.out.ptrs
                have z5 := R5.out.size
                have hb1 : ∀ o : Obj, (W5.alloc o).heap[H + 4]? = some (.cells s5 2) := fun o => by rw [Below.heap_alloc _ _ _ (by omega)]; exact hs5
                have hb2 : ∀ (o1 o2 : Obj) (u : Value), (((W5.alloc o1).setCell ⟨H + 4, L.length, none⟩ u).alloc o2).heap[H + 5]? = some (.cells p5 46) := fun o1 o2 u => by
                  rw [Below.heap_alloc _ _ _ (by rw [size_set, World.size_alloc]; omega), heap_set_other _ (by omega), Below.heap_alloc _ _ _ (by omega)]; exact hp5
                have hv2 := fun (o1 : Obj) (u v : Value) => cell_new2 W5 o1 (H + 4) L.length u v 46
                have L5 := hide hss5
                have M5 := hide hpp5
                have Z5 := hide z5
                clear hs5 hp5 hss5 hpp5 z5
                go_wp2_with (first
                  | (at_builtin; refine wpList_append1 rfl _ _ 35 2 rfl Try.underlying35 size2 (H + 4) L.length n _ (.int .i64 a) s5 rfl rfl (cell_new _ _ _) rfl (by omega) (hb1 _) (by rw [L5.out]; omega) ?_)
                  | (at_builtin; refine wpList_append1 rfl _ _ 43 46 rfl Try.underlying43 size46 (H + 5) L.length n _ (.pointer (some ⟨z, 0, none⟩)) p5 rfl rfl (hv2 _ _ _) rfl (by omega) (hb2 _ _ _) (by rw [M5.out]; omega) ?_)
                  | go_in)
                go_roundg (n - (k + 1))
                case measure => omega
                case rel =>
                  have hlen : L.length < n := by omega
                  have z5 := Z5.out
                  have hlen2 : (L ++ [(a, z)]).length = L.length + 1 := by simp
                  refine ⟨k + 1, nn + 1, L ++ [(a, z)], by omega, by omega, by omega, rfl, by rw [hlen2], by rw [hlen2], by go_num, hide ?_, hide ?_⟩
                  · exact (((T5.out.alloc _).setCell (p := ⟨H + 4, L.length, none⟩) (by simp) (by simp) (by simp) _).alloc _).setCell (p := ⟨H + 5, L.length, none⟩) (by simp) (by simp) (by simp) _
                  · exact R5.out.grow hlen
          · exact absurd hpa (look_none hz p (List.mem_of_getElem? hj))
    · have hlt' : decide ((k : Int) < (n : Int)) = false := decide_eq_false (by omega)
      go_wp2
      go_ret
      exact ⟨rfl, by rw [← HH.out]; exact HR.out.below⟩
end Go.Proofs.Qxb6603231a
