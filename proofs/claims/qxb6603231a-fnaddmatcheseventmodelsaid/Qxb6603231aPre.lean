import Derived.Test.Qxb6603231aLat
import Derived.Deep.LoopGhost
namespace Go.Proofs.Qxb6603231a
open Go Go.RowKit
attribute [local go_sem ↓] to_ld28 to_st28 to_al28 to_bx28 to_ld30 to_st30 to_al30

/-- Steps in memory. -/
def Lies (w : World) (b off n : Nat) (S : Nat → Step) : Prop := ∀ i, i < n → ∀ (j : Nat) (v : Value), (S i).cells[j]? = some v → w.cell? ⟨b, off + i * 37 + j, none⟩ = some v
theorem Lies.below {B : Nat} {w w' : World} {b off n : Nat} {S : Nat → Step} (h : Lies w b off n S) (hb : Below B w w') (hB : b < B) : Lies w' b off n S := fun i hi j v hj => (hb.cell (p := ⟨b, off + i * 37 + j, none⟩) hB).trans (h i hi j v hj)
theorem Lies.att {w : World} {b off n : Nat} {S : Nat → Step} (h : Lies w b off n S) {i : Nat} (hi : i < n) : w.cell? ⟨b, off + i * 37, none⟩ = some (.int .i64 (S i).att) := by
  have := h i hi 0 _ (Step.at0 _); rwa [Nat.add_zero] at this
theorem Lies.mem {w : World} {b off n : Nat} {S : Nat → Step} (h : Lies w b off n S) {i : Nat} (hi : i < n) : w.cell? ⟨b, off + i * 37 + 1, none⟩ = some (.int .i64 (S i).mem) := h i hi 1 _ (Step.at1 _)
theorem Lies.load {w : World} {b off n : Nat} {S : Nat → Step} (h : Lies w b off n S) {i : Nat} (hi : i < n) (hs : Sv (S i)) : ld 30 w (.pointer (some ⟨b, off + i * 37, none⟩)) = .ok (S i).v w := load30 hs b (off + i * 37) (h i hi)

/-- Some Bool; if it is true, P. -/
def AnyBool (e : Ending) (P : Prop) : Prop := ∃ r : Bool, e = .returned (.bool r) ∧ (r = true → P)

/-- zzBytes_FnAddMatchesEventModel (function 24). -/
theorem bytes24 (x : Value) (a : Option Addr) (n c : Nat) (w : World) : Calls Try.prog 24 #[x, .slice a n c] w fun e w' => AnyBool e True ∧ w = w' := by
  go_enter Try.func24, Try.ntmps24
  by_cases hn : (1048576 : Int) < (n : Int)
  · go_wp2
    go_ret
    exact ⟨⟨_, rfl, fun _ => trivial⟩, rfl⟩
  have hn' : decide ((1048576 : Int) < (n : Int)) = false := decide_eq_false hn
  go_wp2
  go_loopg [5, 6] n (fun g t5 t6 wr => ∃ k : Nat, k ≤ n ∧ g = n - k ∧ (n : Int) + 32 * (k : Int) ≤ 1048576 ∧ t5 = .int .i64 ((n : Int) + 32 * (k : Int)) ∧ t6 = .int .i64 (k : Int) ∧ wr = w)
  case atStart => exact ⟨0, Nat.zero_le _, rfl, by omega, by go_num, rfl, rfl⟩
  case round =>
    obtain ⟨k, hk, hg, hb, rfl, rfl, rfl⟩ := hrel
    by_cases hlt : (k : Int) < (n : Int)
    · by_cases hbig : (1048576 : Int) < (n : Int) + 32 * (k : Int) + 32
      · go_wp2
        go_ret
        exact ⟨⟨_, rfl, fun _ => trivial⟩, rfl⟩
      · have hbig' : decide ((1048576 : Int) < (n : Int) + 32 * (k : Int) + 32) = false := decide_eq_false hbig
        go_wp2
        go_roundg (n - (k + 1))
        case measure => omega
        case rel => exact ⟨k + 1, by omega, rfl, by omega, by go_num, by go_num, rfl⟩
    · have hlt' : decide ((k : Int) < (n : Int)) = false := decide_eq_false hlt
      go_wp2
      go_ret
      exact ⟨⟨_, rfl, fun _ => trivial⟩, rfl⟩

/-- membersInRange (function 8). -/
theorem members8 (m b off n c : Nat) (a : Option Addr) (ha : n = 0 ∨ a = some ⟨b, off, none⟩) (S : Nat → Step) (w : World) (hl : Lies w b off n S) (hn : n ≤ 4096) : Calls Try.prog 8 #[.int .i64 (m : Int), .slice a n c] w fun e w' => AnyBool e (∀ i, i < n → 0 ≤ (S i).mem ∧ (S i).mem < (m : Int)) ∧ w = w' := by
  have HL := hide hl
  have HA := hide ha
  clear hl ha
  go_enter Try.func8, Try.ntmps8
  go_wp2
  go_loopg [5] n (fun g t5 wr => ∃ k : Nat, k ≤ n ∧ g = n - k ∧ t5 = .int .i64 (k : Int) ∧ wr = w ∧ Hid (∀ i, i < k → 0 ≤ (S i).mem ∧ (S i).mem < (m : Int)))
  case atStart => exact ⟨0, Nat.zero_le _, rfl, rfl, rfl, hide fun i hi => by omega⟩
  case round =>
    obtain ⟨k, hk, hg, rfl, rfl, HB⟩ := hrel
    by_cases hlt : k < n
    · have hlt' : (k : Int) < (n : Int) := by omega
      obtain rfl : a = some ⟨b, off, none⟩ := HA.out.resolve_left (by omega)
      have ck := HL.out.mem hlt
      have HI : Hid (0 ≤ (S k).mem ∧ (S k).mem < (m : Int) → ∀ i, i < k + 1 → 0 ≤ (S i).mem ∧ (S i).mem < (m : Int)) := fun h i hi => by
        by_cases e : i = k
        · subst e; exact h
        · exact HB.out i (by omega)
      generalize (S k).mem = z at ck HI
      by_cases h0 : z < 0
      · have h0' : decide (z < 0) = true := decide_eq_true h0
        go_wp2
        go_ret
        exact ⟨⟨_, rfl, fun h => by cases h⟩, rfl⟩
      · have h0' : decide (z < 0) = false := decide_eq_false h0
        by_cases h1 : (m : Int) ≤ z
        · have h1' : decide ((m : Int) ≤ z) = true := decide_eq_true h1
          go_wp2
          go_ret
          exact ⟨⟨_, rfl, fun h => by cases h⟩, rfl⟩
        · have h1' : decide ((m : Int) ≤ z) = false := decide_eq_false h1
          go_wp2
          go_roundg (n - (k + 1))
          case measure => omega
          case rel => exact ⟨k + 1, by omega, rfl, by go_num, rfl, HI.out (by omega)⟩
    · have hlt' : decide ((k : Int) < (n : Int)) = false := decide_eq_false (by omega)
      go_wp2
      go_ret
      exact ⟨⟨_, rfl, fun _ i hi => HB.out i (by omega)⟩, rfl⟩

/-- distinctAddAttempts (function 9): some number up to the length. -/
theorem distinct9 (b off n c : Nat) (a : Option Addr) (ha : n = 0 ∨ a = some ⟨b, off, none⟩) (S : Nat → Step) (w : World) (hl : Lies w b off n S) (hn : n ≤ 4096) :
    Calls Try.prog 9 #[.slice a n c] w fun e w' => ∃ d : Nat, d ≤ n ∧ e = .returned (.int .i64 (d : Int)) ∧ ∃ q, w.drewN q = w' := by
  have HL := hide hl
  have HA := hide ha
  clear hl ha
  go_enter Try.func9, Try.ntmps9
  go_wp2
  go_loopg [3, 4] n (fun g t3 t4 wr => ∃ k d q : Nat, k ≤ n ∧ d ≤ k ∧ g = n - k ∧ t3 = .int .i64 (d : Int) ∧ t4 = .int .i64 (k : Int) ∧ wr = w.drewN q)
  case atStart => exact ⟨0, 0, 0, Nat.zero_le _, Nat.le_refl _, rfl, rfl, rfl, rfl⟩
  case round =>
    obtain ⟨k, d, q, hk, hd, hg, rfl, rfl, rfl⟩ := hrel
    by_cases hlt : k < n
    · have hlt' : (k : Int) < (n : Int) := by omega
      obtain rfl : a = some ⟨b, off, none⟩ := HA.out.resolve_left (by omega)
      have ck := HL.out.att hlt
      generalize (S k).att = z at ck
      go_wp2
      go_loopg [5, 6] k (fun g t5 t6 wr => ∃ j q : Nat, j ≤ k ∧ g = k - j ∧ t5 = .bool true ∧ t6 = .int .i64 (j : Int) ∧ wr = w.drewN q)
      case atStart => exact ⟨0, q, Nat.zero_le _, rfl, rfl, rfl, rfl⟩
      case round =>
        obtain ⟨j, q, hj, hg2, rfl, rfl, rfl⟩ := hrel
        by_cases hjt : j < k
        · have hjt' : (j : Int) < (k : Int) := by omega
          have hjn : (j : Int) < (n : Int) := by omega
          have cj := HL.out.att (show j < n by omega)
          generalize (S j).att = y at cj
          obtain ⟨W, hW⟩ : ∃ W, W = w.drewN q := ⟨_, rfl⟩
          have d1 : W.cell? ⟨b, off + j * 37, none⟩ = some (.int .i64 y) := by rw [hW]; exact cj
          have d2 : W.cell? ⟨b, off + k * 37, none⟩ = some (.int .i64 z) := by rw [hW]; exact ck
          rw [← hW]
          have HW := hide hW
          clear hW ck cj
          by_cases hyz : y = z
          · subst hyz
            go_wp2
            go_quiet (fail)
            go_wp2
            go_roundg (n - (k + 1))
            case measure => omega
            case rel => exact ⟨k + 1, d, q + nq, by omega, by omega, rfl, rfl, by go_num, by rw [HW.out, World.drewN_drewN]⟩
          · have hyz' : (y == z) = false := by simp [hyz]
            go_wp2
            go_quiet (fail)
            go_wp2
            go_roundg (k - (j + 1))
            case measure => omega
            case rel => exact ⟨j + 1, q + nq, by omega, rfl, rfl, by go_num, by rw [HW.out, World.drewN_drewN]⟩
        · have hjt' : decide ((j : Int) < (k : Int)) = false := decide_eq_false (by omega)
          go_wp2
          go_roundg (n - (k + 1))
          case measure => omega
          case rel => exact ⟨k + 1, d + 1, q, by omega, by omega, rfl, by go_num, by go_num, rfl⟩
    · have hlt' : decide ((k : Int) < (n : Int)) = false := decide_eq_false (by omega)
      go_wp2
      go_ret
      exact ⟨d, by omega, rfl, q, rfl⟩

/-- weightsBounded (function 25). -/
theorem bounded25 (b off n c : Nat) (a : Option Addr) (ha : n = 0 ∨ a = some ⟨b, off, none⟩) (S : Nat → Step) (w : World) (hs : ∀ i, i < n → Sv (S i)) (hl : Lies w b off n S) (hn : n ≤ 4096) (hb : 0 < n → b < w.heap.size) : Calls Try.prog 25 #[.slice a n c] w fun e w' => AnyBool e (∀ i, i < n → -70368744177664 ≤ (S i).wt ∧ (S i).wt ≤ 70368744177664 ∧ -70368744177664 ≤ (S i).tot ∧ (S i).tot ≤ 70368744177664) ∧ Below w.heap.size w w' := by
  have HS := hide hs
  have HL := hide hl
  have HAt := hide ha
  have HBs := hide hb
  obtain ⟨z0, hal, hst⟩ := new30
  clear hs hl ha hb
  go_enter Try.func25, Try.ntmps25
  go_wp2
  go_loopg [3] n (fun g t3 wr => ∃ k : Nat, k ≤ n ∧ g = n - k ∧ t3 = .int .i64 (k : Int) ∧ Hid (Below w.heap.size w wr ∧ ∀ i, i < k → -70368744177664 ≤ (S i).wt ∧ (S i).wt ≤ 70368744177664 ∧ -70368744177664 ≤ (S i).tot ∧ (S i).tot ≤ 70368744177664))
  case atStart => exact ⟨0, Nat.zero_le _, rfl, rfl, hide ⟨Below.refl _ _, fun i hi => by omega⟩⟩
  case round =>
    obtain ⟨k, hk, hg, rfl, HB⟩ := hrel
    by_cases hlt : k < n
    · have hlt' : (k : Int) < (n : Int) := by omega
      obtain rfl : a = some ⟨b, off, none⟩ := HAt.out.resolve_left (by omega)
      have hsk := HS.out k hlt
      have lk := (HL.out.below HB.out.1 (HBs.out (by omega))).load hlt hsk
      have st' := hst (S k) hsk
      have e1 := (MapKept.heap_alloc wr (stepO (S k))).1
      have c35 : (wr.alloc (stepO (S k))).cell? ⟨wr.heap.size, 35, none⟩ = some (.int .i64 (S k).wt) := by rw [cell_of e1]; simpa using Step.at35 hsk
      have c36 : (wr.alloc (stepO (S k))).cell? ⟨wr.heap.size, 36, none⟩ = some (.int .i64 (S k).tot) := by rw [cell_of e1]; simpa using Step.at36 hsk
      have BE := hide (HB.out.1.alloc HB.out.1.size (stepO (S k)))
      have HI : Hid (-70368744177664 ≤ (S k).wt ∧ (S k).wt ≤ 70368744177664 ∧ -70368744177664 ≤ (S k).tot ∧ (S k).tot ≤ 70368744177664 → ∀ i, i < k + 1 → -70368744177664 ≤ (S i).wt ∧ (S i).wt ≤ 70368744177664 ∧ -70368744177664 ≤ (S i).tot ∧ (S i).tot ≤ 70368744177664) := fun h i hi => by
        by_cases e : i = k
        · subst e; exact h
        · exact HB.out.2 i (by omega)
      go_upto_region 5 with fail
      generalize wr.alloc (stepO (S k)) = w1 at *
      generalize wr.heap.size = N at *
      generalize (S k).wt = wt at *
      generalize (S k).tot = tot at *
      clear e1 lk st' hal hst hsk
      by_cases a1 : wt < -70368744177664
      · have a1' : decide (wt < -70368744177664) = true := decide_eq_true a1
        clear a1
        go_wp2
        go_ret
        exact ⟨⟨_, rfl, fun h => by cases h⟩, BE.out⟩
      have a1' : decide (wt < -70368744177664) = false := decide_eq_false a1
      by_cases a2 : 70368744177664 < wt
      · have a2' : decide (70368744177664 < wt) = true := decide_eq_true a2
        clear a1 a2
        go_wp2
        go_ret
        exact ⟨⟨_, rfl, fun h => by cases h⟩, BE.out⟩
      have a2' : decide (70368744177664 < wt) = false := decide_eq_false a2
      by_cases a3 : tot < -70368744177664
      · have a3' : decide (tot < -70368744177664) = true := decide_eq_true a3
        clear a1 a2 a3
        go_wp2
        go_ret
        exact ⟨⟨_, rfl, fun h => by cases h⟩, BE.out⟩
      have a3' : decide (tot < -70368744177664) = false := decide_eq_false a3
      by_cases a4 : 70368744177664 < tot
      · have a4' : decide (70368744177664 < tot) = true := decide_eq_true a4
        clear a1 a2 a3 a4
        go_wp2
        go_ret
        exact ⟨⟨_, rfl, fun h => by cases h⟩, BE.out⟩
      have a4' : decide (70368744177664 < tot) = false := decide_eq_false a4
      have HA : Hid (-70368744177664 ≤ wt ∧ wt ≤ 70368744177664 ∧ -70368744177664 ≤ tot ∧ tot ≤ 70368744177664) := hide (by omega)
      clear a1 a2 a3 a4
      go_wp2
      go_roundg (n - (k + 1))
      case measure => omega
      case rel => exact ⟨k + 1, by omega, rfl, by go_num, hide ⟨BE.out, HI.out HA.out⟩⟩
    · have hlt' : decide ((k : Int) < (n : Int)) = false := decide_eq_false (by omega)
      go_wp2
      go_ret
      exact ⟨⟨true, rfl, fun _ i hi => HB.out.2 i (by omega)⟩, HB.out.1⟩

/-- Steps in a row of cells: those up to k. -/
def StepRow (S : Nat → Step) (k : Nat) (cs : Array Value) : Prop := ∀ i, i < k → ∀ (j : Nat) (v : Value), (S i).cells[j]? = some v → cs[i * 37 + j]? = some v
theorem StepRow.lies {S : Nat → Step} {n : Nat} {cs : Array Value} (h : StepRow S n cs) {w : World} {b : Nat} {e : TypeId} (hb : w.heap[b]? = some (.cells cs e)) : Lies w b 0 n S := fun i hi j v hj => by
  rw [Nat.zero_add, cell_of hb]; exact h i hi j v hj
theorem StepRow.set {S : Nat → Step} {k : Nat} {cs : Array Value} (h : StepRow S k cs) (hs : Sv (S k)) (h' : ∀ i, i < k → Sv (S i)) (hr : k * 37 + 37 ≤ cs.size) : StepRow S (k + 1) (splice cs (k * 37) (S k).cells) := by
  have hl := Step.len hs
  intro i hi j v hj
  have hjl := (List.getElem?_eq_some_iff.1 hj).1
  by_cases e : i = k
  · subst e
    rw [splice_in _ _ _ _ (by omega) hjl]; exact hj
  · have := Step.len (h' i (by omega))
    rw [splice_out _ _ _ _ (by omega) (Or.inl (by omega))]
    exact h i (by omega) j v hj
theorem info30 : (Try.prog.info? 30).map (fun i => (i.zero.map (·.cells.size), i.size, i.bytes)) = some (some 37, 37, 72) := by kernel_rfl
theorem make30 (n : Nat) (hn : n ≤ 4096) (w : World) : ∃ cs : Array Value, cs.size = n * 37 ∧ (Instr.makeSlice 22 (.int .i64 (n : Int)) (.int .i64 (n : Int))).run Try.prog w = .ok (.slice (some ⟨w.heap.size, 0, none⟩) n n) (w.alloc (.cells cs 30)) := by
  have hi := info30
  cases hq : Try.prog.info? 30 with
  | none => rw [hq] at hi; cases hi
  | some q =>
    rw [hq] at hi
    simp only [Option.map_some, Option.some.injEq, Prod.mk.injEq] at hi
    cases hz : q.zero with
    | none => rw [hz] at hi; cases hi.1
    | some z =>
      have := run_make (P := Try.prog) w 22 30 q z Try.underlying22 hq hz .i64 .i64 (n : Int) (n : Int) (by omega) (by omega) (by rw [hi.2.2]; omega) (by omega)
      rw [Int.toNat_natCast] at this
      refine ⟨_, ?_, this⟩
      rw [hi.2.1]
      simp [madeCells]
theorem stMid30 {w : World} {s : Step} (hs : Sv s) {b o : Nat} {cur : Array Value} (h : w.heap[b]? = some (.cells cur 30)) (hr : o + 37 ≤ cur.size) : st 30 w (.pointer (some ⟨b, o, none⟩)) s.v = .ok () (w.setRow b (splice cur o s.cells)) := by
  have hl := Step.len hs
  have h1 := Step.one s
  rw [Array.all_eq_true_iff_forall_mem] at h1
  have := run_storeCells_at (P := Try.prog) b o 30 s.cells 0 cur w h (by omega) (fun v hv => h1 v (by simpa using hv))
  unfold st splice Step.v
  cases hq : Try.prog.info? 30 with
  | none => have := size30; rw [hq] at this; cases this
  | some i =>
    have hs : i.size = 37 := by have := size30; rw [hq] at this; simpa using this
    simpa [Instr.storeAt, Instr.sureAddr, storeVar, sizeOf, typeInfo, hq, Value.cells, hs, hl] using this

/-- copyAddSteps (function 10). -/
theorem copy10 (b off n c : Nat) (a : Addr) (ha : n = 0 ∨ a = ⟨b, off, none⟩) (S : Nat → Step) (w : World) (hs : ∀ i, i < n → Sv (S i)) (hl : Lies w b off n S) (hn : n ≤ 4096) (hb : 0 < n → b < w.heap.size) :
    Calls Try.prog 10 #[.slice (some a) n c] w fun e w' => e = .returned (.slice (some ⟨w.heap.size, 0, none⟩) n n) ∧ ∃ cs : Array Value, StepRow S n cs ∧ w.alloc (.cells cs 30) = w' := by
  obtain ⟨cs0, hcs0, hmk⟩ := make30 n hn w
  have hnil := fun (wx : World) (c' : Nat) => Lib.run_eql_slice_nil (P := Try.prog) wx 22 30 (some a) n c' 0 0 Try.underlying22
  have HS := hide hs
  have HL := hide hl
  have H0 := hide hcs0
  have HA := hide ha
  have HBs := hide hb
  clear hs hl hcs0 ha hb
  go_enter Try.func10, Try.ntmps10
  go_wp2
  go_loopg [4] n (fun g t4 wr => ∃ (k : Nat) (cs : Array Value), k ≤ n ∧ g = n - k ∧ t4 = .int .i64 (k : Int) ∧ wr = w.alloc (.cells cs 30) ∧ Hid (cs.size = n * 37 ∧ StepRow S k cs))
  case atStart => exact ⟨0, cs0, Nat.zero_le _, rfl, rfl, rfl, hide ⟨H0.out, fun i hi => by omega⟩⟩
  case round =>
    obtain ⟨k, cs, hk, hg, rfl, rfl, HC⟩ := hrel
    by_cases hlt : k < n
    · have hlt' : (k : Int) < (n : Int) := by omega
      obtain rfl : a = ⟨b, off, none⟩ := HA.out.resolve_left (by omega)
      have hsk := HS.out k hlt
      have lk := (HL.out.below ((Below.refl w.heap.size w).alloc (Nat.le_refl _) (.cells cs 30)) (HBs.out (by omega))).load hlt hsk
      have hr : k * 37 + 37 ≤ cs.size := by rw [HC.out.1]; omega
      have sk := stMid30 hsk (MapKept.heap_alloc w (.cells cs 30)).1 hr
      rw [setRow_alloc] at sk
      have HN := hide (And.intro ((splice_size cs (k * 37) (S k).cells (by rw [Step.len hsk]; exact hr)).trans HC.out.1) (HC.out.2.set hsk (fun i hi => HS.out i (by omega)) hr))
      clear hsk hr
      generalize splice cs (k * 37) (S k).cells = cs' at *
      generalize (S k).v = v at *
      go_wp2
      go_roundg (n - (k + 1))
      case measure => omega
      case rel => exact ⟨k + 1, cs', by omega, rfl, by go_num, rfl, HN⟩
    · obtain rfl : k = n := by omega
      have hlt' : decide ((k : Int) < (k : Int)) = false := decide_eq_false (by omega)
      go_wp2
      go_ret
      exact ⟨rfl, cs, HC.out.2, rfl⟩
theorem copy10_nil (w : World) : Calls Try.prog 10 #[.slice none 0 0] w fun e w' => e = .returned (.slice none 0 0) ∧ w = w' := by
  have hnil := fun (wx : World) => Lib.run_eql_slice_nil (P := Try.prog) wx 22 30 none 0 0 0 0 Try.underlying22
  go_enter Try.func10, Try.ntmps10
  go_wp2
  go_ret
  exact ⟨rfl, rfl⟩
end Go.Proofs.Qxb6603231a
