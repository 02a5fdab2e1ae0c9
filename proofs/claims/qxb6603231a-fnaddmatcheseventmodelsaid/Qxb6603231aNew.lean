import Derived.Test.Qxb6603231aSizes
namespace Go.Proofs.Qxb6603231a
open Go Go.RowKit

def talCells (m mb qb : Nat) : Array Value := #[.int .i64 (m : Int), .map (some mb), .pointer none, .map (some qb)]
/-- ZZNewTally (function 11). -/
theorem new_any (m : Nat) (w0 : World) : Calls Try.prog 11 #[.int .i64 (m : Int)] w0 fun e w' => e = .returned (.pointer (some ⟨w0.heap.size + 2, 0, none⟩)) ∧
    ((w0.alloc (.map #[] 0)).alloc (.map #[] 0)).alloc (.cells (talCells m w0.heap.size (w0.heap.size + 1)) 66) = w' := by
  have h64 : ∀ w : World, (Instr.makeMap 64 none).run Try.prog w = .ok (.map (some w.heap.size)) (w.alloc (.map #[] 0)) := fun w => by simp [run_makeMap]
  have h54 : ∀ w : World, (Instr.makeMap 54 none).run Try.prog w = .ok (.map (some w.heap.size)) (w.alloc (.map #[] 0)) := fun w => by simp [run_makeMap]
  have hb := fun w : World => run_build (P := Try.prog) w 66 #[(0, .int .i64 (m : Int)), (1, .map (some w0.heap.size)), (3, .map (some (w0.heap.size + 1)))] (talCells m w0.heap.size (w0.heap.size + 1)) (by kernel_rfl)
  go_enter Try.func11, Try.ntmps11
  go_wp2
  go_ret
  exact ⟨rfl, rfl⟩

theorem new_tal (m : Nat) (w : World) : Tal (w.heap.size + 3) m (w.heap.size + 2) w.heap.size 0 [] (((w.alloc (.map #[] 0)).alloc (.map #[] 0)).alloc (.cells (talCells m w.heap.size (w.heap.size + 1)) 66)) := by
  refine ⟨by omega, by omega, by omega, by simp, ⟨.pointer none, w.heap.size + 1, ?_, Or.inl rfl⟩, ⟨.map [], ?_, fun _ => rfl⟩, (fun p hp => absurd hp List.not_mem_nil), List.nodup_nil⟩
  · have := (MapKept.heap_alloc ((w.alloc (.map #[] 0)).alloc (.map #[] 0)) (.cells (talCells m w.heap.size (w.heap.size + 1)) 66)).1
    rw [World.size_alloc, World.size_alloc] at this
    exact this
  · exact ((w.ownsMap_made Try.prog 2 ptrElem).alloc _).alloc _

/-- zzBytes_FnInMatchesAttemptModel (function 15). -/
theorem bytes15_yes (x : Value) (a : Option Addr) (n c : Nat) (w : World) (h : (n : Int) ≤ 1048576) :
    Calls Try.prog 15 #[x, .slice a n c] w fun e w' => e = .returned (.bool true) ∧ w = w' := by
  go_enter Try.func15, Try.ntmps15
  go_wp2
  go_ret
  exact ⟨rfl, rfl⟩
theorem bytes15_no (x : Value) (a : Option Addr) (n c : Nat) (w : World) (h : (1048576 : Int) < n) :
    Calls Try.prog 15 #[x, .slice a n c] w fun e w' => e = .returned (.bool false) ∧ w = w' := by
  go_enter Try.func15, Try.ntmps15
  go_wp2
  go_ret
  exact ⟨rfl, rfl⟩
end Go.Proofs.Qxb6603231a
