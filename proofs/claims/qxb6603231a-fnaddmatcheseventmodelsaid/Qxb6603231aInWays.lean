import Derived.Test.Qxb6603231aIn
namespace Go.Proofs.Qxb6603231a
open Go Go.RowKit

theorem in_hit (tb zl : Nat) (att : Int) (made : Bool) (w : World) (c2 : w.cell? ⟨tb, 2, none⟩ = some (.pointer (some ⟨zl, 0, none⟩))) (c3 : w.cell? ⟨zl, 0, none⟩ = some (.int .i64 att)) :
    Calls Try.prog 31 #[.pointer (some ⟨tb, 0, none⟩), .int .i64 att, .bool made] w fun e w' => e = .returned (.pointer (some ⟨zl, 0, none⟩)) ∧ w = w' := by
  go_enter Try.func31, Try.ntmps31
  go_wp2
  go_ret
  exact ⟨rfl, rfl⟩

theorem in_found (tb mb n z : Nat) (att : Int) (made : Bool) (hatt : (Lit.int .i64 att).wf = true) (w : World) (D : DataW Unit)
    (c1 : w.cell? ⟨tb, 1, none⟩ = some (.map (some mb))) (c2 : LastMiss w tb att) (f2 : w.frozen? ⟨tb, 2, none⟩ = false)
    (hown : w.ownsMap Try.prog 2 ptrElem mb n D) (hlk : D.atKey (.int .i64 att) (.lit (.int .i64 (-1))) = .lit (.int .i64 (z : Int))) :
    Calls Try.prog 31 #[.pointer (some ⟨tb, 0, none⟩), .int .i64 att, .bool made] w fun e w' => e = .returned (.pointer (some ⟨z, 0, none⟩)) ∧ w.setCell ⟨tb, 2, none⟩ (.pointer (some ⟨z, 0, none⟩)) = w' := by
  have hkey : keyOf Try.prog 2 (.int .i64 att) = some (.int .i64 att) := Maps.keyOf_int_mk Try.underlying2 hatt
  have hz : (zeroValue 46).run Try.prog w = .ok (.pointer none) w := by kernel_rfl
  obtain ⟨v, ps, hrun, hv⟩ := hown.lookup keyed2 Try.underlying64 hz (zd := .lit (.int .i64 (-1))) (zp := []) rfl hkey
  rw [hlk] at hv
  obtain rfl := ptrElem_some hv
  have c2' : ∃ v2, w.cell? ⟨tb, 2, none⟩ = some v2 := by
    rcases c2 with c2 | ⟨zl, al, c2, _⟩
    · exact ⟨_, c2⟩
    · exact ⟨_, c2⟩
  obtain ⟨v2, c2'⟩ := c2'
  clear hv hlk hz hown
  go_enter Try.func31, Try.ntmps31
  go_upto_region 1 with fail
  go_cut [23] (fun t wx => t = .bool false ∧ w = wx)
  case first =>
    clear c2'
    rcases c2 with c2 | ⟨zl, al, c2, c3, hal⟩
    · go_wp2
      go_meet
      exact ⟨rfl, rfl⟩
    · go_wp2
      go_meet
      exact ⟨by simp [hal], rfl⟩
  case rest =>
  obtain ⟨rfl, rfl⟩ := hcut
  clear c2
  go_wp2
  go_ret
  exact ⟨rfl, rfl⟩

theorem in_none (tb mb n : Nat) (att : Int) (hatt : (Lit.int .i64 att).wf = true) (w : World) (D : DataW Unit)
    (c1 : w.cell? ⟨tb, 1, none⟩ = some (.map (some mb))) (c2 : LastMiss w tb att)
    (hown : w.ownsMap Try.prog 2 ptrElem mb n D) (hlk : D.atKey (.int .i64 att) (.lit (.int .i64 (-1))) = .lit (.int .i64 (-1))) :
    Calls Try.prog 31 #[.pointer (some ⟨tb, 0, none⟩), .int .i64 att, .bool false] w fun e w' => e = .returned (.pointer none) ∧ w = w' := by
  have hkey : keyOf Try.prog 2 (.int .i64 att) = some (.int .i64 att) := Maps.keyOf_int_mk Try.underlying2 hatt
  have hz : (zeroValue 46).run Try.prog w = .ok (.pointer none) w := by kernel_rfl
  obtain ⟨v, ps, hrun, hv⟩ := hown.lookup keyed2 Try.underlying64 hz (zd := .lit (.int .i64 (-1))) (zp := []) rfl hkey
  rw [hlk] at hv
  obtain rfl := ptrElem_none hv
  clear hv hlk hz hown
  go_enter Try.func31, Try.ntmps31
  go_upto_region 1 with fail
  go_cut [23] (fun t wx => t = .bool false ∧ w = wx)
  case first =>
    rcases c2 with c2 | ⟨zl, al, c2, c3, hal⟩
    · go_wp2
      go_meet
      exact ⟨rfl, rfl⟩
    · go_wp2
      go_meet
      exact ⟨by simp [hal], rfl⟩
  case rest =>
  obtain ⟨rfl, rfl⟩ := hcut
  clear c2
  go_wp2
  go_ret
  exact ⟨rfl, rfl⟩

end Go.Proofs.Qxb6603231a
