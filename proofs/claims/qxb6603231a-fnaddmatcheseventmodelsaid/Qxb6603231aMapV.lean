import Derived.Test.Qxb6603231aSizes
import Derived.WideKeyEntry
import Derived.Maps.OwnSet
namespace Go.Proofs.Qxb6603231a
open Go Go.RowKit
open Classical

/-! ### A map as a function from values to values -/
/-- Every element reads as itself. -/
def anyR (v : Value) : Option (DataW Value × List MemPlace) := some (.held v, [])
/-- The datum D says what f says. -/
def Says (k : TypeId) (D : DataW Value) (f : Value → Option Value) : Prop :=
  ∀ (v : Value) (l : Lit), keyOf Try.prog k v = some l → (f v = none ∧ Maps.has D l = false ∧ ∀ zd, D.atKey l zd = zd) ∨ ∃ u, f v = some u ∧ Maps.has D l = true ∧ ∀ zd, D.atKey l zd = .held u
/-- Block b is a map of cnt entries: what f says. -/
def MapV (k : TypeId) (b n : Nat) (f : Value → Option Value) (cnt : Nat) (w : World) : Prop :=
  ∃ D, w.ownsMap Try.prog k anyR b n D ∧ Says k D f ∧ Maps.size D = cnt
noncomputable def upd (f : Value → Option Value) (key val : Value) : Value → Option Value := fun v => if v = key then some val else f v
def noMap : Value → Option Value := fun _ => none

theorem MapV.made (w : World) (k : TypeId) : MapV k w.heap.size 0 noMap 0 (w.alloc (.map #[] 0)) :=
  ⟨.map [], w.ownsMap_made Try.prog k anyR, fun _ _ _ => Or.inl ⟨rfl, rfl, fun _ => rfl⟩, rfl⟩
theorem MapV.of_empty {w : World} {b : Nat} (k : TypeId) (h : w.heap[b]? = some (.map #[] 0)) : MapV k b 0 noMap 0 w :=
  ⟨.map [], ⟨#[], 0, h, ⟨by simp, MapKept.stamped_empty 0, by simp⟩, Nat.le_refl _, rfl⟩, fun _ _ _ => Or.inl ⟨rfl, rfl, fun _ => rfl⟩, rfl⟩
theorem MapV.keep {k : TypeId} {b n : Nat} {f : Value → Option Value} {cnt : Nat} {w w' : World} (h : MapV k b n f cnt w) (hk : w'.heap[b]? = w.heap[b]?) : MapV k b n f cnt w' := by
  obtain ⟨D, ⟨es, clock, hb, r⟩, hs⟩ := h
  exact ⟨D, ⟨es, clock, hk.trans hb, r⟩, hs⟩
theorem MapV.lt {k : TypeId} {b n : Nat} {f : Value → Option Value} {cnt : Nat} {w : World} (h : MapV k b n f cnt w) : b < w.heap.size := by
  obtain ⟨D, ho, _⟩ := h
  exact ho.lt
theorem MapV.mono {k : TypeId} {b n n' : Nat} {f : Value → Option Value} {cnt : Nat} {w : World} (h : MapV k b n f cnt w) (hn : n ≤ n') : MapV k b n' f cnt w := by
  obtain ⟨D, ho, hs⟩ := h
  exact ⟨D, ho.mono hn, hs⟩
theorem MapV.look {t k e : TypeId} {b n : Nat} {f : Value → Option Value} {cnt : Nat} {w : World} (h : MapV k b n f cnt w) (K : Maps.Keyed Try.prog k) (ht : Try.prog.underlying t = some (.map k e)) {z : Value} (hz : (zeroValue e).run Try.prog w = .ok z w)
    {key : Value} {l : Lit} (hkey : keyOf Try.prog k key = some l) : (Instr.lookup t (.map (some b)) key false).run Try.prog w = .ok ((f key).getD z) w := by
  obtain ⟨D, ho, hs, _⟩ := h
  obtain ⟨v, ps, hrun, hv⟩ := ho.lookup K ht hz (zd := .held z) (zp := []) rfl hkey
  simp only [anyR, Option.some.injEq, Prod.mk.injEq] at hv
  rcases hs key l hkey with ⟨h1, _, h3⟩ | ⟨u, h1, _, h3⟩
  · rw [h3] at hv; cases hv.1; rw [hrun, h1]; rfl
  · rw [h3] at hv; cases hv.1; rw [hrun, h1]; rfl
theorem MapV.look_ok {t k e : TypeId} {b n : Nat} {f : Value → Option Value} {cnt : Nat} {w : World} (h : MapV k b n f cnt w) (K : Maps.Keyed Try.prog k) (ht : Try.prog.underlying t = some (.map k e)) {z : Value} (hz : (zeroValue e).run Try.prog w = .ok z w)
    {key : Value} {l : Lit} (hkey : keyOf Try.prog k key = some l) : (Instr.lookup t (.map (some b)) key true).run Try.prog w = .ok (.tuple #[(f key).getD z, .bool (f key).isSome]) w := by
  obtain ⟨D, ho, hs, _⟩ := h
  obtain ⟨v, ps, hrun, hv⟩ := ho.look_ok K ht hz (zd := .held z) (zp := []) rfl hkey
  simp only [anyR, Option.some.injEq, Prod.mk.injEq] at hv
  rcases hs key l hkey with ⟨h1, h2, h3⟩ | ⟨u, h1, h2, h3⟩
  · rw [h3] at hv; cases hv.1; rw [hrun, h1, h2]; rfl
  · rw [h3] at hv; cases hv.1; rw [hrun, h1, h2]; rfl
theorem MapV.len {t k e : TypeId} {b n : Nat} {f : Value → Option Value} {cnt : Nat} {w : World} (h : MapV k b n f cnt w) (ht : Try.prog.underlying t = some (.map k e)) (ty : TypeId) :
    (Builtin.len_ #[t] ty #[.map (some b)]).run Try.prog w = .ok (.int .i64 (cnt : Int)) w := by
  obtain ⟨D, ho, _, rfl⟩ := h
  exact ho.len ht ty
theorem says_put {k : TypeId} {D : DataW Value} {f : Value → Option Value} (K : Maps.Keyed Try.prog k) (hs : Says k D f) (hD : Maps.IsMap D) {key : Value} {l : Lit} (hkey : keyOf Try.prog k key = some l) (val : Value) : Says k (D.put l (.held val)) (upd f key val) := by
  intro v lv hv
  by_cases e : v = key
  · subst e
    have : lv = l := by rw [hv] at hkey; exact Option.some.inj hkey
    subst this
    refine Or.inr ⟨val, by simp [upd], Maps.has_put_same hD (K.key hkey) _, fun zd => Maps.atKey_put_same hD (K.key hkey) _ _⟩
  · have hne : lv ≠ l := fun e2 => by subst e2; exact e (K.inj hv hkey)
    have hu : upd f key val v = f v := by simp [upd, e]
    rcases hs v lv hv with ⟨h1, h2, h3⟩ | ⟨u, h1, h2, h3⟩
    · exact Or.inl ⟨hu.trans h1, (Maps.has_put_other hne _).trans h2, fun zd => (Maps.atKey_put_other hne _ _).trans (h3 zd)⟩
    · exact Or.inr ⟨u, hu.trans h1, (Maps.has_put_other hne _).trans h2, fun zd => (Maps.atKey_put_other hne _ _).trans (h3 zd)⟩
theorem MapV.store {t k e : TypeId} {b n : Nat} {f : Value → Option Value} {cnt : Nat} {w : World} (h : MapV k b n f cnt w) (K : Maps.Keyed Try.prog k) (ht : Try.prog.underlying t = some (.map k e)) (hn : n < maxLen)
    {key : Value} {l : Lit} (hkey : keyOf Try.prog k key = some l) (val : Value) : ∃ w', (Instr.mapUpdate t (.map (some b)) key val).run Try.prog w = .ok () w' ∧ MapV k b (n + 1) (upd f key val) (if (f key).isSome then cnt else cnt + 1) w' ∧ w.mapTurned w' b := by
  obtain ⟨D, ho, hs, rfl⟩ := h
  obtain ⟨w', hrun, ho', ht'⟩ := ho.store K ht hn hkey (val := val) (d := .held val) (ps := []) rfl
  refine ⟨w', hrun, ⟨_, ho', says_put K hs ho.isMap hkey val, ?_⟩, ht'⟩
  rw [Maps.size_put (ho.tidy K)]
  rcases hs key l hkey with ⟨h1, h2, _⟩ | ⟨u, h1, h2, _⟩
  · rw [h1, h2]; rfl
  · rw [h1, h2]; rfl
end Go.Proofs.Qxb6603231a
