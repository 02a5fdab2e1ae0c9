import Derived.Test.Qxb6600831aPlain
namespace Go.Proofs.Qxb6600831a.Spl
open Go

theorem lo_unique (t : List UInt8) (a b : Nat) (ha : LastOpen t a) (hb : LastOpen t b) : a = b := by
  have h1 := ha.len
  have h2 := hb.len
  by_cases h : a < b
  · exact absurd hb.here (ha.last b h (by omega))
  · by_cases h' : b < a
    · exact absurd ha.here (hb.last a h' (by omega))
    · omega

theorem mid_at (B M : List UInt8) (j : Nat) : (B ++ M)[B.length + j]? = M[j]? := by
  rw [List.getElem?_append_right (by omega)]; congr 1; omega

theorem mk_open (B E : List UInt8) (hE : ∀ j : Nat, E[j]? ≠ some 91) : LastOpen (B ++ ([91] ++ (E ++ [93]))) B.length where
  len := by simp
  close := by
    rw [show (B ++ ([91] ++ (E ++ [93])) : List UInt8).length - 1 = B.length + (1 + E.length) by simp; omega, mid_at, show ([91] ++ (E ++ [93]) : List UInt8) = ([91] ++ E) ++ [93] by simp]
    rw [show 1 + E.length = ([91] ++ E : List UInt8).length + 0 by simp; omega, mid_at]; rfl
  here := by rw [show B.length = B.length + 0 by omega, mid_at]; rfl
  last := by
    intro j h1 h2
    obtain ⟨i, rfl⟩ : ∃ i, j = B.length + (1 + i) := ⟨j - B.length - 1, by omega⟩
    have hi : i < E.length := by simp at h2; omega
    rw [mid_at, show ([91] ++ (E ++ [93]) : List UInt8)[1 + i]? = (E ++ [93])[i]? from mid_at [91] _ i, List.getElem?_append_left hi]
    exact hE i

theorem mk_quo (B E : List UInt8) (hE : ∀ j : Nat, ¬ (E[j]? = some 91 ∧ E[j + 1]? = some 34)) (hl : E[E.length - 1]? ≠ some 91) : Quo (B ++ ([91, 34] ++ (E ++ [34, 93]))) B.length where
  len := by simp
  close := by
    rw [show (B ++ ([91, 34] ++ (E ++ [34, 93])) : List UInt8).length - 1 = B.length + (2 + (E.length + 1)) by simp; omega, mid_at]
    rw [show ([91, 34] ++ (E ++ [34, 93]) : List UInt8)[2 + (E.length + 1)]? = (E ++ [34, 93])[E.length + 1]? from mid_at [91, 34] _ _, mid_at]; rfl
  quote := by
    rw [show (B ++ ([91, 34] ++ (E ++ [34, 93])) : List UInt8).length - 2 = B.length + (2 + (E.length + 0)) by simp; omega, mid_at]
    rw [show ([91, 34] ++ (E ++ [34, 93]) : List UInt8)[2 + (E.length + 0)]? = (E ++ [34, 93])[E.length + 0]? from mid_at [91, 34] _ _, mid_at]; rfl
  here := by rw [show B.length = B.length + 0 by omega, mid_at]; rfl
  next := by rw [mid_at]; rfl
  last := by
    intro j h1 h2 ⟨h3, h4⟩
    obtain ⟨i, rfl⟩ : ∃ i, j = B.length + (1 + i) := ⟨j - B.length - 1, by omega⟩
    have hlen : i ≤ E.length := by simp at h2; omega
    rw [mid_at] at h3
    rw [show B.length + (1 + i) + 1 = B.length + (1 + (i + 1)) by omega, mid_at] at h4
    cases i with
    | zero => simp at h3
    | succ i =>
      have e3 : ([91, 34] ++ (E ++ [34, 93]) : List UInt8)[1 + (i + 1)]? = (E ++ [34, 93])[i]? := by
        rw [show 1 + (i + 1) = 2 + i by omega]; exact mid_at [91, 34] _ i
      have e4 : ([91, 34] ++ (E ++ [34, 93]) : List UInt8)[1 + (i + 1 + 1)]? = (E ++ [34, 93])[i + 1]? := by
        rw [show 1 + (i + 1 + 1) = 2 + (i + 1) by omega]; exact mid_at [91, 34] _ (i + 1)
      rw [e3] at h3
      rw [e4] at h4
      rw [List.getElem?_append_left (by omega)] at h3
      by_cases hi : i + 1 < E.length
      · rw [List.getElem?_append_left hi] at h4
        exact hE i ⟨h3, h4⟩
      · rw [show i = E.length - 1 by omega] at h3
        exact hl h3

theorem cut_base (base rest : ByteArray) : (base ++ rest).extract 0 base.size = base := by
  apply ba_ext
  rw [ext_data, app_data, size_data]
  simp

theorem cut_mid (a b c : ByteArray) (i j : Nat) (hi : i = a.size) (hj : j = a.size + b.size) : (a ++ b ++ c).extract i j = b := by
  apply ba_ext
  subst hi hj
  rw [ext_data, app_data, app_data, size_data a, size_data b]
  simp

/-! ### What splitName answers at a name that is written so -/
theorem ways_open (base entry b e : ByteArray) (d : Bool) (k : Int) (hE : ∀ j : Nat, entry.data.toList[j]? ≠ some 91) (hq : d = false → entry.data.toList[entry.data.toList.length - 1]? ≠ some 34)
    (h : Ways (base ++ ⟨#[91]⟩ ++ entry ++ ⟨#[93]⟩) d false b e k) :
    b = base ∧ e = entry ∧ ((d = true ∧ k = 3) ∨ (d = false ∧ entry.size = 0 ∧ k = 1) ∨ (d = false ∧ 0 < entry.size ∧ k = 2)) := by
  have hl : (base ++ ⟨#[91]⟩ ++ entry ++ ⟨#[93]⟩).data.toList = base.data.toList ++ ([91] ++ (entry.data.toList ++ [93])) := by simp
  have hsz : (base ++ ⟨#[91]⟩ ++ entry ++ ⟨#[93]⟩).size = base.size + 1 + entry.size + 1 := by
    simp only [ByteArray.size_append]; rfl
  have hO := mk_open base.data.toList entry.data.toList hE
  rw [← hl, ← size_data] at hO
  have eb : (base ++ ⟨#[91]⟩ ++ entry ++ ⟨#[93]⟩).extract 0 base.size = base := by
    rw [show base ++ ⟨#[91]⟩ ++ entry ++ ⟨#[93]⟩ = base ++ (⟨#[91]⟩ ++ entry ++ ⟨#[93]⟩) from ba_ext (by simp)]
    exact cut_base _ _
  have ee : (base ++ ⟨#[91]⟩ ++ entry ++ ⟨#[93]⟩).extract (base.size + 1) ((base ++ ⟨#[91]⟩ ++ entry ++ ⟨#[93]⟩).size - 1) = entry := by
    refine cut_mid _ _ _ _ _ ?_ ?_
    · rw [ByteArray.size_append]; rfl
    · rw [hsz, ByteArray.size_append]; rw [show (⟨#[91]⟩ : ByteArray).size = 1 from rfl]; omega
  have hnq : d = false → ∀ q, ¬ Quo (base ++ ⟨#[91]⟩ ++ entry ++ ⟨#[93]⟩).data.toList q := by
    intro hd q hQ
    have h2 := hQ.quote
    rw [← size_data, hsz, hl] at h2
    by_cases h0 : entry.size = 0
    · rw [show base.size + 1 + entry.size + 1 - 2 = base.data.toList.length + 0 by rw [← size_data]; omega, mid_at] at h2
      simp at h2
    · rw [show base.size + 1 + entry.size + 1 - 2 = base.data.toList.length + (1 + (entry.data.toList.length - 1)) by rw [← size_data, ← size_data]; omega, mid_at] at h2
      rw [show ([91] ++ (entry.data.toList ++ [93]) : List UInt8)[1 + (entry.data.toList.length - 1)]? = (entry.data.toList ++ [93])[entry.data.toList.length - 1]? from mid_at [91] _ _] at h2
      rw [List.getElem?_append_left (by rw [← size_data]; omega)] at h2
      exact hq hd h2
  rcases h with ⟨rfl, rfl, rfl, hno⟩ | ⟨rfl, rfl, o, hO', rfl, rfl⟩ | ⟨rfl, rfl, _, q, hQ, _, _⟩ | ⟨rfl, rfl, _, _, o, hO', ho, rfl, rfl⟩ | ⟨rfl, rfl, _, _, o, hO', ho, rfl, rfl⟩
  · rcases hno with hno | ⟨h, _⟩
    · exact absurd hO (hno _)
    · cases h
  · rw [lo_unique _ _ _ hO' hO, eb, ee]; exact ⟨rfl, rfl, .inl ⟨rfl, rfl⟩⟩
  · exact absurd hQ (hnq rfl q)
  · rw [lo_unique _ _ _ hO' hO] at ho ⊢
    rw [eb]
    refine ⟨rfl, ?_, .inr (.inl ⟨rfl, by omega, rfl⟩)⟩
    apply ba_ext
    have : entry.data.toList.length = 0 := by rw [← size_data]; omega
    rw [List.eq_nil_of_length_eq_zero this]
  · rw [lo_unique _ _ _ hO' hO] at ho ⊢
    rw [eb, ee]; exact ⟨rfl, rfl, .inr (.inr ⟨rfl, by omega, rfl⟩)⟩

theorem ways_quo (base entry b e : ByteArray) (k : Int) (hE : ∀ j : Nat, ¬ (entry.data.toList[j]? = some 91 ∧ entry.data.toList[j + 1]? = some 34)) (hlast : entry.data.toList[entry.data.toList.length - 1]? ≠ some 91)
    (h : Ways (base ++ ⟨#[91, 34]⟩ ++ entry ++ ⟨#[34, 93]⟩) false false b e k) : b = base ∧ e = entry ∧ k = 2 := by
  have hl : (base ++ ⟨#[91, 34]⟩ ++ entry ++ ⟨#[34, 93]⟩).data.toList = base.data.toList ++ ([91, 34] ++ (entry.data.toList ++ [34, 93])) := by simp
  have hsz : (base ++ ⟨#[91, 34]⟩ ++ entry ++ ⟨#[34, 93]⟩).size = base.size + 2 + entry.size + 2 := by
    simp only [ByteArray.size_append]; rfl
  have hQ := mk_quo base.data.toList entry.data.toList hE hlast
  rw [← hl, ← size_data] at hQ
  have eb : (base ++ ⟨#[91, 34]⟩ ++ entry ++ ⟨#[34, 93]⟩).extract 0 base.size = base := by
    rw [show base ++ ⟨#[91, 34]⟩ ++ entry ++ ⟨#[34, 93]⟩ = base ++ (⟨#[91, 34]⟩ ++ entry ++ ⟨#[34, 93]⟩) from ba_ext (by simp)]
    exact cut_base _ _
  have ee : (base ++ ⟨#[91, 34]⟩ ++ entry ++ ⟨#[34, 93]⟩).extract (base.size + 2) ((base ++ ⟨#[91, 34]⟩ ++ entry ++ ⟨#[34, 93]⟩).size - 2) = entry := by
    refine cut_mid _ _ _ _ _ ?_ ?_
    · rw [ByteArray.size_append]; rfl
    · rw [hsz, ByteArray.size_append]; rw [show (⟨#[91, 34]⟩ : ByteArray).size = 2 from rfl]; omega
  rcases h with ⟨rfl, rfl, rfl, hno⟩ | ⟨_, h, _⟩ | ⟨rfl, _, _, q, hQ', rfl, rfl⟩ | ⟨_, _, _, hno, _⟩ | ⟨_, _, _, hno, _⟩
  · rcases hno with hno | ⟨h, _⟩
    · -- the bracket that opens the pair stands there: so a last one does
      exfalso
      have hclose := hQ.close
      have hlen := hQ.len
      have : ∀ (m j : Nat), (base ++ ⟨#[91, 34]⟩ ++ entry ++ ⟨#[34, 93]⟩).data.toList.length ≤ j + m → j + 1 < (base ++ ⟨#[91, 34]⟩ ++ entry ++ ⟨#[34, 93]⟩).data.toList.length → (base ++ ⟨#[91, 34]⟩ ++ entry ++ ⟨#[34, 93]⟩).data.toList[j]? = some 91 → ∃ o, LastOpen (base ++ ⟨#[91, 34]⟩ ++ entry ++ ⟨#[34, 93]⟩).data.toList o := by
        generalize (base ++ ⟨#[91, 34]⟩ ++ entry ++ ⟨#[34, 93]⟩).data.toList = t at hclose
        intro m
        induction m with
        | zero => intro j h1 h2; omega
        | succ m ih =>
          intro j h1 h2 h3
          by_cases h : ∃ i : Nat, j < i ∧ i + 1 < t.length ∧ t[i]? = some 91
          · obtain ⟨i, hi1, hi2, hi3⟩ := h
            exact ih i (by omega) hi2 hi3
          · exact ⟨j, by omega, hclose, h3, fun i h4 h5 h6 => h ⟨i, h4, h5, h6⟩⟩
      obtain ⟨o, ho⟩ := this _ base.size (Nat.le_add_left _ _) (by omega) hQ.here
      exact hno o ho
    · cases h
  · cases h
  · have h1 := hQ'.len
    have h2 := hQ.len
    have : q = base.size := by
      by_cases h : q < base.size
      · exact absurd ⟨hQ.here, hQ.next⟩ (hQ'.last _ h (by omega))
      · by_cases h' : base.size < q
        · exact absurd ⟨hQ'.here, hQ'.next⟩ (hQ.last _ h' (by omega))
        · omega
    rw [this, eb, ee]; exact ⟨rfl, rfl, rfl⟩
  · exact absurd hQ (hno _)
  · exact absurd hQ (hno _)
end Go.Proofs.Qxb6600831a.Spl
