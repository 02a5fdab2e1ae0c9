import Derived.Lib.LastIndexLaws
import Derived.Lib.LastIndexByte
import Derived.Lib.Strings
namespace Go.Proofs.Qxb6600831a.Spl
open Go

/-! THE PLAIN LAYER: what splitName answers, said by places in the name's list of bytes. No program, no world. -/

theorem ba_ext {a b : ByteArray} (h : a.data.toList = b.data.toList) : a = b := by
  cases a; cases b; simp at h; simp [h]
theorem size_data (a : ByteArray) : a.size = a.data.toList.length := by simp
theorem app_data (a b : ByteArray) : (a ++ b).data.toList = a.data.toList ++ b.data.toList := by simp
theorem ext_data (s : ByteArray) (a b : Nat) : (s.extract a b).data.toList = (s.data.toList.drop a).take (b - a) := Lib.extract_data s a b

/-- The last '[' ahead of the final ']'. -/
structure LastOpen (t : List UInt8) (o : Nat) : Prop where
  len : o + 2 ≤ t.length
  close : t[t.length - 1]? = some 93
  here : t[o]? = some 91
  last : ∀ j, o < j → j + 1 < t.length → t[j]? ≠ some 91

/-- The quoted reading: the last bracket with a quote behind it ahead of the final closing bracket, with a quote of its own ahead of that. -/
structure Quo (t : List UInt8) (q : Nat) : Prop where
  len : q + 4 ≤ t.length
  close : t[t.length - 1]? = some 93
  quote : t[t.length - 2]? = some 34
  here : t[q]? = some 91
  next : t[q + 1]? = some 34
  last : ∀ j, q < j → j + 2 < t.length → ¬ (t[j]? = some 91 ∧ t[j + 1]? = some 34)

/-- What splitName answers: the base, the entry, the kind. -/
def Ways (name : ByteArray) (d p : Bool) (b e : ByteArray) (k : Int) : Prop :=
  (k = 0 ∧ b = name ∧ e = ⟨#[]⟩ ∧ ((∀ o, ¬ LastOpen name.data.toList o) ∨ (p = true ∧ d = false))) ∨
  (k = 3 ∧ d = true ∧ ∃ o, LastOpen name.data.toList o ∧ b = name.extract 0 o ∧ e = name.extract (o + 1) (name.size - 1)) ∨
  (k = 2 ∧ d = false ∧ p = false ∧ ∃ q, Quo name.data.toList q ∧ b = name.extract 0 q ∧ e = name.extract (q + 2) (name.size - 2)) ∨
  (k = 1 ∧ d = false ∧ p = false ∧ (∀ q, ¬ Quo name.data.toList q) ∧ ∃ o, LastOpen name.data.toList o ∧ o + 2 = name.size ∧ b = name.extract 0 o ∧ e = ⟨#[]⟩) ∨
  (k = 2 ∧ d = false ∧ p = false ∧ (∀ q, ¬ Quo name.data.toList q) ∧ ∃ o, LastOpen name.data.toList o ∧ o + 2 < name.size ∧ b = name.extract 0 o ∧ e = name.extract (o + 1) (name.size - 1))

/-! ### The list is put together again -/
theorem drop_last1 (t : List UInt8) (c : UInt8) (h0 : 1 ≤ t.length) (h : t[t.length - 1]? = some c) : t.drop (t.length - 1) = [c] := by
  obtain ⟨hl, he⟩ := List.getElem?_eq_some_iff.1 h
  rw [List.drop_eq_getElem_cons hl, he, show t.length - 1 + 1 = t.length by omega, List.drop_length]

theorem drop_at (t : List UInt8) (i : Nat) (c : UInt8) (h : t[i]? = some c) : t.drop i = c :: t.drop (i + 1) := by
  obtain ⟨hl, he⟩ := List.getElem?_eq_some_iff.1 h
  rw [List.drop_eq_getElem_cons hl, he]

theorem cut_two (t : List UInt8) (i j : Nat) (h : i ≤ j) : t.drop i = (t.drop i).take (j - i) ++ t.drop j := by
  have e : (t.drop i).drop (j - i) = t.drop j := by rw [List.drop_drop]; congr 1; omega
  rw [← e, List.take_append_drop]

theorem whole_open (t : List UInt8) (o : Nat) (h : LastOpen t o) : t.take o ++ [91] ++ (t.drop (o + 1)).take (t.length - 1 - (o + 1)) ++ [93] = t := by
  have h1 := drop_last1 t 93 (by have := h.len; omega) h.close
  have h2 := cut_two t (o + 1) (t.length - 1) (by have := h.len; omega)
  rw [h1] at h2
  have h3 := drop_at t o 91 h.here
  calc _ = t.take o ++ (91 :: ((t.drop (o + 1)).take (t.length - 1 - (o + 1)) ++ [93])) := by simp
    _ = t.take o ++ (91 :: t.drop (o + 1)) := by rw [← h2]
    _ = t := by rw [← h3, List.take_append_drop]

theorem whole_quo (t : List UInt8) (q : Nat) (h : Quo t q) : t.take q ++ [91, 34] ++ (t.drop (q + 2)).take (t.length - 2 - (q + 2)) ++ [34, 93] = t := by
  have hl := h.len
  have h1 := drop_last1 t 93 (by omega) h.close
  have h1' := drop_at t (t.length - 2) 34 h.quote
  rw [show t.length - 2 + 1 = t.length - 1 by omega, h1] at h1'
  have h2 := cut_two t (q + 2) (t.length - 2) (by omega)
  rw [h1'] at h2
  have h3 := drop_at t q 91 h.here
  have h4 := drop_at t (q + 1) 34 h.next
  rw [h4, show q + 1 + 1 = q + 2 by omega] at h3
  calc _ = t.take q ++ (91 :: 34 :: ((t.drop (q + 2)).take (t.length - 2 - (q + 2)) ++ [34, 93])) := by simp
    _ = t.take q ++ (91 :: 34 :: t.drop (q + 2)) := by rw [← h2]
    _ = t := by rw [← h3, List.take_append_drop]

theorem cat_open (name : ByteArray) (o : Nat) (h : LastOpen name.data.toList o) : name.extract 0 o ++ ⟨#[91]⟩ ++ name.extract (o + 1) (name.size - 1) ++ ⟨#[93]⟩ = name := by
  apply ba_ext
  simp only [app_data, ext_data]
  rw [size_data name]
  simpa using whole_open _ _ h

theorem cat_quo (name : ByteArray) (q : Nat) (h : Quo name.data.toList q) : name.extract 0 q ++ ⟨#[91, 34]⟩ ++ name.extract (q + 2) (name.size - 2) ++ ⟨#[34, 93]⟩ = name := by
  apply ba_ext
  simp only [app_data, ext_data]
  rw [size_data name]
  simpa using whole_quo _ _ h

theorem cat_array (name : ByteArray) (o : Nat) (h : LastOpen name.data.toList o) (ho : o + 2 = name.size) : name.extract 0 o ++ ⟨#[91, 93]⟩ = name := by
  have hc := cat_open name o h
  have e : name.extract (o + 1) (name.size - 1) = ⟨#[]⟩ := by
    apply ba_ext; rw [ext_data, show name.size - 1 - (o + 1) = 0 by omega]; rfl
  rw [e] at hc
  calc _ = name.extract 0 o ++ ⟨#[91]⟩ ++ ⟨#[]⟩ ++ ⟨#[93]⟩ := by apply ba_ext; simp
    _ = name := hc

/-! ### The library's words, by places -/
theorem suf1 (t : List UInt8) (c : UInt8) : Lib.hasSuffix t [c] = true ↔ t[t.length - 1]? = some c := by
  unfold Lib.hasSuffix
  rw [List.isSuffixOf_iff_suffix]
  constructor
  · rintro ⟨s, rfl⟩; simp
  · intro h
    have hl : 1 ≤ t.length := by obtain ⟨hl, _⟩ := List.getElem?_eq_some_iff.1 h; omega
    exact ⟨t.take (t.length - 1), by rw [← drop_last1 t c hl h, List.take_append_drop]⟩

theorem trim1 (t : List UInt8) (c : UInt8) (h : Lib.hasSuffix t [c] = true) : Lib.trimSuffix t [c] = t.take (t.length - 1) := by
  unfold Lib.trimSuffix; rw [if_pos h]; rfl

theorem byte_bang (x : ByteArray) (j : Nat) (hj : j < x.size) : ∃ v, x.data.toList[j]? = some v ∧ x.data[j]! = v := by
  have hj' : j < x.data.size := hj
  refine ⟨x.data[j], ?_, ?_⟩
  · rw [Array.getElem?_toList]; exact Array.getElem?_eq_getElem hj'
  · exact getElem!_pos x.data j hj'

theorem u8_91 (v : UInt8) : ((v.toNat : Int) = 91) ↔ v = 91 := by
  constructor
  · intro h; apply UInt8.toNat_inj.1; have : v.toNat = 91 := by omega
    rw [this]; rfl
  · rintro rfl; rfl

/-- strings.LastIndexByte(x, '['), by places. -/
theorem open_spec (x : ByteArray) :
    (Lib.lastIndexByte x 91 = -1 ∧ ∀ j : Nat, x.data.toList[j]? ≠ some 91) ∨
    (∃ o : Nat, o < x.size ∧ Lib.lastIndexByte x 91 = o ∧ x.data.toList[o]? = some 91 ∧ ∀ j : Nat, o < j → x.data.toList[j]? ≠ some 91) := by
  have key : ∀ j, j < x.size → (((x.data[j]!).toNat : Int) = 91 ↔ x.data.toList[j]? = some 91) := by
    intro j hj
    obtain ⟨v, h1, h2⟩ := byte_bang x j hj
    rw [h1, h2, u8_91]; simp
  have out : ∀ j : Nat, x.size ≤ j → x.data.toList[j]? ≠ some 91 := by
    intro j hj h
    obtain ⟨hl, _⟩ := List.getElem?_eq_some_iff.1 h
    rw [← size_data] at hl; omega
  rcases Lib.lastIndexByte_spec x 91 with ⟨e, hn⟩ | ⟨i, hi, e, hc, hn⟩
  · refine .inl ⟨e, fun j h => ?_⟩
    by_cases hj : j < x.size
    · exact hn j hj ((key j hj).2 h)
    · exact out j (by omega) h
  · refine .inr ⟨i, hi, e, (key i hi).1 hc, fun j hij h => ?_⟩
    by_cases hj : j < x.size
    · exact hn j hij hj ((key j hj).2 h)
    · exact out j (by omega) h

theorem occ_pair (l : List UInt8) (j : Nat) : Lib.occAt l [91, 34] j = true ↔ l[j]? = some 91 ∧ l[j + 1]? = some 34 := by
  unfold Lib.occAt
  have e0 : l[j]? = (l.drop j)[0]? := by simp
  have e1 : l[j + 1]? = (l.drop j)[1]? := by simp
  rw [e0, e1]
  generalize l.drop j = m
  match m with
  | [] => simp [List.isPrefixOf]
  | [a] => simp [List.isPrefixOf]
  | a :: b :: r =>
    simp only [List.isPrefixOf, Bool.and_true, Bool.and_eq_true, beq_iff_eq, List.getElem?_cons_zero, List.getElem?_cons_succ, Option.some.injEq]
    exact ⟨fun ⟨h1, h2⟩ => ⟨h1.symm, h2.symm⟩, fun ⟨h1, h2⟩ => ⟨h1.symm, h2.symm⟩⟩

/-- strings.LastIndex of bracket and quote, by places. -/
theorem quoted_spec (l : List UInt8) :
    (Lib.lastIndex l [91, 34] = -1 ∧ ∀ j : Nat, ¬ (l[j]? = some 91 ∧ l[j + 1]? = some 34)) ∨
    (∃ q : Nat, q + 2 ≤ l.length ∧ Lib.lastIndex l [91, 34] = q ∧ (l[q]? = some 91 ∧ l[q + 1]? = some 34) ∧ ∀ j : Nat, q < j → ¬ (l[j]? = some 91 ∧ l[j + 1]? = some 34)) := by
  have out : ∀ j : Nat, l.length < j + 2 → ¬ (l[j]? = some 91 ∧ l[j + 1]? = some 34) := by
    intro j hj h
    obtain ⟨hl, _⟩ := List.getElem?_eq_some_iff.1 h.2
    omega
  unfold Lib.lastIndex
  by_cases h2 : [(91 : UInt8), 34].length ≤ l.length
  · rw [if_pos h2]
    simp only [List.length_cons, List.length_nil] at h2
    have e2 : l.length - [(91 : UInt8), 34].length + 1 = l.length - 1 := by simp; omega
    rw [e2]
    rcases Lib.lastOcc_spec l [91, 34] (l.length - 1) with ⟨e, hn⟩ | ⟨i, hi, e, hc, hn⟩
    · refine .inl ⟨e, fun j h => ?_⟩
      by_cases hj : j < l.length - 1
      · have := hn j hj; rw [(occ_pair l j).2 h] at this; cases this
      · exact out j (by omega) h
    · refine .inr ⟨i, by omega, e, (occ_pair l i).1 hc, fun j hij h => ?_⟩
      by_cases hj : j < l.length - 1
      · have := hn j hij hj; rw [(occ_pair l j).2 h] at this; cases this
      · exact out j (by omega) h
  · rw [if_neg h2]
    simp only [List.length_cons, List.length_nil] at h2
    exact .inl ⟨rfl, fun j => out j (by omega)⟩

theorem take_at (t : List UInt8) (n j : Nat) (h : j < n) : (t.take n)[j]? = t[j]? := by rw [List.getElem?_take]; simp [h]

/-- The rest of name without its last byte is name's own. -/
theorem ext_inner (name x : ByteArray) (hx : x.data.toList = name.data.toList.take (name.data.toList.length - 1)) (a b : Nat) (hb : b ≤ name.size - 1) : x.extract a b = name.extract a b := by
  apply ba_ext
  rw [ext_data, ext_data, hx, List.drop_take, List.take_take]
  rw [size_data] at hb
  congr 1; omega
end Go.Proofs.Qxb6600831a.Spl
