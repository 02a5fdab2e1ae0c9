import Derived.Test.Qxb6600831aSplit
import Derived.Test.Qxb6600831aShelf
import Derived.Test.Qxb6600831aPlain
namespace Go.Proofs.Qxb6600831a
open Go.RowKit Spl

/-- splitName (function 18), whatever the name and the options. -/
theorem split_ways (b off : Nat) (name : ByteArray) (d p : Bool) (w : World) (hn : name.size ≤ 1048576)
    (hd : w.cell? ⟨b, off + 12, none⟩ = some (.bool d)) (hp : w.cell? ⟨b, off + 3, none⟩ = some (.bool p)) :
    Calls Try.prog 18 #[.pointer (some ⟨b, off, none⟩), .string name] w fun e w' =>
      (∃ x y k, e = .returned (.tuple #[.string x, .string y, .int .i64 k]) ∧ Ways name d p x y k) ∧ ∃ n, w' = w.drewN n := by
  have cut := fun wx => (Try.strings_CutSuffix name ⟨#[93]⟩ wx (by omega)).mono fun _ _ h => (⟨h.1, h.2.symm⟩ : _ ∧ _)
  rw [show (⟨#[93]⟩ : ByteArray).data.toList = [93] from rfl] at cut
  cases hs : Lib.hasSuffix name.data.toList [93] with
  | false =>
    rw [hs] at cut
    refine (split_nocut b off name _ w cut).mono ?_
    rintro e w' ⟨he, hw⟩
    refine ⟨⟨_, _, _, he, .inl ⟨rfl, rfl, rfl, .inl fun o ho => ?_⟩⟩, hw⟩
    rw [(suf1 _ _).2 ho.close] at hs; cases hs
  | true =>
    have hclose := (suf1 _ _).1 hs
    rw [hs, trim1 _ _ hs] at cut
    obtain ⟨x, hx⟩ : ∃ x : ByteArray, x = ⟨(name.data.toList.take (name.data.toList.length - 1)).toArray⟩ := ⟨_, rfl⟩
    rw [← hx] at cut
    have hxl : x.data.toList = name.data.toList.take (name.data.toList.length - 1) := by rw [hx]
    have hn1 : 1 ≤ name.size := by
      obtain ⟨hl, _⟩ := List.getElem?_eq_some_iff.1 hclose; rw [size_data]; omega
    have hxs : x.size + 1 = name.size := by
      rw [size_data x, hxl, List.length_take, size_data name] at *; omega
    have hlen : name.data.toList.length = name.size := (size_data name).symm
    have hat : ∀ j, j + 1 < name.size → x.data.toList[j]? = name.data.toList[j]? := by
      intro j hj; rw [hxl]; exact take_at _ _ _ (by omega)
    clear hx
    have last := fun wx => (Try.strings_LastIndexByte x 91 (by omega) wx).mono fun _ _ h => (⟨h.1, h.2.symm⟩ : _ ∧ _)
    have quot := fun wx => (Try.strings_LastIndex x ⟨#[91, 34]⟩ (by omega) wx).mono fun _ _ h => (⟨h.1, h.2.symm⟩ : _ ∧ _)
    rw [show (⟨#[91, 34]⟩ : ByteArray).data.toList = [91, 34] from rfl] at quot
    have suff := fun wx => (Try.strings_HasSuffix x ⟨#[34]⟩ wx (by omega)).mono fun _ _ h => (⟨h.1, h.2.symm⟩ : _ ∧ _)
    rw [show (⟨#[34]⟩ : ByteArray).data.toList = [34] from rfl] at suff
    rcases open_spec x with ⟨eo, hno⟩ | ⟨o, ho, eo, hc, hlast⟩
    · -- no '['
      rw [eo] at last
      have hnone : ∀ o, ¬ LastOpen name.data.toList o := fun o h => hno o (by rw [hat o (by have := h.len; omega)]; exact h.here)
      cases p with
      | true =>
        refine (split_plain b off name x d (-1) w (.inr (by omega)) hd hp cut last).mono ?_
        rintro e w' ⟨he, hw⟩
        exact ⟨⟨_, _, _, he, .inl ⟨rfl, rfl, rfl, .inl hnone⟩⟩, hw⟩
      | false =>
        rcases quoted_spec x.data.toList with ⟨eq, _⟩ | ⟨q, _, _, hqq, _⟩
        · rw [eq] at quot
          refine (split_noopen b off name x d (-1) (-1) w (by omega) (by omega) hd hp cut last quot).mono ?_
          rintro e w' ⟨he, hw⟩
          exact ⟨⟨_, _, _, he, .inl ⟨rfl, rfl, rfl, .inl hnone⟩⟩, hw⟩
        · exact absurd hqq.1 (hno q)
    · rw [eo] at last
      have hLO : LastOpen name.data.toList o := by
        refine ⟨by omega, hclose, by rw [← hat o (by omega)]; exact hc, fun j h1 h2 => ?_⟩
        rw [← hat j (by omega)]; exact hlast j h1
      have hext : x.extract (o + 1) x.size = name.extract (o + 1) (name.size - 1) := by
        rw [ext_inner name x hxl _ _ (by omega), show x.size = name.size - 1 by omega]
      cases d with
      | true =>
        refine (split_desktop b off name x o w (by omega) (by omega) ho hd cut last).mono ?_
        rintro e w' ⟨he, hw⟩
        rw [hext] at he
        exact ⟨⟨_, _, _, he, .inr (.inl ⟨rfl, rfl, o, hLO, rfl, rfl⟩)⟩, hw⟩
      | false =>
        cases p with
        | true =>
          refine (split_plain b off name x false _ w (.inl rfl) hd hp cut last).mono ?_
          rintro e w' ⟨he, hw⟩
          exact ⟨⟨_, _, _, he, .inl ⟨rfl, rfl, rfl, .inr ⟨rfl, rfl⟩⟩⟩, hw⟩
        | false =>
          -- the quoted reading, or none
          have hsx : Lib.hasSuffix x.data.toList [34] = true ↔ name.data.toList[name.size - 2]? = some 34 := by
            rw [suf1, ← size_data, hat _ (by omega), show x.size - 1 = name.size - 2 by omega]
          have fin : (∀ q, ¬ Quo name.data.toList q) →
              (Lib.lastIndex x.data.toList [91, 34] < 0 ∨ (0 ≤ Lib.lastIndex x.data.toList [91, 34] ∧ (x.size : Int) ≤ Lib.lastIndex x.data.toList [91, 34] + 2 ∧ Lib.lastIndex x.data.toList [91, 34] < 4611686018427387904) ∨
                (0 ≤ Lib.lastIndex x.data.toList [91, 34] ∧ Lib.lastIndex x.data.toList [91, 34] + 2 < (x.size : Int) ∧ Lib.hasSuffix x.data.toList [34] = false)) →
              Calls Try.prog 18 #[.pointer (some ⟨b, off, none⟩), .string name] w fun e w' =>
                (∃ x y k, e = .returned (.tuple #[.string x, .string y, .int .i64 k]) ∧ Ways name false false x y k) ∧ ∃ n, w' = w.drewN n := by
            intro hQ hq
            by_cases ho2 : o + 1 = x.size
            · refine (split_array b off name x o _ _ w (by omega) (by omega) ho2 hq hd hp cut last quot suff).mono ?_
              rintro e w' ⟨he, hw⟩
              exact ⟨⟨_, _, _, he, .inr (.inr (.inr (.inl ⟨rfl, rfl, rfl, hQ, o, hLO, by omega, rfl, rfl⟩)))⟩, hw⟩
            · refine (split_map b off name x o _ _ w (by omega) (by omega) (by omega) hq hd hp cut last quot suff).mono ?_
              rintro e w' ⟨he, hw⟩
              rw [hext] at he
              exact ⟨⟨_, _, _, he, .inr (.inr (.inr (.inr ⟨rfl, rfl, rfl, hQ, o, hLO, by omega, rfl, rfl⟩)))⟩, hw⟩
          have hlenx : x.data.toList.length = x.size := (size_data x).symm
          rcases quoted_spec x.data.toList with ⟨eq, hnq⟩ | ⟨q, hq2, eq, hqq, hqlast⟩
          · refine fin (fun q h => hnq q ⟨?_, ?_⟩) (.inl (by omega))
            · rw [hat q (by have := h.len; omega)]; exact h.here
            · rw [hat (q + 1) (by have := h.len; omega)]; exact h.next
          · -- the last pair stands at q
            have hpair : ∀ q', Quo name.data.toList q' → q' = q := by
              intro q' h
              have hl := h.len
              have h1 : x.data.toList[q']? = some 91 ∧ x.data.toList[q' + 1]? = some 34 := ⟨by rw [hat q' (by omega)]; exact h.here, by rw [hat (q' + 1) (by omega)]; exact h.next⟩
              by_cases hlt : q < q'
              · exact absurd h1 (hqlast q' hlt)
              · by_cases hgt : q' < q
                · refine absurd ⟨?_, ?_⟩ (h.last q hgt (by omega))
                  · rw [← hat q (by omega)]; exact hqq.1
                  · rw [← hat (q + 1) (by omega)]; exact hqq.2
                · omega
            by_cases hin : q + 2 < x.size
            · cases hsf : Lib.hasSuffix x.data.toList [34] with
              | true =>
                rw [hsf] at suff
                rw [eq] at quot
                refine (split_quoted b off name x _ q w (by omega) (by omega) hin hd hp cut last quot suff).mono ?_
                rintro e w' ⟨he, hw⟩
                rw [ext_inner name x hxl _ _ (by omega), show x.size - 1 = name.size - 2 by omega] at he
                refine ⟨⟨_, _, _, he, .inr (.inr (.inl ⟨rfl, rfl, rfl, q, ⟨by omega, hclose, ?_, ?_, ?_, fun j h1 h2 h3 => ?_⟩, rfl, rfl⟩))⟩, hw⟩
                · rw [hlen]; exact hsx.1 hsf
                · rw [← hat q (by omega)]; exact hqq.1
                · rw [← hat (q + 1) (by omega)]; exact hqq.2
                · refine hqlast j h1 ⟨?_, ?_⟩
                  · rw [hat j (by omega)]; exact h3.1
                  · rw [hat (j + 1) (by omega)]; exact h3.2
              | false =>
                refine fin (fun q' h => ?_) (.inr (.inr ⟨by omega, by omega, hsf⟩))
                have := h.quote
                rw [hlen] at this
                rw [hsx.2 this] at hsf; cases hsf
            · refine fin (fun q' h => ?_) (.inr (.inl ⟨by omega, by omega, by omega⟩))
              have := hpair q' h
              have hl := h.len
              omega

/-- ZZSplitName (function 9). -/
theorem zzsplit (b off : Nat) (name : ByteArray) (d p : Bool) (w : World) (hn : name.size ≤ 1048576)
    (hd : w.cell? ⟨b, off + 12, none⟩ = some (.bool d)) (hp : w.cell? ⟨b, off + 3, none⟩ = some (.bool p)) :
    Calls Try.prog 9 #[.pointer (some ⟨b, off, none⟩), .string name] w fun e w' =>
      (∃ x y k, e = .returned (.tuple #[.string x, .string y, .int .i64 k]) ∧ Ways name d p x y k) ∧ ∃ n, w' = w.drewN n := by
  go_enter Try.func9, Try.ntmps9
  go_wp2_with (go_at_call 18; refine (split_ways b off name d p _ hn hd hp).mono ?_; rintro e w' ⟨⟨x, y, k, rfl, hW⟩, n, rfl⟩)
  go_ret3
  exact ⟨⟨_, _, _, rfl, hW⟩, _, rfl⟩
end Go.Proofs.Qxb6600831a
