-- Written by a program of this session (wip/tools)
import Derived.Test.YtielnphmcaecdaaDoorQIMPAllx2
import Derived.Test.YtielnphmcaecdaaDoorQIMPAllx5
import Derived.Test.YtielnphmcaecdaaDoorQIMHash
namespace Go.Proofs.YtielnphmcaecdaaDoor.Hsh
open Go.RowKit Go.Proofs.YtielnphmcaecdaaDoor.Num Go.Proofs.YtielnphmcaecdaaDoor.PAll Go.Proofs.YtielnphmcaecdaaDoorW.PrintWords Go.Proofs.YtielnphmcaecdaaDoorW.PrintLast
set_option linter.unusedVariables false
theorem rdL (l : List (List Int)) (i : Nat) : rd_L1 l (i : Int) = l.getD i [] := rfl
theorem take_at {α : Type} (l : List α) (i : Nat) (d : α) (h : i < l.length) : l.take (i + 1) = l.take i ++ [l.getD i d] := by
  rw [List.getD_eq_getElem?_getD, List.getElem?_eq_getElem h, Option.getD_some, List.take_succ_eq_append_getElem h]
theorem fits_loop (l : List (List Int)) (hl : l.length ≤ 2147483647) (d : Nat) : ∀ i, i + d = l.length → (∀ j, j < i → (l.getD j []).length ≤ 2147483647) →
    ∃ z, laws_zzFits2.l0 (d + 1) l (l.length : Int) (i : Int) = some z ∧ (z = true → ∀ j, j < l.length → (l.getD j []).length ≤ 2147483647) := by
  induction d with
  | zero =>
    intro i hi hj
    exact ⟨true, by rw [laws_zzFits2.l0, if_neg (by omega)], fun _ j h => hj j (by omega)⟩
  | succ d ih =>
    intro i hi hj
    rw [laws_zzFits2.l0, if_pos (by omega), if_pos (by omega), if_pos (by omega), rdL]
    by_cases h : ((l.getD i []).length : Int) > 2147483647
    · rw [if_pos h]; exact ⟨false, rfl, fun h => by cases h⟩
    · rw [if_neg h, next64 (by omega)]
      exact ih (i + 1) (by omega) (fun j h2 => by
        by_cases e : j = i
        · subst e; omega
        · exact hj j (by omega))
theorem fits (l : List (List Int)) : ∃ z k, laws_zzFits2.f k l = some z ∧ (z = true → l.length ≤ 2147483647 ∧ ∀ j, j < l.length → (l.getD j []).length ≤ 2147483647) := by
  by_cases h : (l.length : Int) > 2147483647
  · exact ⟨false, 0, by unfold laws_zzFits2.f; rw [if_pos h], fun h => by cases h⟩
  · obtain ⟨z, hz, hb⟩ := fits_loop l (by omega) l.length 0 (by omega) (fun j h => absurd h (by omega))
    exact ⟨z, l.length + 1, by unfold laws_zzFits2.f; rw [if_neg h]; exact hz, fun e => ⟨by omega, hb e⟩⟩
theorem small_loop (l : List (List Int)) (hl : l.length ≤ 2147483647) (d : Nat) : ∀ i, i + d = l.length → (∀ j, j < i → (l.getD j []).length ≤ 5000) →
    ∃ z, laws_logSmall.l0 (d + 1) l l (l.length : Int) (i : Int) = some z ∧ (z = true → l.length ≤ 300 ∧ ∀ j, j < l.length → (l.getD j []).length ≤ 5000) := by
  induction d with
  | zero =>
    intro i hi hj
    exact ⟨decide ((l.length : Int) ≤ 300), by rw [laws_logSmall.l0, if_neg (by omega)], fun h => ⟨by have := of_decide_eq_true h; omega, fun j h => hj j (by omega)⟩⟩
  | succ d ih =>
    intro i hi hj
    rw [laws_logSmall.l0, if_pos (by omega), if_pos (by omega), if_pos (by omega), rdL]
    by_cases h : ((l.getD i []).length : Int) > 5000
    · rw [if_pos h]; exact ⟨false, rfl, fun h => by cases h⟩
    · rw [if_neg h, next64 (by omega)]
      exact ih (i + 1) (by omega) (fun j h2 => by
        by_cases e : j = i
        · subst e; omega
        · exact hj j (by omega))
theorem small (l : List (List Int)) (hl : l.length ≤ 2147483647) : ∃ z, laws_logSmall.f (l.length + 1) l = some z ∧ (z = true → l.length ≤ 300 ∧ ∀ j, j < l.length → (l.getD j []).length ≤ 5000) :=
  small_loop l hl l.length 0 (by omega) (fun j h => absurd h (by omega))
theorem texts_loop (l : List (List Int)) (hl : l.length ≤ 2147483647) (hb : ∀ j, j < l.length → (l.getD j []).length ≤ 2147483647) (d : Nat) : ∀ i, i + d = l.length →
    impl_texts.l0 (d + 1) (l.take i) l (l.length : Int) (i : Int) = some l := by
  induction d with
  | zero =>
    intro i hi
    rw [impl_texts.l0, if_neg (by omega), List.take_of_length_le (by omega)]
  | succ d ih =>
    intro i hi
    have h1 := hb i (by omega)
    have h2 : (l.take i).length < 5864062014805 := by rw [List.length_take]; omega
    rw [impl_texts.l0, if_pos (by omega), if_pos (by omega), if_pos (by omega), Option.bind_some, if_pos (by rw [rdL]; simp only [List.length_nil]; omega), if_pos h2, next64 (by omega), List.nil_append, rdL, ← take_at l i [] (by omega)]
    exact ih (i + 1) (by omega)
theorem texts_eq (l : List (List Int)) (hl : l.length ≤ 2147483647) (hb : ∀ j, j < l.length → (l.getD j []).length ≤ 2147483647) {k : Nat} (hk : l.length < k) : impl_texts.f k l = some l :=
  lift (fun k => impl_texts.mono l k) (texts_loop l hl hb l.length 0 (by omega)) hk
end Go.Proofs.YtielnphmcaecdaaDoor.Hsh
