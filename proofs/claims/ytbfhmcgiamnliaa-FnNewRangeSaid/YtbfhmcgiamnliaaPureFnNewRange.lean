import Derived.Test.YtbfhmcgiamnliaaPAllx3
import Derived.Test.YtbfhmcgiamnliaaSizes
/-! The law on which ranges may be made, over numbers and lists alone. -/
namespace Go.Proofs.Ytbfhmcgiamnliaa.Pure
open Go.RowKit Go.Proofs.Ytbfhmcgiamnliaa.Num Go.Proofs.Ytbfhmcgiamnliaa.Mth Go.Proofs.Ytbfhmcgiamnliaa.PAll Go.Proofs.YtbfhmcgiamnliaaW.PrintWords Go.Proofs.YtbfhmcgiamnliaaW.PrintLast
set_option linter.unusedVariables false
theorem lift {α : Type} {F : Nat → Option α} (hm : ∀ k, LeO (F k) (F (k + 1))) {k : Nat} {r : α} (h : F k = some r) : ∀ {K : Nat}, k ≤ K → F K = some r := by
  intro K hK
  obtain ⟨d, rfl⟩ := Nat.exists_eq_add_of_le hK
  clear hK
  induction d with
  | zero => exact h
  | succ d ih => exact hm _ _ ih
theorem next64 {i : Nat} (h : i < 9223372036854775807) : wrap64 ((i : Int) + 1) = ((i + 1 : Nat) : Int) := by unfold wrap64; omega
theorem rdL (l : List (List Int)) (i : Nat) : rd_L1 l (i : Int) = l.getD i [] := rfl
theorem drop_at {α : Type} (l : List α) (i : Nat) (d : α) (h : i < l.length) : l.take (i + 1) = l.take i ++ [l.getD i d] := by
  rw [List.getD_eq_getElem?_getD, List.getElem?_eq_getElem h, Option.getD_some, List.take_succ_eq_append_getElem h]
theorem fits_loop (l : List (List Int)) (hl : l.length ≤ 2147483647) (d : Nat) : ∀ i, i + d = l.length → (∀ j, j < i → (l.getD j []).length ≤ 2147483647) →
    ∃ z, laws_zzFits2.l0 (d + 1) l (l.length : Int) (i : Int) = some z ∧ (z = true → ∀ j, j < l.length → (l.getD j []).length ≤ 2147483647) := by
  induction d with
  | zero =>
    intro i hi hj
    exact ⟨true, by rw [laws_zzFits2.l0, if_neg (by omega)], fun _ j h => hj j (by omega)⟩
  | succ d ih =>
    intro i hi hj
    rw [laws_zzFits2.l0, if_pos (by omega), if_pos (by omega), if_pos (by omega), rdL]
    by_cases h : ((l.getD i []).length : Int) > 2147483647
    · rw [if_pos h]; exact ⟨false, rfl, fun h => by cases h⟩
    · rw [if_neg h, next64 (by omega)]
      exact ih (i + 1) (by omega) (fun j h2 => by
        by_cases e : j = i
        · subst e; omega
        · exact hj j (by omega))
theorem fits (l : List (List Int)) : ∃ z k, laws_zzFits2.f k l = some z ∧ (z = true → l.length ≤ 2147483647 ∧ ∀ j, j < l.length → (l.getD j []).length ≤ 2147483647) := by
  by_cases h : (l.length : Int) > 2147483647
  · exact ⟨false, 0, by unfold laws_zzFits2.f; rw [if_pos h], fun h => by cases h⟩
  · obtain ⟨z, hz, hb⟩ := fits_loop l (by omega) l.length 0 (by omega) (fun j h => absurd h (by omega))
    exact ⟨z, l.length + 1, by unfold laws_zzFits2.f; rw [if_neg h]; exact hz, fun e => ⟨by omega, hb e⟩⟩
theorem texts_loop (l : List (List Int)) (hl : l.length ≤ 2147483647) (hb : ∀ j, j < l.length → (l.getD j []).length ≤ 2147483647) (d : Nat) : ∀ i, i + d = l.length →
    impl_texts.l0 (d + 1) (l.take i) l (l.length : Int) (i : Int) = some l := by
  induction d with
  | zero =>
    intro i hi
    rw [impl_texts.l0, if_neg (by omega), List.take_of_length_le (by omega)]
  | succ d ih =>
    intro i hi
    have h1 := hb i (by omega)
    have h2 : (l.take i).length < 5864062014805 := by rw [List.length_take]; omega
    rw [impl_texts.l0, if_pos (by omega), if_pos (by omega), if_pos (by omega), Option.bind_some, if_pos (by rw [rdL]; simp only [List.length_nil]; omega), if_pos h2, next64 (by omega), List.nil_append, rdL, ← drop_at l i [] (by omega)]
    exact ih (i + 1) (by omega)
theorem texts_eq (l : List (List Int)) (hl : l.length ≤ 2147483647) (hb : ∀ j, j < l.length → (l.getD j []).length ≤ 2147483647) : impl_texts.f (l.length + 1) l = some l :=
  texts_loop l hl hb l.length 0 (by omega)
theorem FnNewRange (x0 : S34) (w0 : ((Lit.int .u64 x0.f0).wf = true) ∧ ((Lit.int .u64 x0.f1).wf = true) ∧ (x0.f2.length ≤ maxLen ∧ ∀ x0_f2' ∈ x0.f2, x0_f2'.length ≤ maxLen ∧ ∀ x0_f2'' ∈ x0_f2', (Lit.int .u8 x0_f2'').wf = true)) : ∃ k, laws_FnNewRange.f k x0.f0 x0.f1 x0.f2 = some true := by
  obtain ⟨f0, f1, l⟩ := x0
  obtain ⟨h0, h1, _⟩ := w0
  obtain ⟨a, ha, ha'⟩ := wf_u64 h0
  obtain ⟨b, hb, hb'⟩ := wf_u64 h1
  have ha : f0 = (a : Int) := ha
  have hb : f1 = (b : Int) := hb
  subst ha hb
  show ∃ k, laws_FnNewRange.f k (a : Int) (b : Int) l = some true
  obtain ⟨z, kz, hz, hfit⟩ := fits l
  have hZ : ∀ {K : Nat}, kz ≤ K → laws_zzFits2.f K l = some z := fun h => lift (fun k => laws_zzFits2.mono l k) hz h
  cases z with
  | false => exact ⟨kz, by unfold laws_FnNewRange.f laws_zzFits7.f; rw [hz]; rfl⟩
  | true =>
  obtain ⟨f1, f2⟩ := hfit rfl
  obtain ⟨K, hK⟩ : ∃ K, K = kz + l.length + 10000 := ⟨_, rfl⟩
  have hT : impl_texts.f (K + 1) l = some l := lift (fun k => impl_texts.mono l k) (texts_eq l f1 f2) (by omega)
  refine ⟨K + 1, ?_⟩
  have hF : laws_zzFits7.f (K + 1) (a : Int) (b : Int) l = some true := by
    unfold laws_zzFits7.f
    rw [hZ (by omega)]; rfl
  unfold laws_FnNewRange.f impl_NewRange.f spec_ProperRange.f
  rw [hF, Option.bind_some, if_pos rfl, hT, Option.bind_some]
  by_cases h : b < a
  · rw [if_pos (by omega), Option.bind_some, if_neg (by omega), Option.bind_some]; rfl
  · rw [if_neg (by omega), compact_RangeSize.eq a b (by omega) hb' K, Option.bind_some, Option.bind_some, if_pos (by omega), spec_Nodes.eq a b (by omega) hb' (K + 1) (by omega), Option.bind_some, Option.bind_some, List.length_map]
    congr 1
    by_cases e : (l.length : Int) = ((Nds 0 a b).length : Int)
    · rw [decide_eq_true e, beq_iff_eq.mpr e]; rfl
    · rw [decide_eq_false e, beq_eq_false_iff_ne.mpr e]; rfl
end Go.Proofs.Ytbfhmcgiamnliaa.Pure
