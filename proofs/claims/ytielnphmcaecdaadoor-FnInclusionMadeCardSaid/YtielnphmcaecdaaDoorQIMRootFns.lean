-- Written by a program of this session (wip/tools)
import Derived.Test.YtielnphmcaecdaaDoorQIMRoots
import Derived.Test.YtielnphmcaecdaaDoorQIMTexts
import Derived.Test.YtielnphmcaecdaaDoorQIMPaths
import Derived.Test.YtielnphmcaecdaaDoorQIMRangeFns
import Derived.Test.YtielnphmcaecdaaDoorQIMPAllx7
import Derived.Test.YtielnphmcaecdaaDoorQIMExtTree
namespace Go.Proofs.YtielnphmcaecdaaDoor.Hsh
open Go.RowKit Go.Proofs.YtielnphmcaecdaaDoor.Num Go.Proofs.YtielnphmcaecdaaDoor.Mth Go.Proofs.YtielnphmcaecdaaDoor.PAll Go.Proofs.YtielnphmcaecdaaDoorW.PrintWords Go.Proofs.YtielnphmcaecdaaDoorW.PrintLast
set_option linter.unusedVariables false
def empt (a0 a2 a3 : Int) : List Int := if a0 = 1 then wrd a3 (nb a2) else [2]
theorem hash_grows (a0 a2 a5 : Int) : Grows (hash a0 a2 a5) := hash_le a0 a2 a5
theorem spec_empty (a0 a1 a2 a3 a4 a5 : Int) {k : Nat} (hk : 30 ≤ k) : spec_EmptyRoot.f k a0 a1 a2 a3 a4 a5 = some (empt a0 a2 a3) := by
  unfold spec_EmptyRoot.f spec_Terms.f empt
  rw [Option.bind_some]
  by_cases h : a0 = 1
  · rw [if_neg (by subst h; decide), if_pos h, spec_word_eq a0 a1 a2 a3 a4 a5 a3 [] (by simp) (by simp only [List.length_nil]; omega)]; rfl
  · rw [if_pos (by exact bne_iff_ne.mpr h), if_neg h]
theorem mem_bound {l : List (List Int)} {m : Nat} (h : ∀ j, j < l.length → (l.getD j []).length ≤ m) : ∀ x ∈ l, x.length ≤ m := by
  intro x hx
  obtain ⟨i, hi⟩ := List.getElem?_of_mem hx
  have := h i (List.getElem?_eq_some_iff.1 hi).1
  rw [List.getD_eq_getElem?_getD, hi] at this
  exact this
theorem spec_Root.eq (a0 a1 a2 a3 a4 a5 : Int) : ∀ (n : Nat) (L : List (List Int)), L.length = n → n ≤ 300 → (∀ x ∈ L, x.length ≤ 5000) → ∀ K, 10000000 + n ≤ K →
    spec_Root.f K a0 a1 a2 a3 a4 a5 L = some (mth (hash a0 a2 a5) (empt a0 a2 a3) L) := by
  intro n
  induction n using Nat.strongRecOn with
  | _ n ih =>
  intro L hL hn hm K hK
  obtain ⟨K, rfl⟩ : ∃ k, K = k + 1 := ⟨K - 1, by omega⟩
  rw [spec_Root.f]
  match L, hL with
  | [], hL =>
    rw [if_pos (show ((([] : List (List Int)).length : Nat) : Int) = 0 from rfl), spec_empty _ _ _ _ _ _ (by omega), Option.bind_some, mth_nil]
  | [x], hL =>
    rw [if_neg (by simp), if_pos (show ((([x] : List (List Int)).length : Nat) : Int) = 1 from rfl), if_pos (by simp), mth_one]; rfl
  | x :: y :: l, hL =>
    generalize hLL : x :: y :: l = L at *
    have h2 : 2 ≤ L.length := by rw [← hLL]; simp
    have hp := psplit_lt h2
    have hp0 := psplit_pos L.length
    have hw : IntKind.u64.wrap (L.length : Int) = (L.length : Int) := u64in (by omega)
    have t1 : (L.take (psplit L.length)).length = psplit L.length := by rw [List.length_take]; omega
    have t2 : (L.drop (psplit L.length)).length = L.length - psplit L.length := by rw [List.length_drop]
    have b1 : ∀ x ∈ L.take (psplit L.length), x.length ≤ 5000 := fun x hx => hm x (List.mem_of_mem_take hx)
    have b2 : ∀ x ∈ L.drop (psplit L.length), x.length ≤ 5000 := fun x hx => hm x (List.mem_of_mem_drop hx)
    have m1 := mth_length (hash_grows a0 a2 a5) (empt a0 a2 a3) 5000 _ _ t1 hp0 b1
    have m2 := mth_length (hash_grows a0 a2 a5) (empt a0 a2 a3) 5000 _ _ t2 (by omega) b2
    have m3 : (5000 + 9) * psplit L.length ≤ 5009 * 300 := Nat.mul_le_mul_left _ (by omega)
    have m4 : (5000 + 9) * (L.length - psplit L.length) ≤ 5009 * 300 := Nat.mul_le_mul_left _ (by omega)
    rw [if_neg (by omega), if_neg (by omega), hw, spec_split.eq L.length h2 (by omega) K (by omega), Option.bind_some, if_pos (by omega), if_pos (by omega), Int.toNat_natCast,
      ih (psplit L.length) (by omega) _ t1 (by omega) b1 K (by omega), Option.bind_some, ih (L.length - psplit L.length) (by omega) _ t2 (by omega) b2 K (by omega), Option.bind_some,
      spec_hash _ _ _ _ _ _ _ _ (by omega) (by omega) (by omega), Option.bind_some, mth_split _ _ h2]
end Go.Proofs.YtielnphmcaecdaaDoor.Hsh
