import Derived.Test.YtbfhmcgiamnliaaPAllx3
import Derived.Test.YtbfhmcgiamnliaaExtChains
import Derived.Test.YtbfhmcgiamnliaaTexts
/-! Hashes chained, as the program and as the reference do it, over numbers and lists alone. -/
namespace Go.Proofs.Ytbfhmcgiamnliaa.Hsh
open Go.RowKit Go.Proofs.Ytbfhmcgiamnliaa.Num Go.Proofs.Ytbfhmcgiamnliaa.PAll Go.Proofs.YtbfhmcgiamnliaaW.PrintWords Go.Proofs.YtbfhmcgiamnliaaW.PrintLast
set_option linter.unusedVariables false
/-- A hash chained to others: to its left where the bit is 1, else to its right, unless 'right' is set. -/
def chain (H : List Int → List Int → List Int) (right : Bool) (n : Nat) : List (List Int) → Nat → List Int → List Int
  | [], _, s => s
  | x :: xs, i, s => chain H right n xs (i + 1) (if n / 2 ^ i % 2 = 1 then H x s else if right then s else H s x)
theorem bit_and (n i : Nat) (hn : n < 18446744073709551616) : Go.bits .and .u64 (shr .u64 (n : Int) (i : Int)) 1 = ((n / 2 ^ i % 2 : Nat) : Int) := by
  rw [shr64' n i hn]
  have h1 : n / 2 ^ i < 18446744073709551616 := Nat.lt_of_le_of_lt (Nat.div_le_self _ _) hn
  have := and64 (n / 2 ^ i) 1 h1 (by omega)
  rw [Nat.and_one_is_mod] at this
  exact this
theorem tailL {l : List (List Int)} {a : List Int} {b : Nat} (h : ∀ j, j < (a :: l).length → ((a :: l).getD j []).length ≤ b) : a.length ≤ b ∧ ∀ j, j < l.length → (l.getD j []).length ≤ b :=
  ⟨h 0 (by simp), fun j hj => by have := h (j + 1) (by simp; omega); simpa using this⟩
theorem up_eq (k a0 a1 a2 a3 a4 a5) (n : Nat) (hn : n < 18446744073709551616) : ∀ (l : List (List Int)) (i : Nat) (s : List Int), (∀ j, j < l.length → (l.getD j []).length ≤ 5000) → s.length + 5009 * l.length ≤ 1000000 → 1100000 ≤ k →
    up_ (impl_toy_HashChildren.f k a0 a1 a2 a3 a4 a5) (n : Int) l i s = some (chain (hash a0 a2 a5) false n l i s)
  | [], _, _, _, _, _ => rfl
  | x :: xs, i, s, hb, hs, hk => by
    obtain ⟨h1, h2⟩ := tailL hb
    rw [List.length_cons] at hs
    have h3 := hash_le a0 a2 a5 s x
    have h4 := hash_le a0 a2 a5 x s
    rw [up_, chain, bit_and n i hn]
    have := Nat.mod_two_eq_zero_or_one (n / 2 ^ i)
    by_cases e : n / 2 ^ i % 2 = 1
    · rw [if_neg (by omega), if_pos e, impl_hash _ _ _ _ _ _ _ _ (by omega) (by omega) (by omega), Option.bind_some]
      exact up_eq k a0 a1 a2 a3 a4 a5 n hn xs (i + 1) _ h2 (by omega) hk
    · rw [if_pos (by omega), if_neg e, impl_hash _ _ _ _ _ _ _ _ (by omega) (by omega) (by omega), Option.bind_some]
      exact up_eq k a0 a1 a2 a3 a4 a5 n hn xs (i + 1) _ h2 (by omega) hk
theorem upR_eq (k a0 a1 a2 a3 a4 a5) (n : Nat) (hn : n < 18446744073709551616) : ∀ (l : List (List Int)) (i : Nat) (s : List Int), (∀ j, j < l.length → (l.getD j []).length ≤ 5000) → s.length + 5009 * l.length ≤ 1000000 → 1100000 ≤ k →
    upR_ (impl_toy_HashChildren.f k a0 a1 a2 a3 a4 a5) (n : Int) l i s = some (chain (hash a0 a2 a5) true n l i s)
  | [], _, _, _, _, _ => rfl
  | x :: xs, i, s, hb, hs, hk => by
    obtain ⟨h1, h2⟩ := tailL hb
    rw [List.length_cons] at hs
    have h4 := hash_le a0 a2 a5 x s
    rw [upR_, chain, bit_and n i hn]
    by_cases e : n / 2 ^ i % 2 = 1
    · rw [if_pos (by omega), if_pos e, impl_hash _ _ _ _ _ _ _ _ (by omega) (by omega) (by omega), Option.bind_some]
      exact upR_eq k a0 a1 a2 a3 a4 a5 n hn xs (i + 1) _ h2 (by omega) hk
    · rw [if_neg (by omega), if_neg e, if_pos rfl, Option.bind_some]
      exact upR_eq k a0 a1 a2 a3 a4 a5 n hn xs (i + 1) _ h2 (by omega) hk
theorem all_ones (i : Nat) (hi : i < 64) : 18446744073709551615 / 2 ^ i % 2 = 1 := by
  have h : ∀ i : Fin 64, 18446744073709551615 / 2 ^ i.val % 2 = 1 := by decide
  exact h ⟨i, hi⟩
theorem upB_eq (k a0 a1 a2 a3 a4 a5) : ∀ (l : List (List Int)) (i : Nat) (s : List Int), i + l.length ≤ 64 → (∀ j, j < l.length → (l.getD j []).length ≤ 5000) → s.length + 5009 * l.length ≤ 1000000 → 1100000 ≤ k →
    upB_ (impl_toy_HashChildren.f k a0 a1 a2 a3 a4 a5) l s = some (chain (hash a0 a2 a5) true 18446744073709551615 l i s)
  | [], _, _, _, _, _, _ => rfl
  | x :: xs, i, s, hi, hb, hs, hk => by
    obtain ⟨h1, h2⟩ := tailL hb
    rw [List.length_cons] at hs hi
    have h4 := hash_le a0 a2 a5 x s
    rw [upB_, chain, if_pos (all_ones i (by omega)), impl_hash _ _ _ _ _ _ _ _ (by omega) (by omega) (by omega), Option.bind_some]
    exact upB_eq k a0 a1 a2 a3 a4 a5 xs (i + 1) _ (by omega) h2 (by omega) hk
theorem chained_loop (right : Bool) (a0 a1 a2 a3 a4 a5) (n : Nat) (hn : n < 18446744073709551616) (l : List (List Int)) (hl : l.length ≤ 64) (hb : ∀ j, j < l.length → (l.getD j []).length ≤ 5000) (d : Nat) : ∀ (i : Nat) (s : List Int), i + d = l.length → s.length + 5009 * d ≤ 1000000 → ∀ k, 1100000 + 2 * d ≤ k →
    spec_Chained.l0 k s (n : Int) right l (l.length : Int) (i : Int) a0 a1 a2 a3 a4 a5 = some (chain (hash a0 a2 a5) right n (l.drop i) i s) := by
  induction d with
  | zero =>
    intro i s hi hs k hk
    obtain ⟨k, rfl⟩ : ∃ k', k = k' + 1 := ⟨k - 1, by omega⟩
    rw [spec_Chained.l0, if_neg (by omega), List.drop_of_length_le (by omega)]; rfl
  | succ d ih =>
    intro i s hi hs k hk
    obtain ⟨k, rfl⟩ : ∃ k', k = k' + 2 := ⟨k - 2, by omega⟩
    have h1 := hb i (by omega)
    have h3 := hash_le a0 a2 a5 s (l.getD i [])
    have h4 := hash_le a0 a2 a5 (l.getD i []) s
    rw [spec_Chained.l0, if_pos (by omega), if_pos (by omega), if_pos (by omega), if_pos (by omega), spec_Chained.j1, bit_and n i hn, drop_rdL (show i < l.length by omega), rdL, chain, next64 (by omega)]
    by_cases e : n / 2 ^ i % 2 = 1
    · rw [if_pos (by rw [e]; rfl), if_pos e, spec_hash _ _ _ _ _ _ _ _ (by omega) (by omega) (by omega), Option.bind_some]
      exact ih (i + 1) _ (by omega) (by omega) k (by omega)
    · rw [if_neg (by rw [beq_iff_eq]; omega), if_neg e]
      cases right with
      | true =>
        rw [if_pos rfl, if_pos rfl]
        exact ih (i + 1) _ (by omega) (by omega) k (by omega)
      | false =>
        rw [if_neg (by decide), if_neg (by decide), spec_hash _ _ _ _ _ _ _ _ (by omega) (by omega) (by omega), Option.bind_some]
        exact ih (i + 1) _ (by omega) (by omega) k (by omega)
theorem chained_eq (right : Bool) (a0 a1 a2 a3 a4 a5) (n : Nat) (hn : n < 18446744073709551616) (l : List (List Int)) (s : List Int) (hl : l.length ≤ 64) (hb : ∀ j, j < l.length → (l.getD j []).length ≤ 5000) (hs : s.length ≤ 5000) (k : Nat) (hk : 1200000 ≤ k) :
    spec_Chained.f k a0 a1 a2 a3 a4 a5 s l (n : Int) right = some (chain (hash a0 a2 a5) right n l 0 s) := by
  have := chained_loop right a0 a1 a2 a3 a4 a5 n hn l hl hb l.length 0 s (by omega) (by omega) k (by omega)
  rw [List.drop_zero] at this
  exact this
end Go.Proofs.Ytbfhmcgiamnliaa.Hsh
