-- Written by a program of this session (wip/tools)
import Derived.Test.YtielnphmcaecdaaDoorQIMPAllx2
import Derived.Test.YtielnphmcaecdaaDoorQIMPAllx6
import Derived.Test.YtielnphmcaecdaaDoorQIMNum
namespace Go.Proofs.YtielnphmcaecdaaDoor.Hsh
open Go.RowKit Go.Proofs.YtielnphmcaecdaaDoor.Num Go.Proofs.YtielnphmcaecdaaDoor.PAll Go.Proofs.YtielnphmcaecdaaDoorW.PrintWords Go.Proofs.YtielnphmcaecdaaDoorW.PrintLast
set_option linter.unusedVariables false
theorem lift {α : Type} {F : Nat → Option α} (hm : ∀ k, LeO (F k) (F (k + 1))) {k : Nat} {r : α} (h : F k = some r) : ∀ {K : Nat}, k ≤ K → F K = some r := by
  intro K hK
  obtain ⟨d, rfl⟩ := Nat.exists_eq_add_of_le hK
  clear hK
  induction d with
  | zero => exact h
  | succ d ih => exact hm _ _ ih
theorem next64 {i : Nat} (h : i < 9223372036854775807) : wrap64 ((i : Int) + 1) = ((i + 1 : Nat) : Int) := by unfold wrap64; omega
theorem drop_rd1 {l : List Int} {i : Nat} (h : i < l.length) : l.drop i = rd l (i : Int) :: l.drop (i + 1) := by
  rw [List.drop_eq_getElem_cons h]
  congr 1
  show _ = l.getD i 0
  rw [List.getD_eq_getElem?_getD, List.getElem?_eq_getElem h]; rfl
def step (x b : Int) : Int := IntKind.u64.wrap ((Go.bits .xor .u64 x (IntKind.u64.wrap b)) * 1099511628211)
def mix (x : Int) (l : List Int) : Int := l.foldl step x
theorem impl_mixed_loop (l : List Int) (hl : l.length < 9223372036854775807) (d : Nat) : ∀ i x, i + d = l.length →
    impl_mixed.l0 (d + 1) x l (l.length : Int) (i : Int) = some (mix x (l.drop i)) := by
  induction d with
  | zero => intro i x hi; rw [impl_mixed.l0, if_neg (by omega), List.drop_of_length_le (by omega)]; rfl
  | succ d ih =>
    intro i x hi
    rw [impl_mixed.l0, if_pos (by omega), if_pos (by omega), if_pos (by omega), next64 (by omega), ih (i + 1) _ (by omega), drop_rd1 (show i < l.length by omega)]
    rfl
theorem impl_mixed_eq (l : List Int) (x : Int) (hl : l.length < 9223372036854775807) {k : Nat} (hk : l.length < k) : impl_mixed.f k x l = some (mix x l) :=
  lift (fun k => impl_mixed.mono x l k) (impl_mixed_loop l hl l.length 0 x (by omega)) hk
def byt (w : Int) (i : Nat) : Int := shr .u64 w ((8 * i : Nat) : Int) % 256
def wrd (w : Int) : Nat → List Int
  | 0 => []
  | n + 1 => byt w n :: wrd w n
theorem wrd_length (w : Int) : ∀ n, (wrd w n).length = n
  | 0 => rfl
  | n + 1 => by rw [wrd, List.length_cons, wrd_length w n]
theorem eight {i : Nat} (h : i ≤ 8) : wrap64 (8 * (i : Int)) = ((8 * i : Nat) : Int) := by unfold wrap64; omega
theorem set_at (d : Nat) (b : Int) (l : List Int) : (List.replicate (d + 1) 0 ++ l).set d b = List.replicate d 0 ++ (b :: l) := by
  induction d with
  | zero => rfl
  | succ d ih => rw [List.replicate_succ, List.cons_append, List.set_cons_succ, ih, List.replicate_succ, List.cons_append]
theorem impl_word_loop (w : Int) (n : Nat) (hn : n ≤ 8) (d : Nat) : ∀ i, i + d = n →
    impl_word.l0 (d + 1) w (n : Int) (List.replicate d 0 ++ wrd w i) (n : Int) (i : Int) = some (wrd w n) := by
  induction d with
  | zero =>
    intro i hi
    have e : i = n := by omega
    rw [impl_word.l0, if_neg (by omega), e]; rfl
  | succ d ih =>
    intro i hi
    have e1 : wrap64 (wrap64 ((n : Int) - 1) - (i : Int)) = (d : Int) := by unfold wrap64; omega
    rw [impl_word.l0, if_pos (by omega), eight (by omega), if_pos (by omega), e1, if_pos (by omega), if_pos (by rw [List.length_append, List.length_replicate]; omega), next64 (by omega), Int.toNat_natCast, set_at]
    exact ih (i + 1) (by omega)
def nb (a : Int) : Nat := if a < 1 ∨ a > 8 then 8 else a.toNat
theorem nb_le (a : Int) : nb a ≤ 8 := by unfold nb; split <;> omega
theorem impl_word_j1 (w : Int) (n : Nat) (hn : n ≤ 8) (k : Nat) (hk : 10 ≤ k) : impl_word.j1 k w (n : Int) = some (wrd w n) := by
  obtain ⟨k, rfl⟩ : ∃ k', k = k' + 1 := ⟨k - 1, by omega⟩
  rw [impl_word.j1, if_pos (by omega), if_pos (by rw [Int.toNat_natCast]; omega), Option.bind_some, List.length_replicate, Int.toNat_natCast]
  refine lift (F := fun k => impl_word.l0 k w (n : Int) (List.replicate n 0) (n : Int) 0) (fun k => (impl_word.mono_l k).2.2 _ _ _ _ _) (k := n + 1) ?_ (by omega)
  have := impl_word_loop w n hn n 0 (by omega)
  rw [wrd, List.append_nil] at this
  exact this
theorem impl_word_eq (w a : Int) {k : Nat} (hk : 20 ≤ k) : impl_word.f k w a = some (wrd w (nb a)) := by
  obtain ⟨k, rfl⟩ : ∃ k', k = k' + 1 := ⟨k - 1, by omega⟩
  unfold impl_word.f
  by_cases h : a < 1
  · rw [if_pos h, impl_word.j0, if_pos rfl, show nb a = 8 by unfold nb; rw [if_pos (.inl h)]]
    exact impl_word_j1 w 8 (by omega) k (by omega)
  · rw [if_neg h, impl_word.j0]
    by_cases h2 : a > 8
    · rw [if_pos (decide_eq_true h2), show nb a = 8 by unfold nb; rw [if_pos (.inr h2)]]
      exact impl_word_j1 w 8 (by omega) k (by omega)
    · rw [if_neg (by rw [decide_eq_false h2]; decide)]
      have e : a = ((nb a : Nat) : Int) := by unfold nb; rw [if_neg (by omega)]; omega
      have := impl_word_j1 w (nb a) (nb_le a) k (by omega)
      rw [← e] at this; exact this
theorem spec_word_l1 (x : Int) : ∀ (j : Nat) (acc : List Int), j ≤ 8 → acc.length + j ≤ 100 → spec_word.l1 (j + 1) x acc ((j : Int) - 1) = some (acc ++ wrd x j)
  | 0, acc, _, _ => by rw [spec_word.l1, if_neg (by omega), wrd, List.append_nil]
  | j + 1, acc, hj, ha => by
    have e : ((j + 1 : Nat) : Int) - 1 = (j : Int) := by omega
    have e2 : wrap64 ((j : Int) - 1) = (j : Int) - 1 := by unfold wrap64; omega
    rw [spec_word.l1, e, if_pos (by omega), eight (by omega), if_pos (by omega), if_pos (by omega), e2, spec_word_l1 x j _ (by omega) (by rw [List.length_append]; simp only [List.length_singleton]; omega), wrd, List.append_assoc]
    rfl
theorem spec_word_j2 (x : Int) (n : Nat) (hn : n ≤ 8) (k : Nat) (hk : 10 ≤ k) : spec_word.j2 k x (n : Int) = some (wrd x n) := by
  obtain ⟨k, rfl⟩ : ∃ k', k = k' + 1 := ⟨k - 1, by omega⟩
  have e : wrap64 ((n : Int) - 1) = (n : Int) - 1 := by unfold wrap64; omega
  rw [spec_word.j2, e]
  exact lift (F := fun k => spec_word.l1 k x [] ((n : Int) - 1)) (fun k => (spec_word.mono_l k).2.2.2 _ _ _) (spec_word_l1 x n [] hn (by simp only [List.length_nil]; omega)) (by omega)
theorem spec_word_end (x a : Int) (k : Nat) (hk : 20 ≤ k) : (if a < 1 then (spec_word.j1 k x a true) else (spec_word.j1 k x a (decide (a > 8)))) = some (wrd x (nb a)) := by
  obtain ⟨k, rfl⟩ : ∃ k', k = k' + 1 := ⟨k - 1, by omega⟩
  by_cases h : a < 1
  · rw [if_pos h, spec_word.j1, if_pos rfl, show nb a = 8 by unfold nb; rw [if_pos (.inl h)]]
    exact spec_word_j2 x 8 (by omega) k (by omega)
  · rw [if_neg h, spec_word.j1]
    by_cases h2 : a > 8
    · rw [if_pos (decide_eq_true h2), show nb a = 8 by unfold nb; rw [if_pos (.inr h2)]]
      exact spec_word_j2 x 8 (by omega) k (by omega)
    · rw [if_neg (by rw [decide_eq_false h2]; decide)]
      have e : a = ((nb a : Nat) : Int) := by unfold nb; rw [if_neg (by omega)]; omega
      have := spec_word_j2 x (nb a) (nb_le a) k (by omega)
      rw [← e] at this; exact this
theorem spec_word_loop (l : List Int) (hl : l.length < 9223372036854775807) (a0 a1 a2 a3 a4 a5 : Int) (d : Nat) : ∀ i x, i + d = l.length →
    spec_word.l0 (d + 21) x l (l.length : Int) (i : Int) a0 a1 a2 a3 a4 a5 = some (wrd (mix x (l.drop i)) (nb a2)) := by
  induction d with
  | zero =>
    intro i x hi
    rw [spec_word.l0, if_neg (by omega), List.drop_of_length_le (by omega)]
    exact spec_word_end x a2 20 (by omega)
  | succ d ih =>
    intro i x hi
    rw [show d + 1 + 21 = (d + 21) + 1 by omega, spec_word.l0, if_pos (by omega), if_pos (by omega), if_pos (by omega), next64 (by omega), ih (i + 1) _ (by omega), drop_rd1 (show i < l.length by omega)]
    rfl
theorem spec_word_eq (a0 a1 a2 a3 a4 a5 x : Int) (l : List Int) (hl : l.length < 9223372036854775807) {k : Nat} (hk : l.length + 21 ≤ k) :
    spec_word.f k a0 a1 a2 a3 a4 a5 x l = some (wrd (mix x l) (nb a2)) :=
  lift (fun k => spec_word.mono a0 a1 a2 a3 a4 a5 x l k) (spec_word_loop l hl a0 a1 a2 a3 a4 a5 l.length 0 x (by omega)) hk
def hash (a0 a2 a5 : Int) (l r : List Int) : List Int :=
  if a0 = 1 then wrd (mix (mix (mix a5 l) [255]) r) (nb a2) else [1] ++ wrd (IntKind.u64.wrap (l.length : Int)) 8 ++ l ++ r
theorem hash_le (a0 a2 a5 : Int) (l r : List Int) : (hash a0 a2 a5 l r).length ≤ 9 + l.length + r.length := by
  unfold hash
  have := nb_le a2
  split
  · rw [wrd_length]; omega
  · simp only [List.length_append, wrd_length, List.length_singleton]; omega
theorem impl_hash (a0 a1 a2 a3 a4 a5 : Int) (l r : List Int) (hl : l.length ≤ 1000000000000) (hr : r.length ≤ 1000000000000) {k : Nat} (hk : l.length + r.length + 30 ≤ k) :
    impl_toy_HashChildren.f k a0 a1 a2 a3 a4 a5 l r = some (hash a0 a2 a5 l r) := by
  unfold impl_toy_HashChildren.f hash
  by_cases h : a0 = 1
  · rw [if_pos h, if_pos h, impl_mixed_eq l a5 (by omega) (by omega), Option.bind_some, impl_mixed_eq _ _ (by simp only [List.length_singleton]; omega) (by simp only [List.length_singleton]; omega), Option.bind_some, impl_mixed_eq _ _ (by omega) (by omega), Option.bind_some, impl_word_eq _ _ (by omega), Option.bind_some]
  · rw [if_neg h, if_neg h, Option.bind_some, impl_word_eq _ _ (by omega), Option.bind_some]
    have e : nb 8 = 8 := by decide
    rw [e, if_pos (by simp only [List.length_singleton, wrd_length]; omega), Option.bind_some, if_pos (by simp only [List.length_append, List.length_singleton, wrd_length]; omega), Option.bind_some, if_pos (by simp only [List.length_append, List.length_singleton, wrd_length]; omega)]
theorem spec_hash_loop (l r : List Int) (hl : l.length ≤ 1000000000000) (hr : r.length ≤ 1000000000000) : ∀ (j : Nat) (acc : List Int), j ≤ 8 → acc.length + j ≤ 100 →
    spec_HashChildren.l0 (j + 1) l r acc (8 * (j : Int) - 8) = some (acc ++ wrd (IntKind.u64.wrap (l.length : Int)) j ++ l ++ r)
  | 0, acc, _, ha => by
    rw [spec_HashChildren.l0, if_neg (by omega), if_pos (by omega), Option.bind_some, if_pos (by rw [List.length_append]; omega), wrd, List.append_nil]
  | j + 1, acc, hj, ha => by
    have e : 8 * ((j + 1 : Nat) : Int) - 8 = ((8 * j : Nat) : Int) := by omega
    have e2 : wrap64 (((8 * j : Nat) : Int) - 8) = 8 * (j : Int) - 8 := by unfold wrap64; omega
    rw [spec_HashChildren.l0, e, if_pos (by omega), if_pos (by omega), Option.bind_some, if_pos (by simp only [List.length_singleton]; omega), e2, spec_hash_loop l r hl hr j _ (by omega) (by rw [List.length_append]; simp only [List.length_singleton]; omega), wrd]
    show _ = some (acc ++ ([byt _ j] ++ wrd _ j) ++ l ++ r)
    rw [List.append_assoc acc]
    rfl
theorem spec_hash (a0 a1 a2 a3 a4 a5 : Int) (l r : List Int) (hl : l.length ≤ 1000000000000) (hr : r.length ≤ 1000000000000) {k : Nat} (hk : l.length + r.length + 30 ≤ k) :
    spec_HashChildren.f k a0 a1 a2 a3 a4 a5 l r = some (hash a0 a2 a5 l r) := by
  unfold spec_HashChildren.f spec_Terms.f hash
  rw [Option.bind_some]
  by_cases h : a0 = 1
  · rw [if_neg (by subst h; decide), if_pos h, Option.bind_some, if_pos (by simp only [List.length_nil]; omega), Option.bind_some, Option.bind_some, List.nil_append, if_pos (by simp only [List.length_singleton]; omega), Option.bind_some, if_pos (by simp only [List.length_append, List.length_singleton]; omega), spec_word_eq _ _ _ _ _ _ _ _ (by simp only [List.length_append, List.length_singleton]; omega) (by simp only [List.length_append, List.length_singleton]; omega), Option.bind_some]
    unfold mix
    rw [List.foldl_append, List.foldl_append]
  · rw [if_pos (by exact bne_iff_ne.mpr h), if_neg h]
    exact lift (F := fun k => spec_HashChildren.l0 k l r [1] 56) (fun k => spec_HashChildren.mono_l k _ _ _ _) (spec_hash_loop l r hl hr 8 [1] (by omega) (by simp only [List.length_singleton]; omega)) (by omega)
end Go.Proofs.YtielnphmcaecdaaDoor.Hsh
