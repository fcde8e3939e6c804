import Derived.Test.YtbfhmcgiamnliaaPAllx8
import Derived.Test.YtbfhmcgiamnliaaChain
import Derived.Test.YtbfhmcgiamnliaaPaths
import Derived.Test.YtbfhmcgiamnliaaPathLen
/-! The law on a leaf of a tree in a log of trees, over numbers and lists alone. -/
namespace Go.Proofs.Ytbfhmcgiamnliaa.Pure
open Go.RowKit Go.Proofs.Ytbfhmcgiamnliaa.Num Go.Proofs.Ytbfhmcgiamnliaa.Mth Go.Proofs.Ytbfhmcgiamnliaa.Hsh Go.Proofs.Ytbfhmcgiamnliaa.PAll Go.Proofs.YtbfhmcgiamnliaaW.PrintWords Go.Proofs.YtbfhmcgiamnliaaW.PrintLast
set_option linter.unusedVariables false
/-- A hash with others to its left. -/
def bord (H : List Int → List Int → List Int) : List (List Int) → List Int → List Int
  | [], s => s
  | x :: xs, s => bord H xs (H x s)
theorem bord_append (H : List Int → List Int → List Int) : ∀ l m s, bord H (l ++ m) s = bord H m (bord H l s)
  | [], _, _ => rfl
  | x :: xs, m, s => bord_append H xs m _
theorem chain_append (H : List Int → List Int → List Int) (n : Nat) : ∀ l m i s, chain H false n (l ++ m) i s = chain H false n m (i + l.length) (chain H false n l i s)
  | [], _, _, _ => rfl
  | x :: xs, m, i, s => by
    rw [List.cons_append, chain, chain, chain_append H n xs m (i + 1), List.length_cons, Nat.add_assoc, Nat.add_comm 1]
theorem chain_bits (H : List Int → List Int → List Int) (n m : Nat) : ∀ (l : List (List Int)) (i j : Nat) (s : List Int), (∀ d, d < l.length → n / 2 ^ (i + d) % 2 = m / 2 ^ (j + d) % 2) → chain H false n l i s = chain H false m l j s
  | [], _, _, _, _ => rfl
  | x :: xs, i, j, s, h => by
    have h0 := h 0 (by simp)
    rw [Nat.add_zero, Nat.add_zero] at h0
    rw [chain, chain, h0]
    refine chain_bits H n m xs (i + 1) (j + 1) _ (fun d hd => ?_)
    have := h (d + 1) (by rw [List.length_cons]; omega)
    rw [show i + 1 + d = i + (d + 1) by omega, show j + 1 + d = j + (d + 1) by omega]; exact this
theorem chain_ones (H : List Int → List Int → List Int) (n : Nat) : ∀ (l : List (List Int)) (i : Nat) (s : List Int), (∀ d, d < l.length → n / 2 ^ (i + d) % 2 = 1) → chain H false n l i s = bord H l s
  | [], _, _, _ => rfl
  | x :: xs, i, s, h => by
    have h0 := h 0 (by simp)
    rw [Nat.add_zero] at h0
    rw [chain, bord, if_pos h0]
    refine chain_ones H n xs (i + 1) _ (fun d hd => ?_)
    have := h (d + 1) (by rw [List.length_cons]; omega)
    rw [show i + 1 + d = i + (d + 1) by omega]; exact this
theorem chain_le {a0 a2 a5 : Int} (n : Nat) : ∀ (l : List (List Int)) (i : Nat) (s : List Int), (∀ j, j < l.length → (l.getD j []).length ≤ 5000) → (chain (hash a0 a2 a5) false n l i s).length ≤ s.length + 5009 * l.length
  | [], _, _, _ => by rw [chain]; omega
  | x :: xs, i, s, h => by
    obtain ⟨h1, h2⟩ := tailL h
    have h3 := hash_le a0 a2 a5 s x
    have h4 := hash_le a0 a2 a5 x s
    have := chain_le (a0 := a0) (a2 := a2) (a5 := a5) n xs (i + 1) (if n / 2 ^ i % 2 = 1 then hash a0 a2 a5 x s else if false = true then s else hash a0 a2 a5 s x) h2
    rw [chain, List.length_cons]
    split at this <;> rename_i hb
    · rw [if_pos hb]; omega
    · rw [if_neg (by decide)] at this
      rw [if_neg hb, if_neg (by decide)]; omega
theorem up_eq' (k a0 a1 a2 a3 a4 a5) (n : Nat) (hn : n < 18446744073709551616) : ∀ (l : List (List Int)) (i : Nat) (s : List Int), (∀ j, j < l.length → (l.getD j []).length ≤ 5000) → s.length + 5009 * l.length ≤ 100000000000 → 200000000000 ≤ k →
    up_ (impl_toy_HashChildren.f k a0 a1 a2 a3 a4 a5) (n : Int) l i s = some (chain (hash a0 a2 a5) false n l i s)
  | [], _, _, _, _, _ => rfl
  | x :: xs, i, s, hb, hs, hk => by
    obtain ⟨h1, h2⟩ := tailL hb
    rw [List.length_cons] at hs
    have h3 := hash_le a0 a2 a5 s x
    have h4 := hash_le a0 a2 a5 x s
    rw [up_, chain, bit_and n i hn]
    have := Nat.mod_two_eq_zero_or_one (n / 2 ^ i)
    by_cases e : n / 2 ^ i % 2 = 1
    · rw [if_neg (by omega), if_pos e, impl_hash _ _ _ _ _ _ _ _ (by omega) (by omega) (by omega), Option.bind_some]
      exact up_eq' k a0 a1 a2 a3 a4 a5 n hn xs (i + 1) _ h2 (by omega) hk
    · rw [if_pos (by omega), if_neg e, impl_hash _ _ _ _ _ _ _ _ (by omega) (by omega) (by omega), Option.bind_some]
      exact up_eq' k a0 a1 a2 a3 a4 a5 n hn xs (i + 1) _ h2 (by omega) hk
theorem upB_eq' (k a0 a1 a2 a3 a4 a5) : ∀ (l : List (List Int)) (s : List Int), (∀ j, j < l.length → (l.getD j []).length ≤ 5000) → s.length + 5009 * l.length ≤ 100000000000 → 200000000000 ≤ k →
    upB_ (impl_toy_HashChildren.f k a0 a1 a2 a3 a4 a5) l s = some (bord (hash a0 a2 a5) l s)
  | [], _, _, _, _ => rfl
  | x :: xs, s, hb, hs, hk => by
    obtain ⟨h1, h2⟩ := tailL hb
    rw [List.length_cons] at hs
    have h4 := hash_le a0 a2 a5 x s
    rw [upB_, bord, impl_hash _ _ _ _ _ _ _ _ (by omega) (by omega) (by omega), Option.bind_some]
    exact upB_eq' k a0 a1 a2 a3 a4 a5 xs _ h2 (by omega) hk
theorem take_bound {l : List (List Int)} {m b : Nat} (h : ∀ j, j < l.length → (l.getD j []).length ≤ b) : ∀ j, j < (l.take m).length → ((l.take m).getD j []).length ≤ b := by
  intro j hj
  rw [List.length_take] at hj
  have := h j (by omega)
  rw [List.getD_eq_getElem?_getD] at this ⊢
  rw [List.getElem?_take_of_lt (by omega)]; exact this
theorem drop_bound {l : List (List Int)} {m b : Nat} (h : ∀ j, j < l.length → (l.getD j []).length ≤ b) : ∀ j, j < (l.drop m).length → ((l.drop m).getD j []).length ≤ b := by
  intro j hj
  rw [List.length_drop] at hj
  have := h (m + j) (by omega)
  rw [List.getD_eq_getElem?_getD] at this ⊢
  rw [List.getElem?_drop]; exact this
/-- The root that a path leads to. -/
def rootP (H : List Int → List Int → List Int) (i n : Nat) (leaf : List Int) (l : List (List Int)) : List Int :=
  bord H (l.drop (fork i (n - 1))) (chain H false i (l.take (fork i (n - 1))) 0 leaf)
theorem rootOf_eq (K : Nat) (a0 a1 a2 a3 a4 a5 : Int) (i n : Nat) (leaf : List Int) (l : List (List Int)) (hi : i < n) (hn : n < 18446744073709551616) (hs : leaf.length ≤ 50000000000) (h1 : (leaf.length : Int) = a1) (hl : l.length ≤ 300) (hb : ∀ j, j < l.length → (l.getD j []).length ≤ 5000)
    (hp : l.length = fork i (n - 1) + ones (i / 2 ^ fork i (n - 1))) (hK : 200000000001 ≤ K) : impl_RootOfInclusion.f K a0 a1 a2 a3 a4 a5 (i : Int) (n : Int) leaf l = some (rootP (hash a0 a2 a5) i n leaf l, true) := by
  obtain ⟨K, rfl⟩ : ∃ k, K = k + 1 := ⟨K - 1, by omega⟩
  have ht : (l.take (fork i (n - 1))).length ≤ 300 := by rw [List.length_take]; omega
  have hd : (l.drop (fork i (n - 1))).length ≤ 300 := by rw [List.length_drop]; omega
  have hc := chain_le (a0 := a0) (a2 := a2) (a5 := a5) i (l.take (fork i (n - 1))) 0 leaf (take_bound hb)
  unfold impl_RootOfInclusion.f
  rw [if_pos (by omega), texts_eq l (by omega) (fun j hj => by have := hb j hj; omega) (show l.length < K + 1 by omega), Option.bind_some, if_pos (by omega), if_pos h1, proof_decompInclProof.eq i n hi hn, Option.bind_some]
  dsimp only
  rw [if_pos ⟨by omega, by omega, by omega⟩, Int.toNat_natCast, up_eq' (K + 1) a0 a1 a2 a3 a4 a5 i (by omega) _ 0 leaf (take_bound hb) (by omega) (by omega), Option.bind_some, upB_eq' (K + 1) a0 a1 a2 a3 a4 a5 _ _ (drop_bound hb) (by omega) (by omega), Option.bind_some]
  rfl
theorem rootP_tree (H : List Int → List Int → List Int) (x k : Nat) (leaf : List Int) (l : List (List Int)) (hl : l.length = k) : rootP H (x % 2 ^ k) (2 ^ k) leaf l = chain H false x l 0 leaf := by
  have hp := Nat.two_pow_pos k
  have hlt := Nat.mod_lt x hp
  have hk : fork (x % 2 ^ k) (2 ^ k - 1) ≤ k := fork_le.2 (by rw [Nat.div_eq_of_lt hlt, Nat.div_eq_of_lt (by omega)])
  have ht : (l.take (fork (x % 2 ^ k) (2 ^ k - 1))).length = fork (x % 2 ^ k) (2 ^ k - 1) := by rw [List.length_take]; omega
  unfold rootP
  rw [← chain_ones H (x % 2 ^ k) (l.drop (fork (x % 2 ^ k) (2 ^ k - 1))) (0 + (l.take (fork (x % 2 ^ k) (2 ^ k - 1))).length), ← chain_append, List.take_append_drop]
  · refine chain_bits H _ _ l 0 0 leaf (fun d hd => ?_)
    rw [Nat.zero_add]; exact bit_low (by omega)
  · intro d hd
    rw [List.length_drop] at hd
    rw [Nat.zero_add, ht]
    exact bits_ones hlt (by omega) (by omega)
theorem rootP_log (H : List Int → List Int → List Int) (x n k : Nat) (hn : 0 < n) (leaf : List Int) (l : List (List Int)) (hk : k ≤ l.length) (hl : l.length - k = fork (x / 2 ^ k) (n - 1) + ones (x / 2 ^ k / 2 ^ fork (x / 2 ^ k) (n - 1))) :
    rootP H x (n * 2 ^ k) leaf l = rootP H (x / 2 ^ k) n (chain H false x (l.take k) 0 leaf) (l.drop k) := by
  have ht : (l.take k).length = k := by rw [List.length_take]; omega
  rcases Nat.eq_zero_or_pos (fork (x / 2 ^ k) (n - 1)) with h0 | h0
  · have e := fork_eq (x / 2 ^ k) (n - 1)
    rw [h0, Nat.pow_zero, Nat.div_one, Nat.div_one] at e
    have hf := fork_tree_lo hn e
    have hp := Nat.two_pow_pos k
    have hlt := Nat.mod_lt x hp
    have hk2 : fork (x % 2 ^ k) (2 ^ k - 1) ≤ k := fork_le.2 (by rw [Nat.div_eq_of_lt hlt, Nat.div_eq_of_lt (by omega)])
    rw [← rootP_tree H x k leaf (l.take k) ht]
    unfold rootP
    rw [h0, hf, List.take_zero, chain, List.drop_zero, ← bord_append, List.take_take, Nat.min_eq_left hk2]
    have hc : chain H false x (l.take (fork (x % 2 ^ k) (2 ^ k - 1))) 0 leaf = chain H false (x % 2 ^ k) (l.take (fork (x % 2 ^ k) (2 ^ k - 1))) 0 leaf := by
      refine chain_bits H _ _ _ _ _ _ (fun d hd => ?_)
      rw [List.length_take] at hd
      rw [Nat.zero_add]; exact (bit_low (by omega)).symm
    rw [hc]
    congr 1
    rw [List.drop_take]
    have : l.drop (fork (x % 2 ^ k) (2 ^ k - 1)) = (l.drop (fork (x % 2 ^ k) (2 ^ k - 1))).take (k - fork (x % 2 ^ k) (2 ^ k - 1)) ++ (l.drop (fork (x % 2 ^ k) (2 ^ k - 1))).drop (k - fork (x % 2 ^ k) (2 ^ k - 1)) := (List.take_append_drop _ _).symm
    rw [List.drop_drop, show fork (x % 2 ^ k) (2 ^ k - 1) + (k - fork (x % 2 ^ k) (2 ^ k - 1)) = k by omega] at this
    exact this
  · have hf := fork_tree_hi hn h0
    unfold rootP
    rw [hf, ← List.drop_drop, List.take_add, chain_append, ht, Nat.zero_add]
    congr 1
    refine chain_bits H _ _ _ _ _ _ (fun d hd => ?_)
    rw [Nat.zero_add, bit_high]
theorem lens (x n k m : Nat) (hn : 0 < n) (hk : k ≤ m) (hl : m - k = fork (x / 2 ^ k) (n - 1) + ones (x / 2 ^ k / 2 ^ fork (x / 2 ^ k) (n - 1))) : m = fork x (n * 2 ^ k - 1) + ones (x / 2 ^ fork x (n * 2 ^ k - 1)) := by
  rcases Nat.eq_zero_or_pos (fork (x / 2 ^ k) (n - 1)) with h0 | h0
  · have e := fork_eq (x / 2 ^ k) (n - 1)
    rw [h0, Nat.pow_zero, Nat.div_one, Nat.div_one] at e
    have hf := fork_tree_lo hn e
    have hp := Nat.two_pow_pos k
    have hlt := Nat.mod_lt x hp
    have hk2 : fork (x % 2 ^ k) (2 ^ k - 1) ≤ k := fork_le.2 (by rw [Nat.div_eq_of_lt hlt, Nat.div_eq_of_lt (by omega)])
    have hs := sizes_pow k (x % 2 ^ k) hlt
    rw [hf, low_div hk2]
    rw [h0, Nat.pow_zero, Nat.div_one] at hl
    have hlt2 : x % 2 ^ k / 2 ^ fork (x % 2 ^ k) (2 ^ k - 1) < 2 ^ (k - fork (x % 2 ^ k) (2 ^ k - 1)) := by
      rw [Nat.div_lt_iff_lt_mul (Nat.two_pow_pos _), ← Nat.pow_add, show k - fork (x % 2 ^ k) (2 ^ k - 1) + fork (x % 2 ^ k) (2 ^ k - 1) = k by omega]; exact hlt
    have e1 : (x / 2 ^ k * 2 ^ (k - fork (x % 2 ^ k) (2 ^ k - 1)) + x % 2 ^ k / 2 ^ fork (x % 2 ^ k) (2 ^ k - 1)) % 2 ^ (k - fork (x % 2 ^ k) (2 ^ k - 1)) = x % 2 ^ k / 2 ^ fork (x % 2 ^ k) (2 ^ k - 1) := by
      rw [Nat.add_comm, Nat.add_mul_mod_self_right, Nat.mod_eq_of_lt hlt2]
    have e2 : (x / 2 ^ k * 2 ^ (k - fork (x % 2 ^ k) (2 ^ k - 1)) + x % 2 ^ k / 2 ^ fork (x % 2 ^ k) (2 ^ k - 1)) / 2 ^ (k - fork (x % 2 ^ k) (2 ^ k - 1)) = x / 2 ^ k := by
      rw [Nat.add_comm, Nat.add_mul_div_right _ _ (Nat.two_pow_pos _), Nat.div_eq_of_lt hlt2, Nat.zero_add]
    rw [ones_split (k - fork (x % 2 ^ k) (2 ^ k - 1)), e1, e2]
    omega
  · have hf := fork_tree_hi hn h0
    rw [hf, high_div]; omega
theorem same_text (l : List Int) : spec_SameText.f l l = some true := by
  unfold spec_SameText.f
  rw [beq_self_eq_true]
theorem mask (i k : Nat) (hi : i < 18446744073709551616) (hk : k ≤ 63) : Go.bits .and .u64 (i : Int) (IntKind.u64.wrap ((shl .u64 1 (k : Int)) - 1)) = ((i % 2 ^ k : Nat) : Int) ∧ shl .u64 1 (k : Int) = ((2 ^ k : Nat) : Int) := by
  have h3 : 2 ^ k < 18446744073709551616 := pow_lt64 hk
  have h2 := Nat.two_pow_pos k
  have e1 := shl_one hk
  refine ⟨?_, e1⟩
  have e2 : IntKind.u64.wrap (((2 ^ k : Nat) : Int) - 1) = ((2 ^ k - 1 : Nat) : Int) := u64sub (a := 2 ^ k) (b := 1) (by omega) h3
  rw [e1, e2, and64 _ _ hi (by omega), Nat.and_two_pow_sub_one_eq_mod]
theorem scal (n k : Nat) (hn : n < 18446744073709551616) : ∃ z, laws_scalable.f (n : Int) (k : Int) = some z ∧ (z = true → k ≤ 63 ∧ n * 2 ^ k < 18446744073709551616) := by
  unfold laws_scalable.f
  rw [if_pos (by omega)]
  by_cases h : (k : Int) ≤ 63
  · have hk : k ≤ 63 := by omega
    rw [if_pos h, if_pos (by omega), shl64 n k (by omega), shr64' _ _ (Nat.mod_lt _ (by decide))]
    refine ⟨_, rfl, fun hz => ⟨hk, ?_⟩⟩
    have hz := eq_of_beq hz
    have h1 := Nat.div_mul_le_self (n * 2 ^ k % 18446744073709551616) (2 ^ k)
    have h2 := Nat.mod_lt (n * 2 ^ k) (show 18446744073709551616 > 0 by decide)
    rw [show n * 2 ^ k % 18446744073709551616 / 2 ^ k = n by omega] at h1
    omega
  · rw [if_neg h]; exact ⟨false, rfl, fun h => by cases h⟩
theorem FnInclusionInTree (x0 : S24) (a1 : Int) (a2 : Int) (a3 : Int) (l4 : List (Int)) (l5 : List (List (Int))) (w0 : ((Lit.int .i64 x0.f0).wf = true) ∧ ((Lit.int .i64 x0.f1).wf = true) ∧ ((Lit.int .i64 x0.f2).wf = true) ∧ ((Lit.int .u64 x0.f3).wf = true) ∧ ((Lit.int .u64 x0.f4).wf = true) ∧ ((Lit.int .u64 x0.f5).wf = true)) (w1 : (Lit.int .u64 a1).wf = true) (w2 : (Lit.int .u64 a2).wf = true) (w3 : (Lit.int .i64 a3).wf = true) (w4 : l4.length ≤ maxLen ∧ ∀ l4' ∈ l4, (Lit.int .u8 l4').wf = true) (w5 : l5.length ≤ maxLen ∧ ∀ l5' ∈ l5, l5'.length ≤ maxLen ∧ ∀ l5'' ∈ l5', (Lit.int .u8 l5'').wf = true) : ∃ k, laws_FnInclusionInTree.f k x0.f0 x0.f1 x0.f2 x0.f3 x0.f4 x0.f5 a1 a2 a3 l4 l5 = some true := by
  obtain ⟨b0, b1, b2, b3, b4, b5⟩ := x0
  show ∃ k, laws_FnInclusionInTree.f k b0 b1 b2 b3 b4 b5 a1 a2 a3 l4 l5 = some true
  obtain ⟨x, rfl, hx⟩ := wf_u64 w1
  obtain ⟨n, rfl, hn⟩ := wf_u64 w2
  by_cases hs : (l4.length : Int) > 2147483647
  · exact ⟨1, by unfold laws_FnInclusionInTree.f; rw [if_pos hs, laws_FnInclusionInTree.j0, if_pos rfl]⟩
  obtain ⟨z, kz, hz, hfit⟩ := fits l5
  cases z with
  | false => exact ⟨kz + 1, by unfold laws_FnInclusionInTree.f; rw [if_neg hs, lift (fun k => laws_zzFits2.mono l5 k) hz (show kz ≤ kz + 1 by omega), Option.bind_some, laws_FnInclusionInTree.j0, if_pos (by decide)]⟩
  | true =>
  obtain ⟨f1, f2⟩ := hfit rfl
  obtain ⟨z, hz2, hsm⟩ := small l5 f1
  obtain ⟨K, hK⟩ : ∃ K, K = kz + n + l5.length + 300000000000 := ⟨_, rfl⟩
  have j1t : ∀ y3, laws_FnInclusionInTree.j1 (K + 1 + 1) (x : Int) (n : Int) y3 l4 l5 true b0 b1 b2 b3 b4 b5 = some true := fun y3 => by rw [laws_FnInclusionInTree.j1, if_pos rfl]
  refine ⟨K + 1 + 1 + 1, ?_⟩
  unfold laws_FnInclusionInTree.f
  rw [if_neg hs, lift (fun k => laws_zzFits2.mono l5 k) hz (show kz ≤ K + 1 + 1 + 1 by omega), Option.bind_some, laws_FnInclusionInTree.j0, if_neg (by decide)]
  by_cases h3 : a3 < 0
  · rw [if_pos h3]; exact j1t _
  rw [if_neg h3]
  by_cases h4 : a3 > (l5.length : Int)
  · rw [if_pos h4]; exact j1t _
  rw [if_neg h4]
  obtain ⟨k, rfl⟩ : ∃ k : Nat, a3 = (k : Int) := ⟨a3.toNat, by omega⟩
  obtain ⟨zs, hzs, hsc⟩ := scal n k hn
  rw [hzs, Option.bind_some]
  cases zs with
  | false => rw [if_neg (by decide)]; exact j1t _
  | true =>
  obtain ⟨hk, hnk⟩ := hsc rfl
  have hsh : shl .u64 (n : Int) (k : Int) = ((n * 2 ^ k : Nat) : Int) := by rw [shl64 n k (by omega), Nat.mod_eq_of_lt hnk]
  rw [if_pos rfl, if_pos (by omega), hsh]
  by_cases h5 : (x : Int) ≥ ((n * 2 ^ k : Nat) : Int)
  · rw [if_pos h5]; exact j1t _
  rw [if_neg h5, lift (fun k => laws_logSmall.mono l5 k) hz2 (show l5.length + 1 ≤ K + 1 + 1 by omega), Option.bind_some]
  cases z with
  | false => rw [if_neg (by decide)]; exact j1t _
  | true =>
  obtain ⟨g1, g2⟩ := hsm rfl
  rw [if_pos rfl]
  by_cases h6 : (l4.length : Int) = b1
  case neg => rw [show ((l4.length : Int) != b1) = true from bne_iff_ne.mpr h6]; exact j1t _
  obtain ⟨hmk, hone⟩ := mask x k hx hk
  have hp := Nat.two_pow_pos k
  have hlt := Nat.mod_lt x hp
  have hpk := pow_lt64 hk
  have hn0 : 0 < n := by
    rcases Nat.eq_zero_or_pos n with h | h
    · subst h; simp at h5
    · exact h
  have htk : (l5.take k).length = k := by rw [List.length_take]; omega
  have hdk : (l5.drop k).length = l5.length - k := by rw [List.length_drop]
  have hsz := sizes_pow k (x % 2 ^ k) hlt
  have r1 := rootOf_eq (K + 1) b0 b1 b2 b3 b4 b5 (x % 2 ^ k) (2 ^ k) l4 (l5.take k) hlt hpk (by omega) h6 (by omega) (take_bound g2) (by omega) (by omega)
  have et := rootP_tree (hash b0 b2 b5) x k l4 (l5.take k) htk
  have hcl := chain_le (a0 := b0) (a2 := b2) (a5 := b5) x (l5.take k) 0 l4 (take_bound g2)
  rw [et] at r1
  obtain ⟨T, hT⟩ : ∃ T, T = chain (hash b0 b2 b5) false x (l5.take k) 0 l4 := ⟨_, rfl⟩
  have hsr : shr .u64 (x : Int) (k : Int) = ((x / 2 ^ k : Nat) : Int) := shr64' x k hx
  have hxk : x / 2 ^ k < n := by rw [Nat.div_lt_iff_lt_mul hp]; omega
  have j2t : laws_FnInclusionInTree.j2 (K + 1) (x : Int) (n : Int) (k : Int) l4 l5 T true b0 b1 b2 b3 b4 b5 = some true := by rw [laws_FnInclusionInTree.j2, if_pos rfl]
  rw [show ((l4.length : Int) != b1) = false from bne_eq_false_iff_eq.mpr h6, laws_FnInclusionInTree.j1, if_neg (by decide), if_pos (by omega), if_pos (by omega), hmk, hone, Int.toNat_natCast, r1, Option.bind_some]
  dsimp only
  rw [if_pos rfl, ← hT]
  by_cases h7 : (T.length : Int) = b1
  case neg => rw [if_neg h7]; exact j2t
  rw [if_pos h7, hsr, spec_PathParts.eq (x / 2 ^ k) n hn0 hn (K + 1) (by omega), Option.bind_some, List.length_map]
  have hpl := path_length n (x / 2 ^ k) hxk
  rw [hpl]
  obtain ⟨F, hF⟩ : ∃ F, F = fork (x / 2 ^ k) (n - 1) + ones (x / 2 ^ k / 2 ^ fork (x / 2 ^ k) (n - 1)) := ⟨_, rfl⟩
  rw [← hF]
  have hw : wrap64 ((l5.length : Int) - (k : Int)) = ((l5.length - k : Nat) : Int) := by
    rw [show (l5.length : Int) - (k : Int) = ((l5.length - k : Nat) : Int) by omega]; exact w64 (by omega)
  rw [hw]
  by_cases h8 : l5.length - k = F
  case neg => rw [show (((l5.length - k : Nat) : Int) != (F : Int)) = true from bne_iff_ne.mpr (by omega)]; exact j2t
  have r2 := rootOf_eq K b0 b1 b2 b3 b4 b5 (x / 2 ^ k) n T (l5.drop k) hxk hn (by rw [hT]; omega) h7 (by omega) (drop_bound g2) (by omega) (by omega)
  have hlen := lens x n k l5.length hn0 (by omega) (by omega)
  have r3 := rootOf_eq K b0 b1 b2 b3 b4 b5 x (n * 2 ^ k) l4 l5 (by omega) hnk (by omega) h6 g1 g2 hlen (by omega)
  rw [rootP_log (hash b0 b2 b5) x n k hn0 l4 l5 (by omega) (by omega), ← hT] at r3
  rw [show (((l5.length - k : Nat) : Int) != (F : Int)) = false from bne_eq_false_iff_eq.mpr (by omega), laws_FnInclusionInTree.j2, if_neg (by decide), if_pos (by omega), if_pos (by omega), hsr, hsh, Int.toNat_natCast, r2, Option.bind_some, r3, Option.bind_some]
  dsimp only
  rw [if_pos rfl, if_pos rfl, same_text, Option.bind_some, if_pos rfl]
  unfold impl_ChainInner.f
  rw [if_pos (by omega), texts_eq (l5.take k) (by omega) (fun j hj => by have := take_bound g2 j hj; omega) (show (l5.take k).length < K by omega), Option.bind_some, up_eq' K b0 b1 b2 b3 b4 b5 x hx (l5.take k) 0 l4 (take_bound g2) (by omega) (by omega), Option.bind_some, ← hT, same_text, Option.bind_some]
end Go.Proofs.Ytbfhmcgiamnliaa.Pure
