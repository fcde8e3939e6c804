import Derived.Test.YthfgegaakfgjkaaPAllx6
import Derived.Test.YthfgegaakfgjkaaPaths
/-! The law on the sizes of paths, over numbers alone. -/
namespace Go.Proofs.Ythfgegaakfgjkaa.Pure
open Go.RowKit Go.Proofs.Ythfgegaakfgjkaa.Num Go.Proofs.Ythfgegaakfgjkaa.Mth Go.Proofs.Ythfgegaakfgjkaa.PAll Go.Proofs.YthfgegaakfgjkaaW.PrintWords Go.Proofs.YthfgegaakfgjkaaW.PrintLast
theorem sizes (i n : Nat) (hi : i < n) (hn : n < 18446744073709551616) (k : Nat) : impl_ProofSizes.f (k + 1) (i : Int) (n : Int) = some (((fork i (n - 1) : Nat) : Int), ((ones (i / 2 ^ fork i (n - 1)) : Nat) : Int)) := by
  unfold impl_ProofSizes.f proof_DoorSizes.f
  rw [if_neg (by omega), proof_decompInclProof.eq i n hi hn]
  rfl
theorem sizes' {i n : Nat} {a b : Int} (hi : i < n) (hn : n < 18446744073709551616) (k : Nat) (ha : a = (i : Int)) (hb : b = (n : Int)) : impl_ProofSizes.f (k + 1) a b = some (((fork i (n - 1) : Nat) : Int), ((ones (i / 2 ^ fork i (n - 1)) : Nat) : Int)) := by
  subst ha hb; exact sizes i n hi hn k
theorem fork_64 {i n : Nat} (hi : i < 18446744073709551616) (hn : n < 18446744073709551616) : fork i n ≤ 64 := blen_lt64 (Nat.xor_lt_two_pow (n := 64) hi hn)
/-- The count of the ones, and what follows. -/
theorem counts (i n : Nat) (hi : i < n) (hn : n < 18446744073709551616) (K x7 x8 x9 x10 : Int) (hK : wrap64 (x7 + x8) = K) (h9 : x9 = 0) (d : Nat) : ∀ (x c k : Nat), x < 18446744073709551616 → ones x = d → x10 = ((c + d : Nat) : Int) → c + d ≤ 64 → d + 1 < k →
    laws_FnProofSizesEnds.l0 k (i : Int) (n : Int) K x7 x8 x9 x10 (c : Int) (x : Int) = some true := by
  induction d with
  | zero =>
    intro x c k hx ho h10 hc hk
    obtain ⟨k, rfl⟩ : ∃ m, k = m + 1 := ⟨k - 1, by omega⟩
    obtain ⟨k, rfl⟩ : ∃ m, k = m + 1 := ⟨k - 1, by omega⟩
    have h0 : x = 0 := by
      rcases Nat.eq_zero_or_pos x with h | h
      · exact h
      · have := ones_drop x h; omega
    subst h0
    rw [laws_FnProofSizesEnds.l0, if_neg (by simp), sizes i n hi hn k]
    simp only [Option.bind_some]
    have h64 : fork i (n - 1) ≤ 64 := fork_64 (by omega) (by omega)
    have hc' : x10 = (c : Int) := by omega
    by_cases hm : n + 1 = 18446744073709551616
    · have e : IntKind.u64.wrap ((n : Int) + 1) = 0 := by rw [u64w]; omega
      rw [if_pos e, if_pos hK, if_pos h9, if_pos hc', if_pos (Int.le_refl _)]
      simp; omega
    · have e : IntKind.u64.wrap ((n : Int) + 1) = ((n + 1 : Nat) : Int) := u64add (a := n) (b := 1) (by omega)
      have hmo := fork_mono (i := i) (m := n - 1) (n := n) (by omega) (by omega)
      rw [if_neg (by omega), e, sizes i (n + 1) (by omega) (by omega) k]
      simp only [Option.bind_some, Nat.add_sub_cancel]
      rw [if_pos hK, if_pos h9, if_pos hc', if_pos (by omega)]
      simp; omega
  | succ d ih =>
    intro x c k hx ho h10 hc hk
    obtain ⟨k, rfl⟩ : ∃ m, k = m + 1 := ⟨k - 1, by omega⟩
    have h0 : 0 < x := by
      rcases Nat.eq_zero_or_pos x with h | h
      · subst h; rw [ones_zero] at ho; omega
      · exact h
    have hd := ones_drop x h0
    have hl := and_lt_of x h0
    have e1 : IntKind.u64.wrap ((x : Int) - 1) = ((x - 1 : Nat) : Int) := u64sub (a := x) (b := 1) (by omega) hx
    have e2 : wrap64 ((c : Int) + 1) = ((c + 1 : Nat) : Int) := w64_add c 1 (by omega)
    rw [laws_FnProofSizesEnds.l0, if_pos (by omega), e1, and64 _ _ hx (Nat.lt_of_le_of_lt (Nat.sub_le x 1) hx), e2]
    clear e1 e2 hK
    exact ih (x &&& (x - 1)) (c + 1) k (by omega) (by omega) (by omega) (by omega) (by omega)
theorem pow_lt64 {k : Nat} (hk : k ≤ 63) : 2 ^ k < 18446744073709551616 :=
  Nat.lt_of_le_of_lt (Nat.pow_le_pow_right (by decide) hk) (by decide)
theorem mask (i k : Nat) (hi : i < 18446744073709551616) (hk : k ≤ 63) : Go.bits .and .u64 (i : Int) (IntKind.u64.wrap ((shl .u64 1 (k : Int)) - 1)) = ((i % 2 ^ k : Nat) : Int) ∧ shl .u64 1 (k : Int) = ((2 ^ k : Nat) : Int) ∧ 2 ^ k < 18446744073709551616 := by
  have h3 : 2 ^ k < 18446744073709551616 := pow_lt64 hk
  have h2 := Nat.two_pow_pos k
  have e1 : shl .u64 1 (k : Int) = ((2 ^ k : Nat) : Int) := by
    have := shl64 1 k (by omega)
    rw [Nat.one_mul, Nat.mod_eq_of_lt h3] at this
    exact this
  have e2 : IntKind.u64.wrap (((2 ^ k : Nat) : Int) - 1) = ((2 ^ k - 1 : Nat) : Int) := u64sub (a := 2 ^ k) (b := 1) (by omega) h3
  refine ⟨?_, e1, h3⟩
  rw [e1, e2, and64 _ _ hi (by omega), Nat.and_two_pow_sub_one_eq_mod]
theorem behind (i n : Nat) (hi : i < n) (hn : n < 18446744073709551616) (F : Nat) (hF : 100 ≤ F) (K x7 x8 : Int) (hK : wrap64 (x7 + x8) = K) : laws_FnProofSizesEnds.j1 (F + 1) (i : Int) (n : Int) K x7 x8 false = some true := by
  have ho := ones_le (n - 1) 64 (by omega)
  have h1n : 1 ≤ n := by omega
  have hc := counts i n hi hn K x7 x8 0 _ hK rfl (ones (n - 1)) (n - 1) 0 F (by omega) rfl rfl (by omega) (by omega)
  rw [Nat.zero_add] at hc
  obtain ⟨G, rfl⟩ : ∃ G, F = G + 1 := ⟨F - 1, by omega⟩
  have hlast : impl_ProofSizes.f (G + 1) _ _ = _ := sizes (n - 1) n (by omega) hn G
  rw [fork_self, Nat.pow_zero, Nat.div_one] at hlast
  clear hK ho hF hi
  have e1 : IntKind.u64.wrap ((n : Int) - 1) = ((n - 1 : Nat) : Int) := u64sub (a := n) (b := 1) h1n hn
  have e2 : laws_FnProofSizesEnds.j1 (G + 1 + 1) (i : Int) (n : Int) K x7 x8 false = (impl_ProofSizes.f (G + 1) (IntKind.u64.wrap ((n : Int) - 1)) (n : Int)).bind fun b => laws_FnProofSizesEnds.l0 (G + 1) (i : Int) (n : Int) K x7 x8 b.1 b.2 0 (IntKind.u64.wrap ((n : Int) - 1)) := by
    rw [laws_FnProofSizesEnds.j1]; rfl
  rw [e2, e1, hlast]
  exact hc
theorem FnProofSizesEnds (a0 : Int) (a1 : Int) (a2 : Int) (w0 : (Lit.int .u64 a0).wf = true) (w1 : (Lit.int .u64 a1).wf = true) (w2 : (Lit.int .i64 a2).wf = true) : ∃ k, laws_FnProofSizesEnds.f k a0 a1 a2 = some true := by
  obtain ⟨i, rfl, hi⟩ := wf_u64 w0
  obtain ⟨n, rfl, hn⟩ := wf_u64 w1
  obtain ⟨F, hF⟩ : ∃ F : Nat, F = 18446744073709551711 := ⟨_, rfl⟩
  refine ⟨F + 5, ?_⟩
  unfold laws_FnProofSizesEnds.f
  by_cases h2 : a2 < 0
  · rw [if_pos h2, laws_FnProofSizesEnds.j0]; rfl
  · rw [if_neg h2]
    by_cases h3 : a2 > 63
    · rw [if_pos h3, laws_FnProofSizesEnds.j0]; rfl
    · rw [if_neg h3]
      by_cases h4 : n ≤ i
      · rw [decide_eq_true (by omega : (i : Int) ≥ (n : Int)), laws_FnProofSizesEnds.j0]; rfl
      · obtain ⟨k, rfl⟩ := Int.eq_ofNat_of_zero_le (show 0 ≤ a2 by omega)
        have hk63 : k ≤ 63 := by omega
        have m3 := pow_lt64 hk63
        have hlt : i % 2 ^ k < 2 ^ k := Nat.mod_lt _ (Nat.two_pow_pos k)
        have hsum := sizes_pow k (i % 2 ^ k) hlt
        have hpl := path_len_pow k (i % 2 ^ k) 0
        rw [Nat.zero_add] at hpl
        have hP := spec_PathParts.eq (i % 2 ^ k) (2 ^ k) (Nat.two_pow_pos k) m3 (F + 4) (by omega)
        have hS : impl_ProofSizes.f (F + 4) _ _ = _ := sizes (i % 2 ^ k) (2 ^ k) hlt m3 (F + 3)
        have h1n : 1 ≤ n := by omega
        have hge : decide ((i : Int) ≥ (n : Int)) = false := decide_eq_false (by omega)
        have hb := behind i n (by omega) hn (F + 3) (by omega)
        clear hF w0 w1 w2 h2 h3
        obtain ⟨m1, m2, _⟩ := mask i k hi hk63
        have hkk : (0 : Int) ≤ ((k : Nat) : Int) := Int.natCast_nonneg k
        rw [hge, laws_FnProofSizesEnds.j0, if_neg (by simp), if_pos hkk, m1, m2]
        clear m1 m2
        rw [hS]
        simp only [Option.bind_some]
        generalize fork (i % 2 ^ k) (2 ^ k - 1) = x7 at *
        generalize ones (i % 2 ^ k / 2 ^ x7) = x8 at *
        have hw : wrap64 ((x7 : Int) + (x8 : Int)) = (k : Int) := by rw [w64_add x7 x8 (Nat.lt_of_le_of_lt (Nat.le_of_eq hsum) (Nat.lt_of_le_of_lt hk63 (by decide))), hsum]
        rw [if_neg (Int.not_lt.2 (Int.natCast_nonneg x7)), if_neg (Int.not_lt.2 (Int.natCast_nonneg x8)), hP]
        rw [Option.bind_some, List.length_map, hpl]
        have hk : (wrap64 ((x7 : Int) + (x8 : Int)) != (k : Int)) = false := by rw [hw]; simp
        rw [hk]
        exact hb (k : Int) (x7 : Int) (x8 : Int) hw
end Go.Proofs.Ythfgegaakfgjkaa.Pure
