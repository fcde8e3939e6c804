import Derived.Test.YtbfhmcgiamnliaaMath
/-! How many parts a path has. -/
namespace Go.Proofs.Ytbfhmcgiamnliaa.Mth
theorem path_shift (d : Nat) : ∀ (m i b e : Nat), e - b = m → path (i + d) (b + d) (e + d) = (path i b e).map fun p => (p.1 + d, p.2 + d) := by
  intro m
  induction m using Nat.strongRecOn with
  | _ m ih =>
  intro i b e hm
  by_cases h : e - b ≤ 1
  · rw [path_one h, path_one (by omega)]; rfl
  · have h1 := psplit_lt (n := e - b) (by omega)
    have h2 := psplit_pos (e - b)
    have es : e + d - (b + d) = e - b := by omega
    by_cases hi : i < b + psplit (e - b)
    · rw [path_left (by omega) hi, path_left (by omega) (by rw [es]; omega), es, List.map_append, ← ih (b + psplit (e - b) - b) (by omega) i b (b + psplit (e - b)) rfl]
      rw [show b + d + psplit (e - b) = b + psplit (e - b) + d by omega]; rfl
    · rw [path_right (i := i) (b := b) (e := e) (by omega) (by omega), path_right (i := i + d) (b := b + d) (e := e + d) (by omega) (by rw [es]; omega), es, List.map_append, ← ih (e - (b + psplit (e - b))) (by omega) i (b + psplit (e - b)) e rfl]
      rw [show b + d + psplit (e - b) = b + psplit (e - b) + d by omega]; rfl
theorem div_top {κ m x : Nat} (hm : m ≤ κ) : (2 ^ κ + x) / 2 ^ m = 2 ^ (κ - m) + x / 2 ^ m := by
  have e : 2 ^ κ = 2 ^ m * 2 ^ (κ - m) := by rw [← Nat.pow_add]; congr 1; omega
  rw [e, Nat.add_comm, Nat.add_mul_div_left _ _ (Nat.two_pow_pos m), Nat.add_comm]
theorem ones_one : ones 1 = 1 := by rw [ones_half, ones_zero]
theorem ones_top_add {j x : Nat} (h : x < 2 ^ j) : ones (2 ^ j + x) = 1 + ones x := by
  have hp := Nat.two_pow_pos j
  rw [ones_split j, Nat.add_mod_left, Nat.mod_eq_of_lt h, Nat.add_div_left _ hp, Nat.div_eq_of_lt h, ones_one]; omega
theorem path_length (n : Nat) : ∀ i, i < n → (path i 0 n).length = fork i (n - 1) + ones (i / 2 ^ fork i (n - 1)) := by
  induction n using Nat.strongRecOn with
  | _ n ih =>
  intro i hi
  by_cases h1 : n ≤ 1
  · have e1 : n = 1 := by omega
    have e2 : i = 0 := by omega
    subst e1 e2
    rw [path_one (by omega), show (1 - 1 : Nat) = 0 from rfl, fork_self, Nat.pow_zero, Nat.div_one, ones_zero]; rfl
  · obtain ⟨κ, hκ⟩ : ∃ κ, psplit (n - 0) = 2 ^ κ := ⟨_, rfl⟩
    have hp := Nat.two_pow_pos κ
    have hlt := psplit_lt (n := n - 0) (by omega)
    have hle := le_psplit (n := n - 0) (by omega)
    rw [hκ] at hlt hle
    have hpow : 2 ^ (κ + 1) = 2 * 2 ^ κ := by rw [Nat.pow_succ]; omega
    by_cases hi2 : i < 2 ^ κ
    · have hf : fork i (n - 1) = κ + 1 := by
        have a : fork i (n - 1) ≤ κ + 1 := fork_le.2 (by rw [Nat.div_eq_of_lt (by omega), Nat.div_eq_of_lt (by omega)])
        have b : ¬ fork i (n - 1) ≤ κ := fun h => by
          have := fork_le.1 h
          rw [Nat.div_eq_of_lt hi2] at this
          have h3 : 1 ≤ (n - 1) / 2 ^ κ := by rw [Nat.le_div_iff_mul_le hp]; omega
          omega
        omega
      rw [path_left (by omega) (by rw [hκ]; omega), hκ, List.length_append, hf, Nat.div_eq_of_lt (by omega), ones_zero, path_len_pow]; rfl
    · obtain ⟨j, rfl⟩ : ∃ j, i = j + 2 ^ κ := ⟨i - 2 ^ κ, by omega⟩
      obtain ⟨m, rfl⟩ : ∃ m, n = m + 2 ^ κ := ⟨n - 2 ^ κ, by omega⟩
      have e0 := path_shift (2 ^ κ) _ j 0 m rfl
      rw [path_right (by omega) (by rw [hκ]; omega), hκ, List.length_append, e0, List.length_map, ih m (by omega) j (by omega)]
      have hf1 : fork j (m - 1) ≤ κ := fork_le.2 (by rw [Nat.div_eq_of_lt (by omega), Nat.div_eq_of_lt (by omega)])
      have hf : fork (j + 2 ^ κ) (m + 2 ^ κ - 1) = fork j (m - 1) := by
        have e1 : m + 2 ^ κ - 1 = 2 ^ κ + (m - 1) := by omega
        have hi : ∀ x, x ≤ κ → (fork (j + 2 ^ κ) (m + 2 ^ κ - 1) ≤ x ↔ fork j (m - 1) ≤ x) := by
          intro x hx
          rw [fork_le, fork_le, e1, Nat.add_comm j, div_top hx, div_top hx]; omega
        have a := (hi _ hf1).2 (Nat.le_refl _)
        have b := (hi _ (Nat.le_trans a hf1)).1 (Nat.le_refl _)
        omega
      have hlt2 : j / 2 ^ fork j (m - 1) < 2 ^ (κ - fork j (m - 1)) := by
        rw [Nat.div_lt_iff_lt_mul (Nat.two_pow_pos _), ← Nat.pow_add, show κ - fork j (m - 1) + fork j (m - 1) = κ by omega]; omega
      rw [hf, Nat.add_comm j, div_top hf1, ones_top_add hlt2]
      simp only [List.length_cons, List.length_nil]; omega
/-! ### A leaf of a perfect tree in a log of such trees -/
theorem low_div {x k m : Nat} (hm : m ≤ k) : x / 2 ^ m = x / 2 ^ k * 2 ^ (k - m) + x % 2 ^ k / 2 ^ m := by
  have e : 2 ^ k = 2 ^ m * 2 ^ (k - m) := by rw [← Nat.pow_add]; congr 1; omega
  have h := Nat.div_add_mod x (2 ^ k)
  have h2 : x = x % 2 ^ k + 2 ^ m * (x / 2 ^ k * 2 ^ (k - m)) := by
    rw [show 2 ^ m * (x / 2 ^ k * 2 ^ (k - m)) = 2 ^ m * 2 ^ (k - m) * (x / 2 ^ k) by ac_rfl, ← e]; omega
  rw [h2, Nat.add_mul_div_left _ _ (Nat.two_pow_pos m), ← h2, Nat.add_comm]
theorem high_div (x k m : Nat) : x / 2 ^ (k + m) = x / 2 ^ k / 2 ^ m := by rw [Nat.pow_add, Nat.div_div_eq_div_mul]
theorem last_div (n k : Nat) (hn : 0 < n) : (n * 2 ^ k - 1) / 2 ^ k = n - 1 ∧ (n * 2 ^ k - 1) % 2 ^ k = 2 ^ k - 1 := by
  have hp := Nat.two_pow_pos k
  obtain ⟨m, rfl⟩ : ∃ m, n = m + 1 := ⟨n - 1, by omega⟩
  have e : (m + 1) * 2 ^ k - 1 = (2 ^ k - 1) + 2 ^ k * m := by rw [Nat.add_mul, Nat.mul_comm m]; omega
  rw [e, Nat.add_mul_div_left _ _ hp, Nat.div_eq_of_lt (by omega), Nat.add_mul_mod_self_left, Nat.mod_eq_of_lt (by omega)]
  omega
/-- The ways part above the tree .. -/
theorem fork_tree_hi {x n k : Nat} (hn : 0 < n) (h : 0 < fork (x / 2 ^ k) (n - 1)) : fork x (n * 2 ^ k - 1) = k + fork (x / 2 ^ k) (n - 1) := by
  have hi : ∀ m, fork x (n * 2 ^ k - 1) ≤ k + m ↔ fork (x / 2 ^ k) (n - 1) ≤ m := fun m => by
    rw [fork_le, fork_le, high_div, high_div, (last_div n k hn).1]
  have a := (hi _).2 (Nat.le_refl _)
  obtain ⟨j, hj⟩ : ∃ j, fork (x / 2 ^ k) (n - 1) = j + 1 := ⟨_, (Nat.succ_pred_eq_of_pos h).symm⟩
  have b : ¬ fork x (n * 2 ^ k - 1) ≤ k + j := fun h => by have := (hi j).1 h; omega
  omega
/-- .. or in it. -/
theorem fork_tree_lo {x n k : Nat} (hn : 0 < n) (h : x / 2 ^ k = n - 1) : fork x (n * 2 ^ k - 1) = fork (x % 2 ^ k) (2 ^ k - 1) := by
  obtain ⟨l1, l2⟩ := last_div n k hn
  have hp := Nat.two_pow_pos k
  have hi : ∀ m, m ≤ k → (fork x (n * 2 ^ k - 1) ≤ m ↔ fork (x % 2 ^ k) (2 ^ k - 1) ≤ m) := fun m hm => by
    rw [fork_le, fork_le, low_div hm, low_div (x := n * 2 ^ k - 1) hm, l1, l2, h]; omega
  have hk : fork (x % 2 ^ k) (2 ^ k - 1) ≤ k := fork_le.2 (by rw [Nat.div_eq_of_lt (Nat.mod_lt _ hp), Nat.div_eq_of_lt (by omega)])
  have a := (hi _ hk).2 (Nat.le_refl _)
  have b := (hi _ (Nat.le_trans a hk)).1 (Nat.le_refl _)
  omega
/-- Behind the fork with the last leaf all ways go to the right. -/
theorem bits_ones {k i : Nat} (hi : i < 2 ^ k) {j : Nat} (h1 : fork i (2 ^ k - 1) ≤ j) (h2 : j < k) : i / 2 ^ j % 2 = 1 := by
  have e := fork_le.1 h1
  obtain ⟨d, rfl⟩ : ∃ d, k = j + (d + 1) := ⟨k - j - 1, by omega⟩
  rw [e, Nat.pow_add]
  have hj := Nat.two_pow_pos j
  have hd := Nat.two_pow_pos d
  obtain ⟨c, hc⟩ : ∃ c, 2 ^ (d + 1) = 2 * c + 2 := ⟨2 ^ d - 1, by rw [Nat.pow_succ]; omega⟩
  rw [hc, show 2 ^ j * (2 * c + 2) - 1 = (2 ^ j - 1) + 2 ^ j * (2 * c + 1) by rw [show 2 * c + 2 = 2 * c + 1 + 1 by omega, Nat.mul_add _ (2 * c + 1)]; omega, Nat.add_mul_div_left _ _ hj, Nat.div_eq_of_lt (by omega)]; omega
theorem bit_low {x k j : Nat} (h : j < k) : x % 2 ^ k / 2 ^ j % 2 = x / 2 ^ j % 2 := by
  rw [low_div (x := x) (Nat.le_of_lt h)]
  obtain ⟨d, hd⟩ : ∃ d, k - j = d + 1 := ⟨k - j - 1, by omega⟩
  rw [hd, Nat.pow_succ, ← Nat.mul_assoc]; omega
theorem bit_high (x k j : Nat) : x / 2 ^ k / 2 ^ j % 2 = x / 2 ^ (k + j) % 2 := by rw [high_div]
end Go.Proofs.Ytbfhmcgiamnliaa.Mth
