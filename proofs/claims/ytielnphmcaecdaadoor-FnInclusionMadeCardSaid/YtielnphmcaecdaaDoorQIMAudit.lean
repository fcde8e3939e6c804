-- Written by a program of this session (wip/tools)
import Derived.Test.YtielnphmcaecdaaDoorQIMNds
namespace Go.Proofs.YtielnphmcaecdaaDoor.Mth
def lvs (p : Nat × Nat) : Nat × Nat := (p.2 * 2 ^ p.1, (p.2 + 1) * 2 ^ p.1)
def sib (i l : Nat) : Nat × Nat := (l, if i / 2 ^ l % 2 = 0 then i / 2 ^ l + 1 else i / 2 ^ l - 1)
def sibs (i m : Nat) : List (Nat × Nat) := (List.range m).map (sib i)
theorem sibs_succ (i m : Nat) : sibs i (m + 1) = sibs i m ++ [sib i m] := by unfold sibs; rw [List.range_succ, List.map_append]; rfl
theorem div_of_range {i b p : Nat} (h1 : b * p ≤ i) (h2 : i < (b + 1) * p) : i / p = b := by
  have hp : 0 < p := by rcases Nat.eq_zero_or_pos p with h | h
                        · subst h; omega
                        · exact h
  exact Nat.div_eq_of_lt_le h1 h2
theorem path_perfect (m : Nat) : ∀ b i, b * 2 ^ m ≤ i → i < (b + 1) * 2 ^ m → path i (b * 2 ^ m) ((b + 1) * 2 ^ m) = (sibs i m).map lvs := by
  induction m with
  | zero =>
    intro b i h1 h2
    rw [path_one (by rw [Nat.pow_zero]; omega)]; rfl
  | succ m ih =>
    intro b i h1 h2
    have hp := Nat.two_pow_pos m
    have e1 : b * 2 ^ (m + 1) = 2 * b * 2 ^ m := by rw [Nat.pow_succ]; ac_rfl
    have e2 : (b + 1) * 2 ^ (m + 1) = (2 * b + 2) * 2 ^ m := by rw [Nat.pow_succ, Nat.add_mul, Nat.add_mul]; have : b * (2 ^ m * 2) = 2 * b * 2 ^ m := by ac_rfl
                                                                omega
    have e3 : (2 * b + 1) * 2 ^ m = 2 * b * 2 ^ m + 2 ^ m := by rw [Nat.add_mul, Nat.one_mul]
    have e4 : (2 * b + 2) * 2 ^ m = 2 * b * 2 ^ m + 2 ^ m + 2 ^ m := by rw [Nat.add_mul]; omega
    have e5 : (b + 1) * 2 ^ (m + 1) - b * 2 ^ (m + 1) = 2 ^ (m + 1) := by rw [e1, e2, e4, Nat.pow_succ]; omega
    have hs : psplit ((b + 1) * 2 ^ (m + 1) - b * 2 ^ (m + 1)) = 2 ^ m := by rw [e5, psplit_pow]
    have h2p : 2 ≤ (b + 1) * 2 ^ (m + 1) - b * 2 ^ (m + 1) := by rw [e5, Nat.pow_succ]; omega
    rw [sibs_succ, List.map_append]
    by_cases hi : i < 2 * b * 2 ^ m + 2 ^ m
    · have hd : i / 2 ^ m = 2 * b := div_of_range (by omega) (by rw [e3]; exact hi)
      rw [path_left h2p (by rw [hs, e1]; exact hi), hs, e1, ← e3, ih (2 * b) i (by omega) (by rw [e3]; exact hi)]
      congr 1
      show [((2 * b + 1) * 2 ^ m, (b + 1) * 2 ^ (m + 1))] = [lvs (sib i m)]
      unfold lvs sib
      rw [hd, if_pos (by omega), e2]
    · have hd : i / 2 ^ m = 2 * b + 1 := div_of_range (by rw [e3]; omega) (by show i < (2 * b + 2) * 2 ^ m; rw [e4]; rw [e2, e4] at h2; exact h2)
      rw [path_right h2p (by rw [hs, e1]; omega), hs]
      have e6 : b * 2 ^ (m + 1) + 2 ^ m = (2 * b + 1) * 2 ^ m := by rw [e1, e3]
      have e7 : (b + 1) * 2 ^ (m + 1) = (2 * b + 1 + 1) * 2 ^ m := e2
      rw [e6, e7, ih (2 * b + 1) i (by rw [e3]; omega) (by rw [← e7]; exact h2)]
      congr 1
      show [(b * 2 ^ (m + 1), (2 * b + 1) * 2 ^ m)] = [lvs (sib i m)]
      unfold lvs sib
      rw [hd, if_neg (by omega), e1]; rfl
theorem fork_is {i n m : Nat} (h1 : i / 2 ^ (m + 1) = n / 2 ^ (m + 1)) (h2 : i / 2 ^ m ≠ n / 2 ^ m) : fork i n = m + 1 := by
  have a := fork_le.2 h1
  have b : ¬ fork i n ≤ m := fun h => h2 (fork_le.1 h)
  omega
theorem lev_is {b e κ : Nat} (h : b < e) (h1 : b % 2 ^ κ = 0) (h2 : b + 2 ^ κ ≤ e) (h3 : e < b + 2 ^ (κ + 1)) : lev b e = κ := by
  obtain ⟨s1, s2, s3⟩ := lev_spec b e h
  rcases Nat.lt_trichotomy (lev b e) κ with hl | hl | hl
  · have hd : 2 ^ (lev b e + 1) ∣ b := Nat.dvd_trans (Nat.pow_dvd_pow 2 hl) (Nat.dvd_of_mod_eq_zero h1)
    have := s3 (Nat.mod_eq_zero_of_dvd hd)
    have := Nat.pow_le_pow_right (n := 2) (by decide) (show lev b e + 1 ≤ κ from hl)
    omega
  · exact hl
  · have := Nat.pow_le_pow_right (n := 2) (by decide) (show κ + 1 ≤ lev b e from hl)
    omega
theorem path_parts (i n : Nat) : ∀ (d M B : Nat), n - B = d → B % 2 ^ M = 0 → n < B + 2 ^ M → B ≤ i → i < n →
    B ≤ i / 2 ^ (fork i n - 1) * 2 ^ (fork i n - 1) ∧
    path i B n = (sibs i (fork i n - 1)).map lvs ++ (if (i / 2 ^ (fork i n - 1) + 1) * 2 ^ (fork i n - 1) < n then [((i / 2 ^ (fork i n - 1) + 1) * 2 ^ (fork i n - 1), n)] else []) ++
      (Nds 0 B (i / 2 ^ (fork i n - 1) * 2 ^ (fork i n - 1))).reverse.map lvs := by
  intro d
  induction d using Nat.strongRecOn with
  | _ d ih =>
  intro M B hd hB hn hi1 hi2
  by_cases h1 : n - B = 1
  · have hM : 1 ≤ M := by
      rcases Nat.eq_zero_or_pos M with h | h
      · subst h; rw [Nat.pow_zero] at hn; omega
      · exact h
    have hev : B % 2 = 0 := by
      have : (2 : Nat) ^ 1 ∣ B := Nat.dvd_trans (Nat.pow_dvd_pow 2 hM) (Nat.dvd_of_mod_eq_zero hB)
      exact Nat.mod_eq_zero_of_dvd this
    have hf : fork i n = 0 + 1 := fork_is (by rw [Nat.zero_add, Nat.pow_one]; omega) (by rw [Nat.pow_zero, Nat.div_one, Nat.div_one]; omega)
    rw [hf, path_one (by omega), Nat.zero_add, Nat.sub_self, Nat.pow_zero, Nat.div_one, Nat.mul_one, Nat.mul_one, if_neg (by omega), Nds_empty (by omega)]
    exact ⟨hi1, rfl⟩
  · have h2 : 2 ≤ n - B := by omega
    obtain ⟨κ, hκ⟩ : ∃ κ, psplit (n - B) = 2 ^ κ := ⟨_, rfl⟩
    have hp := Nat.two_pow_pos κ
    have hlt := psplit_lt h2
    have hle := le_psplit h2
    rw [hκ] at hlt hle
    have hpow : 2 ^ (κ + 1) = 2 * 2 ^ κ := by rw [Nat.pow_succ]; omega
    have hκM : κ < M := by
      apply Nat.lt_of_not_le
      intro h
      have := Nat.pow_le_pow_right (n := 2) (by decide) h
      omega
    have hdv : 2 ^ (κ + 1) ∣ B := Nat.dvd_trans (Nat.pow_dvd_pow 2 hκM) (Nat.dvd_of_mod_eq_zero hB)
    obtain ⟨β, hβ⟩ := hdv
    have hβ1 : B = β * 2 ^ (κ + 1) := by rw [hβ]; ac_rfl
    have hβ2 : B = 2 * β * 2 ^ κ := by rw [hβ1, hpow]; ac_rfl
    have e1 : (β + 1) * 2 ^ (κ + 1) = B + 2 ^ (κ + 1) := by rw [Nat.add_mul, ← hβ1, Nat.one_mul]
    by_cases hperf : n = B + 2 ^ (κ + 1)
    · -- all of it is one perfect tree
      have hM2 : κ + 1 < M := by
        apply Nat.lt_of_not_le
        intro h
        have := Nat.pow_le_pow_right (n := 2) (by decide) h
        omega
      have hβe : β % 2 = 0 := by
        have hd2 : 2 ^ (κ + 2) ∣ B := Nat.dvd_trans (Nat.pow_dvd_pow 2 hM2) (Nat.dvd_of_mod_eq_zero hB)
        obtain ⟨γ, hγ⟩ := hd2
        have : β * 2 ^ (κ + 1) = (2 * γ) * 2 ^ (κ + 1) := by rw [← hβ1, hγ, show κ + 2 = κ + 1 + 1 from rfl, Nat.pow_succ 2 (κ + 1)]; ac_rfl
        have := Nat.eq_of_mul_eq_mul_right (Nat.two_pow_pos (κ + 1)) this
        omega
      have hdi : i / 2 ^ (κ + 1) = β := div_of_range (by omega) (by omega)
      have hdn : n / 2 ^ (κ + 1) = β + 1 := by rw [hperf, ← e1]; exact Nat.mul_div_cancel _ (Nat.two_pow_pos _)
      have hf : fork i n = κ + 1 + 1 := fork_is (by rw [Nat.pow_succ 2 (κ + 1), ← Nat.div_div_eq_div_mul, ← Nat.div_div_eq_div_mul, hdi, hdn]; omega) (by rw [hdi, hdn]; omega)
      rw [hf, Nat.add_sub_cancel, hdi, e1, ← hβ1, if_neg (by omega), Nds_empty (Nat.le_refl _)]
      refine ⟨Nat.le_refl _, ?_⟩
      have := path_perfect (κ + 1) β i (by omega) (by omega)
      rw [e1, ← hβ1, ← hperf] at this
      rw [this]; simp
    · have hn2 : n < B + 2 ^ (κ + 1) := by omega
      by_cases hi : i < B + 2 ^ κ
      · -- the leaf is in the greatest perfect tree
        have hdi : i / 2 ^ κ = 2 * β := div_of_range (by omega) (by rw [Nat.add_mul, ← hβ2, Nat.one_mul]; exact hi)
        have e3 : (2 * β + 1) * 2 ^ κ = B + 2 ^ κ := by rw [Nat.add_mul, ← hβ2, Nat.one_mul]
        have hdn : n / 2 ^ κ = 2 * β + 1 := div_of_range (by omega) (by rw [show 2 * β + 1 + 1 = (2 * β + 1) + 1 from rfl, Nat.add_mul (2 * β + 1), e3, Nat.one_mul]; omega)
        have hf : fork i n = κ + 1 := fork_is (by rw [Nat.pow_succ, ← Nat.div_div_eq_div_mul, ← Nat.div_div_eq_div_mul, hdi, hdn]; omega) (by rw [hdi, hdn]; omega)
        rw [hf, Nat.add_sub_cancel, hdi, e3, ← hβ2, if_pos (by omega), Nds_empty (Nat.le_refl _), path_left h2 (by rw [hκ]; exact hi), hκ]
        refine ⟨Nat.le_refl _, ?_⟩
        have := path_perfect κ (2 * β) i (by omega) (by omega)
        rw [e3, ← hβ2] at this
        rw [this]; simp
      · -- the leaf is behind it
        obtain ⟨i1, i2⟩ := ih (n - (B + 2 ^ κ)) (by omega) κ (B + 2 ^ κ) rfl (by rw [hβ2, Nat.mul_comm (2 * β), Nat.add_mod_right, Nat.mul_mod_right]) (by omega) (by omega) hi2
        refine ⟨by omega, ?_⟩
        rw [path_right h2 (by rw [hκ]; omega), hκ, i2]
        have hle2 : i / 2 ^ (fork i n - 1) * 2 ^ (fork i n - 1) ≤ i := Nat.div_mul_le_self _ _
        have hl : lev B (i / 2 ^ (fork i n - 1) * 2 ^ (fork i n - 1)) = κ := lev_is (by omega) (by rw [hβ2, Nat.mul_comm (2 * β), Nat.mul_mod_right]) (by omega) (by omega)
        have hN := Nds_step 0 B (i / 2 ^ (fork i n - 1) * 2 ^ (fork i n - 1)) (by omega)
        rw [hl, Nat.zero_add] at hN
        rw [hN, List.reverse_cons, List.map_append, List.append_assoc _ _ [(B, B + 2 ^ κ)]]
        congr 2
        have hdB : B / 2 ^ κ = 2 * β := by rw [hβ2]; exact Nat.mul_div_cancel _ hp
        show [(B, B + 2 ^ κ)] = [lvs (κ, B / 2 ^ κ)]
        unfold lvs
        rw [hdB, ← hβ2, Nat.add_mul, ← hβ2, Nat.one_mul]
end Go.Proofs.YtielnphmcaecdaaDoor.Mth
