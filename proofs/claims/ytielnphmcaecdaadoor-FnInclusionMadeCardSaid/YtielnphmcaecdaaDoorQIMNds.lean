-- Written by a program of this session (wip/tools)
import Derived.Test.YtielnphmcaecdaaDoorQIMMath
namespace Go.Proofs.YtielnphmcaecdaaDoor.Mth
def Nds (l b e : Nat) : List (Nat × Nat) :=
  if b < e then (if b % 2 = 1 then [(l, b)] else []) ++ Nds (l + 1) ((b + 1) / 2) (e / 2) ++ (if e % 2 = 1 then [(l, e - 1)] else []) else []
termination_by e
decreasing_by omega
theorem Nds_empty {l b e : Nat} (h : e ≤ b) : Nds l b e = [] := by rw [Nds, if_neg (by omega)]
theorem Nds_some {l b e : Nat} (h : b < e) : Nds l b e = (if b % 2 = 1 then [(l, b)] else []) ++ Nds (l + 1) ((b + 1) / 2) (e / 2) ++ (if e % 2 = 1 then [(l, e - 1)] else []) := by rw [Nds, if_pos h]
def lev (b e : Nat) : Nat := if b % 2 = 0 ∧ b + 2 ≤ e then lev (b / 2) (e / 2) + 1 else 0
termination_by e
decreasing_by omega
theorem lev_up {b e : Nat} (h : b % 2 = 0) (h2 : b + 2 ≤ e) : lev b e = lev (b / 2) (e / 2) + 1 := by rw [lev, if_pos ⟨h, h2⟩]
theorem lev_no {b e : Nat} (h : b % 2 = 1 ∨ e < b + 2) : lev b e = 0 := by rw [lev, if_neg (by omega)]
theorem pow_up (n : Nat) : 2 ^ (n + 1) = 2 * 2 ^ n := by rw [Nat.pow_succ, Nat.mul_comm]
theorem mod_double (b n : Nat) (h : b % 2 = 0) : b % (2 * n) = 2 * (b / 2 % n) := by
  have hb : b = 2 * (b / 2) := by omega
  rw (occs := .pos [1]) [hb]; rw [Nat.mul_mod_mul_left]
theorem lev_spec (b e : Nat) (h : b < e) : b % 2 ^ lev b e = 0 ∧ b + 2 ^ lev b e ≤ e ∧ (b % 2 ^ (lev b e + 1) = 0 → e < b + 2 ^ (lev b e + 1)) := by
  induction e using Nat.strongRecOn generalizing b with
  | _ e ih =>
  by_cases hc : b % 2 = 0 ∧ b + 2 ≤ e
  · obtain ⟨h1, h2, h3⟩ := ih (e / 2) (by omega) (b / 2) (by omega)
    rw [lev_up hc.1 hc.2, pow_up, pow_up (lev (b / 2) (e / 2) + 1), mod_double _ _ hc.1, mod_double _ _ hc.1]
    refine ⟨by omega, by omega, fun h4 => ?_⟩
    have := h3 (by omega); omega
  · rw [lev_no (by omega)]
    refine ⟨by simp [Nat.mod_one], by simp; omega, fun h4 => ?_⟩
    simp at h4 ⊢; omega
theorem Nds_step (l b e : Nat) (h : b < e) : Nds l b e = (l + lev b e, b / 2 ^ lev b e) :: Nds l (b + 2 ^ lev b e) e := by
  induction e using Nat.strongRecOn generalizing l b with
  | _ e ih =>
  by_cases hb : b % 2 = 1
  · rw [Nds_some h, if_pos hb, lev_no (.inl hb)]
    simp only [Nat.add_zero, Nat.pow_zero, Nat.div_one, List.cons_append, List.nil_append]
    congr 1
    by_cases h1 : b + 1 < e
    · rw [Nds_some h1, if_neg (show ¬ (b + 1) % 2 = 1 by omega), show (b + 1 + 1) / 2 = (b + 1) / 2 by omega]; simp
    · rw [Nds_empty (by omega : e ≤ b + 1), Nds_empty (by omega : e / 2 ≤ (b + 1) / 2), if_neg (by omega)]; rfl
  · by_cases h2 : b + 2 ≤ e
    · rw [Nds_some h, if_neg hb, lev_up (by omega) h2]
      have hs := (lev_spec (b / 2) (e / 2) (by omega)).2.1
      rw [show (b + 1) / 2 = b / 2 by omega, ih (e / 2) (by omega) (l + 1) (b / 2) (by omega)]
      simp only [List.nil_append, List.cons_append]
      rw [show l + 1 + lev (b / 2) (e / 2) = l + (lev (b / 2) (e / 2) + 1) by omega, show b / 2 / 2 ^ lev (b / 2) (e / 2) = b / 2 ^ (lev (b / 2) (e / 2) + 1) by rw [pow_up, Nat.div_div_eq_div_mul]]
      rw [pow_up]
      generalize 2 ^ lev (b / 2) (e / 2) = g at *
      congr 1
      by_cases h3 : b + 2 * g < e
      · rw [Nds_some h3, if_neg (show ¬ (b + 2 * g) % 2 = 1 by omega), show (b + 2 * g + 1) / 2 = b / 2 + g by omega]; simp
      · rw [Nds_empty (by omega : e / 2 ≤ b / 2 + g), Nds_empty (by omega : e ≤ b + 2 * g), if_neg (by omega)]; rfl
    · rw [Nds_some h, if_neg hb, Nds_empty (by omega : e / 2 ≤ (b + 1) / 2), if_pos (by omega), lev_no (by omega)]
      simp only [Nat.add_zero, Nat.pow_zero, Nat.div_one, List.nil_append]
      rw [Nds_empty (by omega : e ≤ b + 1), show e - 1 = b by omega]
theorem Nds_len (l b e m : Nat) (h : e < 2 ^ m) : (Nds l b e).length ≤ 2 * m := by
  induction m generalizing l b e with
  | zero => rw [Nds_empty (by simp at h; omega)]; simp
  | succ m ih =>
    by_cases hb : b < e
    · have := ih (l + 1) ((b + 1) / 2) (e / 2) (by rw [Nat.pow_succ] at h; omega)
      rw [Nds_some hb, List.length_append, List.length_append]
      have h1 : (if b % 2 = 1 then [(l, b)] else []).length ≤ 1 := by split <;> simp
      have h2 : (if e % 2 = 1 then [(l, e - 1)] else []).length ≤ 1 := by split <;> simp
      omega
    · rw [Nds_empty (by omega)]; simp
def Lft : Nat → Nat → Nat → List (Nat × Nat)
  | _, 0, _ => []
  | l, n + 1, b => (if b % 2 = 1 then [(l, b)] else []) ++ Lft (l + 1) n ((b + 1) / 2)
def Rgt : Nat → Nat → Nat → List (Nat × Nat)
  | _, 0, _ => []
  | l, n + 1, e => Rgt (l + 1) n (e / 2) ++ (if e % 2 = 1 then [(l, e - 1)] else [])
theorem Nds_parts (n l b e : Nat) (hb : 0 < b) (h : (b - 1) / 2 ^ n + 1 = e / 2 ^ n) : Nds l b e = Lft l n b ++ Rgt l n e := by
  induction n generalizing l b e with
  | zero => simp at h; rw [Nds_empty (by omega)]; rfl
  | succ n ih =>
    have hp := Nat.two_pow_pos n
    rw [Nat.pow_succ, Nat.mul_comm, ← Nat.div_div_eq_div_mul, ← Nat.div_div_eq_div_mul] at h
    have e1 : (b + 1) / 2 - 1 = (b - 1) / 2 := by omega
    have i1 := ih (l + 1) ((b + 1) / 2) (e / 2) (by omega) (by rw [e1]; exact h)
    have hlt : (b - 1) / 2 < e / 2 := by
      rcases Nat.lt_or_ge ((b - 1) / 2) (e / 2) with h1 | h1
      · exact h1
      · have := Nat.div_le_div_right (c := 2 ^ n) h1; omega
    by_cases hbe : b < e
    · rw [Nds_some hbe, i1, Lft, Rgt]; simp [List.append_assoc]
    · have : b = e := by omega
      subst this
      have hev : b % 2 = 0 := by omega
      rw [Nds_empty (Nat.le_refl _), Lft, Rgt, if_neg (by omega), if_neg (by omega), List.nil_append, List.append_nil, ← i1, Nds_empty (by omega)]
theorem Nds_zero (n l e : Nat) (h : e < 2 ^ n) : Nds l 0 e = Rgt l n e := by
  induction n generalizing l e with
  | zero => simp at h; subst h; rw [Nds_empty (Nat.le_refl _)]; rfl
  | succ n ih =>
    have i1 := ih (l + 1) (e / 2) (by rw [Nat.pow_succ] at h; omega)
    by_cases he : 0 < e
    · rw [Nds_some he, Rgt, ← i1]; simp
    · have : e = 0 := by omega
      subst this
      rw [Nds_empty (Nat.le_refl _), Rgt, ← i1, Nds_empty (Nat.le_refl _)]; rfl
def RgtT : Nat → Nat → List (Nat × Nat)
  | 0, _ => []
  | n + 1, e => (if e / 2 ^ n % 2 = 1 then [(n, e / 2 ^ n - 1)] else []) ++ RgtT n e
theorem Rgt_top (l n e : Nat) : Rgt l (n + 1) e = (if e / 2 ^ n % 2 = 1 then [(l + n, e / 2 ^ n - 1)] else []) ++ Rgt l n e := by
  induction n generalizing l e with
  | zero => simp [Rgt]
  | succ n ih =>
    rw [Rgt, ih (l + 1) (e / 2), Nat.div_div_eq_div_mul, ← pow_up, show Rgt l (n + 1) e = Rgt (l + 1) n (e / 2) ++ (if e % 2 = 1 then [(l, e - 1)] else []) from rfl, List.append_assoc, show l + 1 + n = l + (n + 1) by omega]
theorem Rgt_eq (n e : Nat) : Rgt 0 n e = RgtT n e := by
  induction n with
  | zero => rfl
  | succ n ih => rw [Rgt_top, ih, RgtT, Nat.zero_add]
def negm (n b : Nat) : Nat := (2 ^ n - b % 2 ^ n) % 2 ^ n
theorem negm_zero (b : Nat) : negm 0 b = 0 := by simp [negm, Nat.mod_one]
theorem negm_even (n b : Nat) (h : b % 2 = 0) : negm (n + 1) b = 2 * negm n (b / 2) := by
  unfold negm
  have hp := Nat.two_pow_pos n
  rw [pow_up, mod_double b (2 ^ n) h, ← Nat.mul_sub, mod_double _ _ (by omega), Nat.mul_div_cancel_left _ (by decide)]
theorem negm_odd (n b : Nat) (h : b % 2 = 1) : negm (n + 1) b = 2 * negm n ((b + 1) / 2) + 1 := by
  have h1 := negm_even n (b + 1) (by omega)
  have hp := Nat.two_pow_pos n
  unfold negm at h1 ⊢
  rw [pow_up] at h1 ⊢
  have h2 : (b + 1) % (2 * 2 ^ n) = if b % (2 * 2 ^ n) + 1 = 2 * 2 ^ n then 0 else b % (2 * 2 ^ n) + 1 := by
    have h3 : b % (2 * 2 ^ n) < 2 * 2 ^ n := Nat.mod_lt _ (by omega)
    rw [Nat.add_mod]
    split
    · rename_i h4
      by_cases h5 : 2 * 2 ^ n = 1
      · omega
      · rw [Nat.mod_eq_of_lt (by omega : 1 < 2 * 2 ^ n), h4, Nat.mod_self]
    · rw [Nat.mod_eq_of_lt (by omega : 1 < 2 * 2 ^ n), Nat.mod_eq_of_lt (by omega)]
  have h4 : b % (2 * 2 ^ n) < 2 * 2 ^ n := Nat.mod_lt _ (by omega)
  have h5 : b % (2 * 2 ^ n) % 2 = 1 := by rw [Nat.mod_mul_right_mod]; exact h
  rw [h2] at h1
  rw [Nat.mod_eq_of_lt (by omega : 2 * 2 ^ n - b % (2 * 2 ^ n) < 2 * 2 ^ n)]
  split at h1
  · rename_i h6
    rw [Nat.sub_zero, Nat.mod_self] at h1; omega
  · rw [Nat.mod_eq_of_lt (by omega)] at h1; omega
theorem ones_Lft (n l b : Nat) : (Lft l n b).length = ones (negm n b) := by
  induction n generalizing l b with
  | zero => rw [negm_zero, ones_zero]; rfl
  | succ n ih =>
    rw [Lft, List.length_append, ih]
    by_cases h : b % 2 = 1
    · rw [if_pos h, negm_odd n b h, ones_half (2 * _ + 1), show (2 * negm n ((b + 1) / 2) + 1) % 2 = 1 by omega, show (2 * negm n ((b + 1) / 2) + 1) / 2 = negm n ((b + 1) / 2) by omega]; rfl
    · rw [if_neg h, negm_even n b (by omega), ones_half (2 * _), show (2 * negm n (b / 2)) % 2 = 0 by omega, show (2 * negm n (b / 2)) / 2 = negm n (b / 2) by omega, show (b + 1) / 2 = b / 2 by omega]; rfl
theorem ones_top (n e : Nat) : ones (e % 2 ^ (n + 1)) = e / 2 ^ n % 2 + ones (e % 2 ^ n) := by
  have h := ones_split n (e % 2 ^ (n + 1))
  have h1 : e % 2 ^ (n + 1) % 2 ^ n = e % 2 ^ n := Nat.mod_mod_of_dvd _ ⟨2, by rw [Nat.pow_succ]⟩
  have h2 : e % 2 ^ (n + 1) / 2 ^ n = e / 2 ^ n % 2 := by rw [Nat.pow_succ, Nat.mod_mul_right_div_self]
  rw [h1, h2] at h
  have h3 : ones (e / 2 ^ n % 2) = e / 2 ^ n % 2 := by
    rcases Nat.mod_two_eq_zero_or_one (e / 2 ^ n) with h4 | h4 <;> rw [h4]
    · exact ones_zero
    · rw [ones_half, ones_zero]
  omega
theorem ones_RgtT (n e : Nat) : (RgtT n e).length = ones (e % 2 ^ n) := by
  induction n with
  | zero => simp [RgtT, Nat.mod_one, ones_zero]
  | succ n ih =>
    rw [RgtT, List.length_append, ih, ones_top]
    by_cases h : e / 2 ^ n % 2 = 1
    · rw [if_pos h, h]; rfl
    · rw [if_neg h, show e / 2 ^ n % 2 = 0 by omega]; rfl
theorem Nds_shift (k b e : Nat) : Nds 0 (b * 2 ^ k) (e * 2 ^ k) = Nds k b e := by
  suffices h : ∀ k l, Nds l (b * 2 ^ k) (e * 2 ^ k) = Nds (l + k) b e by simpa using h k 0
  intro k
  induction k with
  | zero => intro l; simp
  | succ k ih =>
    intro l
    have e1 : b * 2 ^ (k + 1) = 2 * (b * 2 ^ k) := by rw [pow_up, Nat.mul_left_comm]
    have e2 : e * 2 ^ (k + 1) = 2 * (e * 2 ^ k) := by rw [pow_up, Nat.mul_left_comm]
    rw [show l + (k + 1) = l + 1 + k by omega, ← ih (l + 1), e1, e2]
    by_cases h : b * 2 ^ k < e * 2 ^ k
    · rw [Nds_some (by omega), if_neg (by omega), if_neg (by omega), show (2 * (b * 2 ^ k) + 1) / 2 = b * 2 ^ k by omega, show 2 * (e * 2 ^ k) / 2 = e * 2 ^ k by omega]; simp
    · rw [Nds_empty (by omega), Nds_empty (by omega)]
theorem Nds_nonempty {l b e : Nat} (h : b < e) : 0 < (Nds l b e).length := by rw [Nds_step l b e h]; simp
theorem and_neg_odd (m M : Nat) (h : M % 2 = 1) (hM : M < 2 ^ m) : M &&& (2 ^ m - M) = 1 := by
  obtain ⟨m, rfl⟩ : ∃ k, m = k + 1 := ⟨m - 1, by cases m with | zero => simp at hM; omega | succ m => rfl⟩
  rw [Nat.pow_succ] at hM ⊢
  have hd := Nat.and_div_two (a := M) (b := 2 ^ m * 2 - M)
  have hm := Nat.and_mod_two_pow (a := M) (b := 2 ^ m * 2 - M) (n := 1)
  rw [Nat.pow_one, h, show (2 ^ m * 2 - M) % 2 = 1 by omega] at hm
  rw [show (2 ^ m * 2 - M) / 2 = 2 ^ m - (M / 2 + 1) by omega] at hd
  have hz : M / 2 &&& (2 ^ m - (M / 2 + 1)) = 0 := by
    apply Nat.eq_of_testBit_eq
    intro i
    rw [Nat.testBit_and, Nat.testBit_two_pow_sub_succ (by omega), Nat.zero_testBit]
    cases (M / 2).testBit i <;> simp
  have : (1 &&& 1 : Nat) = 1 := rfl
  omega
theorem and_mul_pow (l x y : Nat) : (2 ^ l * x) &&& (2 ^ l * y) = 2 ^ l * (x &&& y) := by
  have h1 := Nat.and_div_two_pow (a := 2 ^ l * x) (b := 2 ^ l * y) (n := l)
  have h2 := Nat.and_mod_two_pow (a := 2 ^ l * x) (b := 2 ^ l * y) (n := l)
  rw [Nat.mul_div_cancel_left _ (Nat.two_pow_pos l), Nat.mul_div_cancel_left _ (Nat.two_pow_pos l)] at h1
  rw [Nat.mul_mod_right, Nat.mul_mod_right, Nat.and_self] at h2
  have h3 := Nat.div_add_mod ((2 ^ l * x) &&& (2 ^ l * y)) (2 ^ l)
  rw [h1, h2] at h3; omega
theorem xor_mul_pow (l x y : Nat) : (2 ^ l * x) ^^^ (2 ^ l * y) = 2 ^ l * (x ^^^ y) := by
  have h1 := Nat.xor_div_two_pow (a := 2 ^ l * x) (b := 2 ^ l * y) (n := l)
  have h2 := Nat.xor_mod_two_pow (a := 2 ^ l * x) (b := 2 ^ l * y) (n := l)
  rw [Nat.mul_div_cancel_left _ (Nat.two_pow_pos l), Nat.mul_div_cancel_left _ (Nat.two_pow_pos l)] at h1
  rw [Nat.mul_mod_right, Nat.mul_mod_right, Nat.xor_self] at h2
  have h3 := Nat.div_add_mod ((2 ^ l * x) ^^^ (2 ^ l * y)) (2 ^ l)
  rw [h1, h2] at h3; omega
theorem xor_one_odd {M : Nat} (h : M % 2 = 1) : M ^^^ 1 = M - 1 := by
  have h1 := Nat.xor_div_two (a := M) (b := 1)
  have h2 := Nat.xor_mod_two_pow (a := M) (b := 1) (n := 1)
  rw [Nat.pow_one, h] at h2
  have h3 : (1 ^^^ (1 % 2) : Nat) = 0 := rfl
  rw [show (1 : Nat) / 2 = 0 from rfl, Nat.xor_zero] at h1
  omega
theorem xor_top {n r : Nat} (h : r < 2 ^ n) : (2 ^ n + r) ^^^ 2 ^ n = r := by
  have h1 := Nat.xor_div_two_pow (a := 2 ^ n + r) (b := 2 ^ n) (n := n)
  have h2 := Nat.xor_mod_two_pow (a := 2 ^ n + r) (b := 2 ^ n) (n := n)
  have hp := Nat.two_pow_pos n
  rw [Nat.add_div_left _ hp, Nat.div_eq_of_lt h, Nat.div_self hp, Nat.xor_self] at h1
  rw [Nat.add_mod_left, Nat.mod_eq_of_lt h, Nat.mod_self, Nat.xor_zero] at h2
  have h3 := Nat.div_add_mod ((2 ^ n + r) ^^^ 2 ^ n) (2 ^ n)
  rw [h1, h2] at h3; omega
end Go.Proofs.YtielnphmcaecdaaDoor.Mth
