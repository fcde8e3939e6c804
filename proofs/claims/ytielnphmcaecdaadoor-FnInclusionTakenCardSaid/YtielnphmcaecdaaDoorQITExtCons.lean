-- Written by a program of this session (wip/tools)
import Derived.Test.YtielnphmcaecdaaDoorQITMath
import Derived.Test.YtielnphmcaecdaaDoorQITExtTz
import Derived.Test.YtielnphmcaecdaaDoorQITPAllx4
import Derived.Test.YtielnphmcaecdaaDoorQITPAllx7
import Derived.Test.YtielnphmcaecdaaDoorQITBits
namespace Go.Proofs.YtielnphmcaecdaaDoor.Mth
def Nds (l b e : Nat) : List (Nat × Nat) :=
  if b < e then (if b % 2 = 1 then [(l, b)] else []) ++ Nds (l + 1) ((b + 1) / 2) (e / 2) ++ (if e % 2 = 1 then [(l, e - 1)] else []) else []
termination_by e
decreasing_by omega
theorem Nds_empty {l b e : Nat} (h : e ≤ b) : Nds l b e = [] := by rw [Nds, if_neg (by omega)]
theorem Nds_some {l b e : Nat} (h : b < e) : Nds l b e = (if b % 2 = 1 then [(l, b)] else []) ++ Nds (l + 1) ((b + 1) / 2) (e / 2) ++ (if e % 2 = 1 then [(l, e - 1)] else []) := by rw [Nds, if_pos h]
def lev (b e : Nat) : Nat := if b % 2 = 0 ∧ b + 2 ≤ e then lev (b / 2) (e / 2) + 1 else 0
termination_by e
decreasing_by omega
theorem lev_up {b e : Nat} (h : b % 2 = 0) (h2 : b + 2 ≤ e) : lev b e = lev (b / 2) (e / 2) + 1 := by rw [lev, if_pos ⟨h, h2⟩]
theorem lev_no {b e : Nat} (h : b % 2 = 1 ∨ e < b + 2) : lev b e = 0 := by rw [lev, if_neg (by omega)]
theorem pow_up (n : Nat) : 2 ^ (n + 1) = 2 * 2 ^ n := by rw [Nat.pow_succ, Nat.mul_comm]
theorem mod_double (b n : Nat) (h : b % 2 = 0) : b % (2 * n) = 2 * (b / 2 % n) := by
  have hb : b = 2 * (b / 2) := by omega
  rw (occs := .pos [1]) [hb]; rw [Nat.mul_mod_mul_left]
theorem lev_spec (b e : Nat) (h : b < e) : b % 2 ^ lev b e = 0 ∧ b + 2 ^ lev b e ≤ e ∧ (b % 2 ^ (lev b e + 1) = 0 → e < b + 2 ^ (lev b e + 1)) := by
  induction e using Nat.strongRecOn generalizing b with
  | _ e ih =>
  by_cases hc : b % 2 = 0 ∧ b + 2 ≤ e
  · obtain ⟨h1, h2, h3⟩ := ih (e / 2) (by omega) (b / 2) (by omega)
    rw [lev_up hc.1 hc.2, pow_up, pow_up (lev (b / 2) (e / 2) + 1), mod_double _ _ hc.1, mod_double _ _ hc.1]
    refine ⟨by omega, by omega, fun h4 => ?_⟩
    have := h3 (by omega); omega
  · rw [lev_no (by omega)]
    refine ⟨by simp [Nat.mod_one], by simp; omega, fun h4 => ?_⟩
    simp at h4 ⊢; omega
theorem Nds_step (l b e : Nat) (h : b < e) : Nds l b e = (l + lev b e, b / 2 ^ lev b e) :: Nds l (b + 2 ^ lev b e) e := by
  induction e using Nat.strongRecOn generalizing l b with
  | _ e ih =>
  by_cases hb : b % 2 = 1
  · rw [Nds_some h, if_pos hb, lev_no (.inl hb)]
    simp only [Nat.add_zero, Nat.pow_zero, Nat.div_one, List.cons_append, List.nil_append]
    congr 1
    by_cases h1 : b + 1 < e
    · rw [Nds_some h1, if_neg (show ¬ (b + 1) % 2 = 1 by omega), show (b + 1 + 1) / 2 = (b + 1) / 2 by omega]; simp
    · rw [Nds_empty (by omega : e ≤ b + 1), Nds_empty (by omega : e / 2 ≤ (b + 1) / 2), if_neg (by omega)]; rfl
  · by_cases h2 : b + 2 ≤ e
    · rw [Nds_some h, if_neg hb, lev_up (by omega) h2]
      have hs := (lev_spec (b / 2) (e / 2) (by omega)).2.1
      rw [show (b + 1) / 2 = b / 2 by omega, ih (e / 2) (by omega) (l + 1) (b / 2) (by omega)]
      simp only [List.nil_append, List.cons_append]
      rw [show l + 1 + lev (b / 2) (e / 2) = l + (lev (b / 2) (e / 2) + 1) by omega, show b / 2 / 2 ^ lev (b / 2) (e / 2) = b / 2 ^ (lev (b / 2) (e / 2) + 1) by rw [pow_up, Nat.div_div_eq_div_mul]]
      rw [pow_up]
      generalize 2 ^ lev (b / 2) (e / 2) = g at *
      congr 1
      by_cases h3 : b + 2 * g < e
      · rw [Nds_some h3, if_neg (show ¬ (b + 2 * g) % 2 = 1 by omega), show (b + 2 * g + 1) / 2 = b / 2 + g by omega]; simp
      · rw [Nds_empty (by omega : e / 2 ≤ b / 2 + g), Nds_empty (by omega : e ≤ b + 2 * g), if_neg (by omega)]; rfl
    · rw [Nds_some h, if_neg hb, Nds_empty (by omega : e / 2 ≤ (b + 1) / 2), if_pos (by omega), lev_no (by omega)]
      simp only [Nat.add_zero, Nat.pow_zero, Nat.div_one, List.nil_append]
      rw [Nds_empty (by omega : e ≤ b + 1), show e - 1 = b by omega]
theorem Nds_len (l b e m : Nat) (h : e < 2 ^ m) : (Nds l b e).length ≤ 2 * m := by
  induction m generalizing l b e with
  | zero => rw [Nds_empty (by simp at h; omega)]; simp
  | succ m ih =>
    by_cases hb : b < e
    · have := ih (l + 1) ((b + 1) / 2) (e / 2) (by rw [Nat.pow_succ] at h; omega)
      rw [Nds_some hb, List.length_append, List.length_append]
      have h1 : (if b % 2 = 1 then [(l, b)] else []).length ≤ 1 := by split <;> simp
      have h2 : (if e % 2 = 1 then [(l, e - 1)] else []).length ≤ 1 := by split <;> simp
      omega
    · rw [Nds_empty (by omega)]; simp
def Lft : Nat → Nat → Nat → List (Nat × Nat)
  | _, 0, _ => []
  | l, n + 1, b => (if b % 2 = 1 then [(l, b)] else []) ++ Lft (l + 1) n ((b + 1) / 2)
def Rgt : Nat → Nat → Nat → List (Nat × Nat)
  | _, 0, _ => []
  | l, n + 1, e => Rgt (l + 1) n (e / 2) ++ (if e % 2 = 1 then [(l, e - 1)] else [])
theorem Nds_parts (n l b e : Nat) (hb : 0 < b) (h : (b - 1) / 2 ^ n + 1 = e / 2 ^ n) : Nds l b e = Lft l n b ++ Rgt l n e := by
  induction n generalizing l b e with
  | zero => simp at h; rw [Nds_empty (by omega)]; rfl
  | succ n ih =>
    have hp := Nat.two_pow_pos n
    rw [Nat.pow_succ, Nat.mul_comm, ← Nat.div_div_eq_div_mul, ← Nat.div_div_eq_div_mul] at h
    have e1 : (b + 1) / 2 - 1 = (b - 1) / 2 := by omega
    have i1 := ih (l + 1) ((b + 1) / 2) (e / 2) (by omega) (by rw [e1]; exact h)
    have hlt : (b - 1) / 2 < e / 2 := by
      rcases Nat.lt_or_ge ((b - 1) / 2) (e / 2) with h1 | h1
      · exact h1
      · have := Nat.div_le_div_right (c := 2 ^ n) h1; omega
    by_cases hbe : b < e
    · rw [Nds_some hbe, i1, Lft, Rgt]; simp [List.append_assoc]
    · have : b = e := by omega
      subst this
      have hev : b % 2 = 0 := by omega
      rw [Nds_empty (Nat.le_refl _), Lft, Rgt, if_neg (by omega), if_neg (by omega), List.nil_append, List.append_nil, ← i1, Nds_empty (by omega)]
theorem Nds_zero (n l e : Nat) (h : e < 2 ^ n) : Nds l 0 e = Rgt l n e := by
  induction n generalizing l e with
  | zero => simp at h; subst h; rw [Nds_empty (Nat.le_refl _)]; rfl
  | succ n ih =>
    have i1 := ih (l + 1) (e / 2) (by rw [Nat.pow_succ] at h; omega)
    by_cases he : 0 < e
    · rw [Nds_some he, Rgt, ← i1]; simp
    · have : e = 0 := by omega
      subst this
      rw [Nds_empty (Nat.le_refl _), Rgt, ← i1, Nds_empty (Nat.le_refl _)]; rfl
def RgtT : Nat → Nat → List (Nat × Nat)
  | 0, _ => []
  | n + 1, e => (if e / 2 ^ n % 2 = 1 then [(n, e / 2 ^ n - 1)] else []) ++ RgtT n e
theorem Rgt_top (l n e : Nat) : Rgt l (n + 1) e = (if e / 2 ^ n % 2 = 1 then [(l + n, e / 2 ^ n - 1)] else []) ++ Rgt l n e := by
  induction n generalizing l e with
  | zero => simp [Rgt]
  | succ n ih =>
    rw [Rgt, ih (l + 1) (e / 2), Nat.div_div_eq_div_mul, ← pow_up, show Rgt l (n + 1) e = Rgt (l + 1) n (e / 2) ++ (if e % 2 = 1 then [(l, e - 1)] else []) from rfl, List.append_assoc, show l + 1 + n = l + (n + 1) by omega]
theorem Rgt_eq (n e : Nat) : Rgt 0 n e = RgtT n e := by
  induction n with
  | zero => rfl
  | succ n ih => rw [Rgt_top, ih, RgtT, Nat.zero_add]
def negm (n b : Nat) : Nat := (2 ^ n - b % 2 ^ n) % 2 ^ n
theorem negm_zero (b : Nat) : negm 0 b = 0 := by simp [negm, Nat.mod_one]
theorem negm_even (n b : Nat) (h : b % 2 = 0) : negm (n + 1) b = 2 * negm n (b / 2) := by
  unfold negm
  have hp := Nat.two_pow_pos n
  rw [pow_up, mod_double b (2 ^ n) h, ← Nat.mul_sub, mod_double _ _ (by omega), Nat.mul_div_cancel_left _ (by decide)]
theorem negm_odd (n b : Nat) (h : b % 2 = 1) : negm (n + 1) b = 2 * negm n ((b + 1) / 2) + 1 := by
  have h1 := negm_even n (b + 1) (by omega)
  have hp := Nat.two_pow_pos n
  unfold negm at h1 ⊢
  rw [pow_up] at h1 ⊢
  have h2 : (b + 1) % (2 * 2 ^ n) = if b % (2 * 2 ^ n) + 1 = 2 * 2 ^ n then 0 else b % (2 * 2 ^ n) + 1 := by
    have h3 : b % (2 * 2 ^ n) < 2 * 2 ^ n := Nat.mod_lt _ (by omega)
    rw [Nat.add_mod]
    split
    · rename_i h4
      by_cases h5 : 2 * 2 ^ n = 1
      · omega
      · rw [Nat.mod_eq_of_lt (by omega : 1 < 2 * 2 ^ n), h4, Nat.mod_self]
    · rw [Nat.mod_eq_of_lt (by omega : 1 < 2 * 2 ^ n), Nat.mod_eq_of_lt (by omega)]
  have h4 : b % (2 * 2 ^ n) < 2 * 2 ^ n := Nat.mod_lt _ (by omega)
  have h5 : b % (2 * 2 ^ n) % 2 = 1 := by rw [Nat.mod_mul_right_mod]; exact h
  rw [h2] at h1
  rw [Nat.mod_eq_of_lt (by omega : 2 * 2 ^ n - b % (2 * 2 ^ n) < 2 * 2 ^ n)]
  split at h1
  · rename_i h6
    rw [Nat.sub_zero, Nat.mod_self] at h1; omega
  · rw [Nat.mod_eq_of_lt (by omega)] at h1; omega
theorem ones_Lft (n l b : Nat) : (Lft l n b).length = ones (negm n b) := by
  induction n generalizing l b with
  | zero => rw [negm_zero, ones_zero]; rfl
  | succ n ih =>
    rw [Lft, List.length_append, ih]
    by_cases h : b % 2 = 1
    · rw [if_pos h, negm_odd n b h, ones_half (2 * _ + 1), show (2 * negm n ((b + 1) / 2) + 1) % 2 = 1 by omega, show (2 * negm n ((b + 1) / 2) + 1) / 2 = negm n ((b + 1) / 2) by omega]; rfl
    · rw [if_neg h, negm_even n b (by omega), ones_half (2 * _), show (2 * negm n (b / 2)) % 2 = 0 by omega, show (2 * negm n (b / 2)) / 2 = negm n (b / 2) by omega, show (b + 1) / 2 = b / 2 by omega]; rfl
theorem ones_top (n e : Nat) : ones (e % 2 ^ (n + 1)) = e / 2 ^ n % 2 + ones (e % 2 ^ n) := by
  have h := ones_split n (e % 2 ^ (n + 1))
  have h1 : e % 2 ^ (n + 1) % 2 ^ n = e % 2 ^ n := Nat.mod_mod_of_dvd _ ⟨2, by rw [Nat.pow_succ]⟩
  have h2 : e % 2 ^ (n + 1) / 2 ^ n = e / 2 ^ n % 2 := by rw [Nat.pow_succ, Nat.mod_mul_right_div_self]
  rw [h1, h2] at h
  have h3 : ones (e / 2 ^ n % 2) = e / 2 ^ n % 2 := by
    rcases Nat.mod_two_eq_zero_or_one (e / 2 ^ n) with h4 | h4 <;> rw [h4]
    · exact ones_zero
    · rw [ones_half, ones_zero]
  omega
theorem ones_RgtT (n e : Nat) : (RgtT n e).length = ones (e % 2 ^ n) := by
  induction n with
  | zero => simp [RgtT, Nat.mod_one, ones_zero]
  | succ n ih =>
    rw [RgtT, List.length_append, ih, ones_top]
    by_cases h : e / 2 ^ n % 2 = 1
    · rw [if_pos h, h]; rfl
    · rw [if_neg h, show e / 2 ^ n % 2 = 0 by omega]; rfl
theorem Nds_shift (k b e : Nat) : Nds 0 (b * 2 ^ k) (e * 2 ^ k) = Nds k b e := by
  suffices h : ∀ k l, Nds l (b * 2 ^ k) (e * 2 ^ k) = Nds (l + k) b e by simpa using h k 0
  intro k
  induction k with
  | zero => intro l; simp
  | succ k ih =>
    intro l
    have e1 : b * 2 ^ (k + 1) = 2 * (b * 2 ^ k) := by rw [pow_up, Nat.mul_left_comm]
    have e2 : e * 2 ^ (k + 1) = 2 * (e * 2 ^ k) := by rw [pow_up, Nat.mul_left_comm]
    rw [show l + (k + 1) = l + 1 + k by omega, ← ih (l + 1), e1, e2]
    by_cases h : b * 2 ^ k < e * 2 ^ k
    · rw [Nds_some (by omega), if_neg (by omega), if_neg (by omega), show (2 * (b * 2 ^ k) + 1) / 2 = b * 2 ^ k by omega, show 2 * (e * 2 ^ k) / 2 = e * 2 ^ k by omega]; simp
    · rw [Nds_empty (by omega), Nds_empty (by omega)]
theorem Nds_nonempty {l b e : Nat} (h : b < e) : 0 < (Nds l b e).length := by rw [Nds_step l b e h]; simp
theorem and_neg_odd (m M : Nat) (h : M % 2 = 1) (hM : M < 2 ^ m) : M &&& (2 ^ m - M) = 1 := by
  obtain ⟨m, rfl⟩ : ∃ k, m = k + 1 := ⟨m - 1, by cases m with | zero => simp at hM; omega | succ m => rfl⟩
  rw [Nat.pow_succ] at hM ⊢
  have hd := Nat.and_div_two (a := M) (b := 2 ^ m * 2 - M)
  have hm := Nat.and_mod_two_pow (a := M) (b := 2 ^ m * 2 - M) (n := 1)
  rw [Nat.pow_one, h, show (2 ^ m * 2 - M) % 2 = 1 by omega] at hm
  rw [show (2 ^ m * 2 - M) / 2 = 2 ^ m - (M / 2 + 1) by omega] at hd
  have hz : M / 2 &&& (2 ^ m - (M / 2 + 1)) = 0 := by
    apply Nat.eq_of_testBit_eq
    intro i
    rw [Nat.testBit_and, Nat.testBit_two_pow_sub_succ (by omega), Nat.zero_testBit]
    cases (M / 2).testBit i <;> simp
  have : (1 &&& 1 : Nat) = 1 := rfl
  omega
theorem and_mul_pow (l x y : Nat) : (2 ^ l * x) &&& (2 ^ l * y) = 2 ^ l * (x &&& y) := by
  have h1 := Nat.and_div_two_pow (a := 2 ^ l * x) (b := 2 ^ l * y) (n := l)
  have h2 := Nat.and_mod_two_pow (a := 2 ^ l * x) (b := 2 ^ l * y) (n := l)
  rw [Nat.mul_div_cancel_left _ (Nat.two_pow_pos l), Nat.mul_div_cancel_left _ (Nat.two_pow_pos l)] at h1
  rw [Nat.mul_mod_right, Nat.mul_mod_right, Nat.and_self] at h2
  have h3 := Nat.div_add_mod ((2 ^ l * x) &&& (2 ^ l * y)) (2 ^ l)
  rw [h1, h2] at h3; omega
theorem xor_mul_pow (l x y : Nat) : (2 ^ l * x) ^^^ (2 ^ l * y) = 2 ^ l * (x ^^^ y) := by
  have h1 := Nat.xor_div_two_pow (a := 2 ^ l * x) (b := 2 ^ l * y) (n := l)
  have h2 := Nat.xor_mod_two_pow (a := 2 ^ l * x) (b := 2 ^ l * y) (n := l)
  rw [Nat.mul_div_cancel_left _ (Nat.two_pow_pos l), Nat.mul_div_cancel_left _ (Nat.two_pow_pos l)] at h1
  rw [Nat.mul_mod_right, Nat.mul_mod_right, Nat.xor_self] at h2
  have h3 := Nat.div_add_mod ((2 ^ l * x) ^^^ (2 ^ l * y)) (2 ^ l)
  rw [h1, h2] at h3; omega
theorem xor_one_odd {M : Nat} (h : M % 2 = 1) : M ^^^ 1 = M - 1 := by
  have h1 := Nat.xor_div_two (a := M) (b := 1)
  have h2 := Nat.xor_mod_two_pow (a := M) (b := 1) (n := 1)
  rw [Nat.pow_one, h] at h2
  have h3 : (1 ^^^ (1 % 2) : Nat) = 0 := rfl
  rw [show (1 : Nat) / 2 = 0 from rfl, Nat.xor_zero] at h1
  omega
theorem xor_top {n r : Nat} (h : r < 2 ^ n) : (2 ^ n + r) ^^^ 2 ^ n = r := by
  have h1 := Nat.xor_div_two_pow (a := 2 ^ n + r) (b := 2 ^ n) (n := n)
  have h2 := Nat.xor_mod_two_pow (a := 2 ^ n + r) (b := 2 ^ n) (n := n)
  have hp := Nat.two_pow_pos n
  rw [Nat.add_div_left _ hp, Nat.div_eq_of_lt h, Nat.div_self hp, Nat.xor_self] at h1
  rw [Nat.add_mod_left, Nat.mod_eq_of_lt h, Nat.mod_self, Nat.xor_zero] at h2
  have h3 := Nat.div_add_mod ((2 ^ n + r) ^^^ 2 ^ n) (2 ^ n)
  rw [h1, h2] at h3; omega
end Go.Proofs.YtielnphmcaecdaaDoor.Mth
namespace Go.Proofs.YtielnphmcaecdaaDoor.PAll
open Go.RowKit Go.Proofs.YtielnphmcaecdaaDoor.Num Go.Proofs.YtielnphmcaecdaaDoor.Mth Go.Proofs.YtielnphmcaecdaaDoorW.PrintWords Go.Proofs.YtielnphmcaecdaaDoorW.PrintLast
theorem tz_pow (l : Nat) (h : l < 64) : tzTab.getD (2 ^ l * 285870213051353865 % 18446744073709551616 / 288230376151711744) 0 = (l : Int) := by
  revert l; decide +kernel
theorem bits_TrailingZeros64.eq (l M : Nat) (hM : M % 2 = 1) (hx : 2 ^ l * M < 18446744073709551616) : bits_TrailingZeros64.f ((2 ^ l * M : Nat) : Int) = some ((l : Nat) : Int) := by
  have hp := Nat.two_pow_pos l
  have hl : l < 64 := by
    rcases Nat.lt_or_ge l 64 with h | h
    · exact h
    · have h1 : 2 ^ 64 ≤ 2 ^ l := Nat.pow_le_pow_right (by decide) h
      have h2 : 2 ^ l * 1 ≤ 2 ^ l * M := Nat.mul_le_mul_left _ (by omega)
      omega
  have hlt : 2 ^ l < 18446744073709551616 := pow_lt64 (by omega)
  have hpos : 0 < 2 ^ l * M := Nat.mul_pos hp (by omega)
  have h64 : (18446744073709551616 : Nat) = 2 ^ l * 2 ^ (64 - l) := by rw [← Nat.pow_add, show l + (64 - l) = 64 by omega]
  have hML : M < 2 ^ (64 - l) := by
    rw [h64] at hx
    exact Nat.lt_of_mul_lt_mul_left hx
  have hneg : IntKind.u64.wrap (-((2 ^ l * M : Nat) : Int)) = ((18446744073709551616 - 2 ^ l * M : Nat) : Int) := by rw [u64w]; omega
  have hand : (2 ^ l * M) &&& (18446744073709551616 - 2 ^ l * M) = 2 ^ l := by
    rw [h64, ← Nat.mul_sub, and_mul_pow, and_neg_odd _ _ hM hML, Nat.mul_one]
  have hi : tzIdx ((2 ^ l * M : Nat) : Int) = ((2 ^ l * 285870213051353865 % 18446744073709551616 / 288230376151711744 : Nat) : Int) := by
    unfold tzIdx
    rw [hneg, and64 _ _ hx (by omega), hand]
    have e1 : ((2 ^ l : Nat) : Int) * 285870213051353865 = ((2 ^ l * 285870213051353865 : Nat) : Int) := by rw [Int.natCast_mul]; rfl
    rw [e1, u64n]
    exact ndiv _ 288230376151711744
  unfold bits_TrailingZeros64.f
  rw [if_neg (by omega), hi, Int.toNat_natCast, tz_pow l hl]
def masks (b e : Nat) : Nat × Nat := if b = 0 then (0, e) else (negm (fork (b - 1) e - 1) b, e % 2 ^ (fork (b - 1) e - 1))
theorem fork_pos {x e : Nat} (h : x < e) : 0 < fork x e := by
  rcases Nat.eq_zero_or_pos (fork x e) with h1 | h1
  · have := fork_eq x e
    rw [h1] at this; simp at this; omega
  · exact h1
theorem fork_below {x e : Nat} (h : x < e) : x / 2 ^ (fork x e - 1) + 1 = e / 2 ^ (fork x e - 1) := by
  have h1 := fork_pos h
  have h2 : ¬ fork x e ≤ fork x e - 1 := by omega
  rw [fork_le] at h2
  have h3 := fork_eq x e
  rw [show fork x e = fork x e - 1 + 1 by omega, Nat.pow_succ, ← Nat.div_div_eq_div_mul, ← Nat.div_div_eq_div_mul] at h3
  have h4 := Nat.div_le_div_right (c := 2 ^ (fork x e - 1)) (Nat.le_of_lt h)
  omega
theorem compact_Decompose.eq (b e : Nat) (h : b ≤ e) (he : e < 18446744073709551616) (k : Nat) : compact_Decompose.f (k + 1) (b : Int) (e : Int) = some (((masks b e).1 : Int), ((masks b e).2 : Int)) := by
  unfold compact_Decompose.f masks
  by_cases h0 : b = 0
  · rw [if_pos (by omega), if_pos h0]; rfl
  · have hx : (b - 1) ^^^ e < 18446744073709551616 := Nat.xor_lt_two_pow (n := 64) (by omega) (by omega)
    have hf := blen_lt64 hx
    have hp := fork_pos (x := b - 1) (e := e) (by omega)
    have hbel := fork_below (x := b - 1) (e := e) (by omega)
    have e1 : IntKind.u64.wrap ((b : Int) - 1) = ((b - 1 : Nat) : Int) := u64sub (a := b) (b := 1) (by omega) (by omega)
    rw [if_neg (by omega), if_neg h0, e1, xor64 _ _ (by omega) he, bits_Len64.eq _ _ hx]
    clear e1
    rw [show blen ((b - 1) ^^^ e) = fork (b - 1) e from rfl] at hf ⊢
    rw [Option.bind_some]
    generalize hd : fork (b - 1) e = D at *
    obtain ⟨d, rfl⟩ : ∃ d, D = d + 1 := ⟨D - 1, by omega⟩
    rw [Nat.add_sub_cancel] at *
    have hd2 := pow_lt64 (k := d) (by omega)
    have hdp := Nat.two_pow_pos d
    have hmd : (b - 1) % 2 ^ d < 2 ^ d := Nat.mod_lt _ hdp
    have hme : e % 2 ^ d < 2 ^ d := Nat.mod_lt _ hdp
    have hmask : (18446744073709551615 ^^^ (b - 1)) &&& (2 ^ d - 1) = negm d b := by
      rw [Nat.and_two_pow_sub_one_eq_mod, Nat.xor_mod_two_pow]
      have h1 : 18446744073709551615 % 2 ^ d = 2 ^ d - 1 := by
        have : (18446744073709551615 : Nat) = 2 ^ 64 - 1 := rfl
        rw [this]
        have h2 : 2 ^ 64 = 2 ^ d * 2 ^ (64 - d) := by rw [← Nat.pow_add, show d + (64 - d) = 64 by omega]
        have h3 := Nat.two_pow_pos (64 - d)
        obtain ⟨c, hc⟩ : ∃ c, 2 ^ (64 - d) = c + 1 := ⟨2 ^ (64 - d) - 1, by omega⟩
        rw [h2, hc, Nat.mul_add, Nat.mul_one, Nat.add_sub_assoc (by omega), Nat.mul_add_mod, Nat.mod_eq_of_lt (by omega)]
      rw [h1]
      have h4 : (2 ^ d - 1) ^^^ ((b - 1) % 2 ^ d) = 2 ^ d - ((b - 1) % 2 ^ d + 1) := by
        apply Nat.eq_of_testBit_eq
        intro i
        rw [Nat.testBit_xor, Nat.testBit_two_pow_sub_one, Nat.testBit_two_pow_sub_succ hmd, Nat.testBit_mod_two_pow]
        by_cases h5 : i < d <;> simp [h5]
      rw [h4]
      unfold negm
      have h6 : b % 2 ^ d = ((b - 1) % 2 ^ d + 1) % 2 ^ d := by
        have := Nat.add_mod (b - 1) 1 (2 ^ d)
        rw [show b - 1 + 1 = b by omega] at this
        rw [this, Nat.add_mod ((b - 1) % 2 ^ d) 1, Nat.mod_mod]
      rw [h6]
      by_cases h7 : (b - 1) % 2 ^ d + 1 = 2 ^ d
      · rw [h7, Nat.mod_self, Nat.sub_self, Nat.sub_zero, Nat.mod_self]
      · clear h6 h4 hbel
        generalize (b - 1) % 2 ^ d = r at *
        rw [Nat.mod_eq_of_lt (show r + 1 < 2 ^ d by omega), Nat.mod_eq_of_lt (show 2 ^ d - (r + 1) < 2 ^ d by omega)]
    have w1 : wrap64 (((d + 1 : Nat) : Int) - 1) = (d : Int) := by
      rw [show ((d + 1 : Nat) : Int) - 1 = (d : Int) by omega]; exact w64 (by omega)
    have w3 : IntKind.u64.wrap (((2 ^ d : Nat) : Int) - 1) = ((2 ^ d - 1 : Nat) : Int) := u64sub (a := 2 ^ d) (b := 1) hdp hd2
    have w4 : Go.bits .xor .u64 18446744073709551615 ((b - 1 : Nat) : Int) = ((18446744073709551615 ^^^ (b - 1) : Nat) : Int) := xor64 18446744073709551615 (b - 1) (by decide) (by omega)
    have hb1 : 18446744073709551615 ^^^ (b - 1) < 18446744073709551616 := Nat.xor_lt_two_pow (n := 64) (by decide) (by omega)
    have hm1 : 2 ^ d - 1 < 18446744073709551616 := by omega
    have hdd : d < 18446744073709551616 := by omega
    have hs := shl_one (k := d) (by omega)
    rw [w1, u64in hdd, if_pos (Int.natCast_nonneg d), hs, w3, w4, and64 _ _ hb1 hm1, and64 _ _ he hm1, hmask, Nat.and_two_pow_sub_one_eq_mod]
def cnode (p : Nat × Nat) : S99 := ⟨(p.1 : Int), (p.2 : Int)⟩
def inode (p : Nat × Nat) : S49 := ⟨(p.1 : Int), (p.2 : Int)⟩
theorem shr_mul (l B : Nat) (hl : l ≤ 64) : shr .u64 ((2 ^ l * B : Nat) : Int) (l : Int) = (B : Int) := by
  rw [shr64, Nat.min_eq_left hl, Nat.mul_div_cancel_left _ (Nat.two_pow_pos l)]
theorem left_loop (n : Nat) : ∀ (l B : Nat) (out : List S99) (R : Int) (k : Nat), l + n ≤ 63 → 2 ^ (l + n) * ((B + (2 ^ n - 1)) / 2 ^ n) < 18446744073709551616 → out.length + n < 8796093022208 →
    compact_RangeNodes.l0 (k + (Lft l n B).length + 1) out ((2 ^ l * negm n B : Nat) : Int) R ((2 ^ l * B : Nat) : Int) = compact_RangeNodes.l1 k (out ++ (Lft l n B).map cnode) R ((2 ^ (l + n) * ((B + (2 ^ n - 1)) / 2 ^ n) : Nat) : Int) := by
  induction n with
  | zero =>
    intro l B out R k _ _ _
    rw [negm_zero, compact_RangeNodes.l0, if_pos (by simp)]
    simp [Lft]
  | succ n ih =>
    intro l B out R k hl hb ho
    have hup : (B + (2 ^ (n + 1) - 1)) / 2 ^ (n + 1) = ((B + 1) / 2 + (2 ^ n - 1)) / 2 ^ n := by
      have hp := Nat.two_pow_pos n
      rw [pow_up, ← Nat.div_div_eq_div_mul]
      congr 1; omega
    rw [hup] at hb ⊢
    have e1 : l + (n + 1) = l + 1 + n := by omega
    rw [e1] at hb ⊢
    have ihh := ih (l + 1) ((B + 1) / 2)
    have hp1 : 2 ^ (l + 1) = 2 ^ l * 2 := Nat.pow_succ 2 l
    by_cases h : B % 2 = 1
    · have h1 := negm_odd n B h
      have hL : Lft l (n + 1) B = (l, B) :: Lft (l + 1) n ((B + 1) / 2) := by rw [Lft, if_pos h]; rfl
      have hlarge : 2 ^ (l + 1) * ((B + 1) / 2) ≤ 2 ^ (l + 1 + n) * (((B + 1) / 2 + (2 ^ n - 1)) / 2 ^ n) := by
        have hp := Nat.two_pow_pos n
        rw [Nat.pow_add 2 (l + 1) n, Nat.mul_assoc]
        apply Nat.mul_le_mul_left
        have := Nat.div_add_mod ((B + 1) / 2 + (2 ^ n - 1)) (2 ^ n)
        have := Nat.mod_lt ((B + 1) / 2 + (2 ^ n - 1)) hp
        omega
      have hB : 2 ^ l * B + 2 ^ l = 2 ^ (l + 1) * ((B + 1) / 2) := by
        rw [hp1, Nat.mul_assoc, show 2 * ((B + 1) / 2) = B + 1 by omega, Nat.mul_add, Nat.mul_one]
      have hM : 2 ^ l * negm (n + 1) B < 18446744073709551616 := by
        have h2 : negm (n + 1) B < 2 ^ (n + 1) := Nat.mod_lt _ (Nat.two_pow_pos _)
        have h3 : 2 ^ l * negm (n + 1) B < 2 ^ l * 2 ^ (n + 1) := Nat.mul_lt_mul_of_pos_left h2 (Nat.two_pow_pos l)
        rw [← Nat.pow_add] at h3
        exact Nat.lt_trans h3 (pow_lt64 (by omega))
      have hl64 := pow_lt64 (k := l) (by omega)
      have hx : (2 ^ l * negm (n + 1) B) ^^^ 2 ^ l = 2 ^ (l + 1) * negm n ((B + 1) / 2) := by
        have := xor_mul_pow l (negm (n + 1) B) 1
        rw [Nat.mul_one] at this
        rw [this, xor_one_odd (by omega), h1, Nat.add_sub_cancel, hp1, Nat.mul_assoc]
      have hpos : 0 < 2 ^ l * negm (n + 1) B := Nat.mul_pos (Nat.two_pow_pos l) (by omega)
      have htz := bits_TrailingZeros64.eq l (negm (n + 1) B) (by omega) hM
      have hll : l < 18446744073709551616 := by omega
      have hadd := u64add (a := 2 ^ l * B) (b := 2 ^ l) (by omega)
      have hxx := xor64 _ _ hM hl64
      have hs1 := shl_one (k := l) (by omega)
      have hsr := shr_mul l B (by omega)
      have hne : ¬ ((2 ^ l * negm (n + 1) B : Nat) : Int) = 0 := by omega
      have hlen : out.length < 8796093022208 := by omega
      have hi := ihh (out ++ [cnode (l, B)]) R k (by omega) hb (by simp; omega)
      rw [hL, List.length_cons, show k + ((Lft (l + 1) n ((B + 1) / 2)).length + 1) + 1 = (k + (Lft (l + 1) n ((B + 1) / 2)).length + 1) + 1 by omega]
      rw [compact_RangeNodes.l0, if_neg hne, htz, Option.bind_some, u64in hll, if_pos (Int.natCast_nonneg l), hsr, hs1, hxx, hx, hadd, hB]
      show (if out.length < 8796093022208 then compact_RangeNodes.l0 _ (out ++ [cnode (l, B)]) _ R _ else none) = _
      rw [if_pos hlen, hi, List.map_cons, List.append_assoc]; rfl
    · have h1 := negm_even n B (by omega)
      have hL : Lft l (n + 1) B = Lft (l + 1) n ((B + 1) / 2) := by rw [Lft, if_neg h]; rfl
      have e2 : 2 ^ l * negm (n + 1) B = 2 ^ (l + 1) * negm n ((B + 1) / 2) := by rw [h1, hp1, Nat.mul_assoc, show (B + 1) / 2 = B / 2 by omega]
      have e3 : 2 ^ l * B = 2 ^ (l + 1) * ((B + 1) / 2) := by rw [hp1, Nat.mul_assoc, show 2 * ((B + 1) / 2) = B by omega]
      rw [hL, e2, e3]
      exact ihh out R k (by omega) hb (by omega)
theorem right_loop (n e : Nat) (he : e < 18446744073709551616) : ∀ (out : List S99) (k : Nat), n ≤ 64 → out.length + n < 8796093022208 →
    compact_RangeNodes.l1 (k + (RgtT n e).length + 2) out ((e % 2 ^ n : Nat) : Int) ((e / 2 ^ n * 2 ^ n : Nat) : Int) = some (out ++ (RgtT n e).map cnode) := by
  induction n with
  | zero =>
    intro out k _ _
    rw [compact_RangeNodes.l1, if_pos (by simp [Nat.mod_one])]
    simp [RgtT]
  | succ n ih =>
    intro out k hn ho
    have hp := Nat.two_pow_pos n
    have hq : e / 2 ^ (n + 1) = e / 2 ^ n / 2 := by rw [Nat.pow_succ, Nat.div_div_eq_div_mul]
    have hm : e % 2 ^ (n + 1) = e % 2 ^ n + 2 ^ n * (e / 2 ^ n % 2) := by rw [Nat.pow_succ, Nat.mod_mul]
    have hle : e / 2 ^ n * 2 ^ n ≤ e := Nat.div_mul_le_self e (2 ^ n)
    have hodd : e / 2 ^ n % 2 = 1 → e / 2 ^ n / 2 * 2 = e / 2 ^ n - 1 ∧ e / 2 ^ n - 1 + 1 = e / 2 ^ n := by
      generalize e / 2 ^ n = q; omega
    have heven : e / 2 ^ n % 2 = 0 → e / 2 ^ n / 2 * 2 = e / 2 ^ n := by
      generalize e / 2 ^ n = q; omega
    by_cases h : e / 2 ^ n % 2 = 1
    · have hL : RgtT (n + 1) e = (n, e / 2 ^ n - 1) :: RgtT n e := by rw [RgtT, if_pos h]; rfl
      have hr : e % 2 ^ n < 2 ^ n := Nat.mod_lt _ hp
      have hm1 : e % 2 ^ (n + 1) = 2 ^ n + e % 2 ^ n := by rw [hm, h]; omega
      have hpos : e / 2 ^ (n + 1) * 2 ^ (n + 1) = 2 ^ n * (e / 2 ^ n - 1) := by
        rw [hq, Nat.pow_succ, ← Nat.mul_assoc, Nat.mul_right_comm, (hodd h).1, Nat.mul_comm]
      have hsum : 2 ^ n * (e / 2 ^ n - 1) + 2 ^ n = e / 2 ^ n * 2 ^ n := by
        rw [← Nat.mul_succ, Nat.succ_eq_add_one, (hodd h).2, Nat.mul_comm]
      have hn64 := pow_lt64 (k := n) (by omega)
      have hbl : blen (2 ^ n + e % 2 ^ n) = n + 1 := blen_unique (by omega) (by rw [Nat.pow_succ]; omega)
      have hrl : 2 ^ n + e % 2 ^ n < 18446744073709551616 := by
        have := Nat.mod_le e (2 ^ (n + 1)); omega
      have hlen64 := bits_Len64.eq (k + (RgtT n e).length + 1) _ hrl
      rw [hbl] at hlen64
      have hw1 : IntKind.u64.wrap (IntKind.u64.wrap ((n + 1 : Nat) : Int) - 1) = (n : Int) := by
        rw [u64in (by omega)]
        exact u64sub (a := n + 1) (b := 1) (by omega) (by omega)
      have hadd := u64add (a := 2 ^ n * (e / 2 ^ n - 1)) (b := 2 ^ n) (by omega)
      have hxx := xor64 _ _ hrl hn64
      rw [xor_top hr] at hxx
      have hs1 := shl_one (k := n) (by omega)
      have hsr := shr_mul n (e / 2 ^ n - 1) (by omega)
      have hne : ¬ ((2 ^ n + e % 2 ^ n : Nat) : Int) = 0 := by omega
      have hlen : out.length < 8796093022208 := by omega
      have hi := ih (out ++ [cnode (n, e / 2 ^ n - 1)]) k (by omega) (by simp; omega)
      rw [hL, List.length_cons, show k + ((RgtT n e).length + 1) + 2 = (k + (RgtT n e).length + 2) + 1 by omega, hm1, hpos]
      rw [compact_RangeNodes.l1, if_neg hne, hlen64, Option.bind_some, hw1, if_pos (Int.natCast_nonneg n), hsr, hs1, hxx, hadd, hsum]
      show (if out.length < 8796093022208 then compact_RangeNodes.l1 _ (out ++ [cnode (n, e / 2 ^ n - 1)]) _ _ else none) = _
      rw [if_pos hlen, hi, List.map_cons, List.append_assoc]; rfl
    · have h0 : e / 2 ^ n % 2 = 0 := by omega
      have hL : RgtT (n + 1) e = RgtT n e := by rw [RgtT, if_neg h]; rfl
      have hm1 : e % 2 ^ (n + 1) = e % 2 ^ n := by rw [hm, h0]; simp
      have hpos : e / 2 ^ (n + 1) * 2 ^ (n + 1) = e / 2 ^ n * 2 ^ n := by
        rw [hq, Nat.pow_succ, ← Nat.mul_assoc, Nat.mul_right_comm, heven h0]
      rw [hL, hm1, hpos]
      exact ih out k (by omega) (by omega)
end Go.Proofs.YtielnphmcaecdaaDoor.PAll
namespace Go.Proofs.YtielnphmcaecdaaDoor.PAll
open Go.RowKit Go.Proofs.YtielnphmcaecdaaDoor.Num Go.Proofs.YtielnphmcaecdaaDoor.Mth Go.Proofs.YtielnphmcaecdaaDoorW.PrintWords Go.Proofs.YtielnphmcaecdaaDoorW.PrintLast
theorem Nds_masks (b e : Nat) (h : b ≤ e) (h0 : 0 < b) : Nds 0 b e = Lft 0 (fork (b - 1) e - 1) b ++ RgtT (fork (b - 1) e - 1) e := by
  rw [Nds_parts (fork (b - 1) e - 1) 0 b e h0 (fork_below (by omega)), Rgt_eq]
theorem fork_64 {i n : Nat} (hi : i < 18446744073709551616) (hn : n < 18446744073709551616) : fork i n ≤ 64 := blen_lt64 (Nat.xor_lt_two_pow (n := 64) hi hn)
theorem Lft_len (n l b : Nat) : (Lft l n b).length ≤ n := by
  rw [ones_Lft]; exact ones_le _ _ (Nat.mod_lt _ (Nat.two_pow_pos n))
theorem RgtT_len (n e : Nat) : (RgtT n e).length ≤ n := by
  rw [ones_RgtT]; exact ones_le _ _ (Nat.mod_lt _ (Nat.two_pow_pos n))
theorem compact_RangeNodes.eq (b e : Nat) (h : b ≤ e) (he : e < 18446744073709551616) (out : List S99) (ho : out.length < 8796093022000) (K : Nat) (hK : 140 ≤ K) :
    compact_RangeNodes.f K (b : Int) (e : Int) out = some (out ++ (Nds 0 b e).map cnode) := by
  have hD := compact_Decompose.eq b e h he (K - 1)
  rw [show K - 1 + 1 = K by omega] at hD
  unfold compact_RangeNodes.f
  rw [hD, Option.bind_some]
  clear hD
  rcases Nat.eq_zero_or_pos b with h0 | h0
  · subst h0
    have hl := RgtT_len 64 e
    have hr := right_loop 64 e he out (K - 1 - (RgtT 64 e).length - 2) (by omega) (by omega)
    rw [Nat.mod_eq_of_lt he, Nat.div_eq_of_lt he, Nat.zero_mul, show K - 1 - (RgtT 64 e).length - 2 + (RgtT 64 e).length + 2 = K - 1 by omega] at hr
    rw [show masks 0 e = (0, e) from rfl]
    show compact_RangeNodes.l0 K out 0 (e : Int) 0 = _
    obtain ⟨K, rfl⟩ : ∃ m, K = m + 1 := ⟨K - 1, by omega⟩
    rw [compact_RangeNodes.l0, if_pos rfl, Nds_zero 64 0 e he, Rgt_eq]
    exact hr
  · have hm : masks b e = (negm (fork (b - 1) e - 1) b, e % 2 ^ (fork (b - 1) e - 1)) := by unfold masks; rw [if_neg (by omega)]
    have hf := fork_64 (i := b - 1) (n := e) (by omega) he
    have hbel := fork_below (x := b - 1) (e := e) (by omega)
    have hd63 : fork (b - 1) e - 1 ≤ 63 := by omega
    rw [hm, Nds_masks b e h h0]
    clear hf hm
    generalize fork (b - 1) e - 1 = d at *
    have hp := Nat.two_pow_pos d
    have hup : (b + (2 ^ d - 1)) / 2 ^ d = e / 2 ^ d := by
      rw [← hbel, show b + (2 ^ d - 1) = (b - 1) + 2 ^ d by omega, Nat.add_div_right _ hp]
    have hle : e / 2 ^ d * 2 ^ d ≤ e := Nat.div_mul_le_self e (2 ^ d)
    have h1 := Lft_len d 0 b
    have h2 := RgtT_len d e
    have hlf := left_loop d 0 b out ((e % 2 ^ d : Nat) : Int) (K - (Lft 0 d b).length - 1)
    rw [hup, Nat.zero_add, Nat.mul_comm (2 ^ d), Nat.pow_zero, Nat.one_mul, Nat.one_mul, show K - (Lft 0 d b).length - 1 + (Lft 0 d b).length + 1 = K by omega] at hlf
    have hr := right_loop d e he (out ++ (Lft 0 d b).map cnode) (K - (Lft 0 d b).length - 1 - (RgtT d e).length - 2) (by omega) (by simp; omega)
    rw [show K - (Lft 0 d b).length - 1 - (RgtT d e).length - 2 + (RgtT d e).length + 2 = K - (Lft 0 d b).length - 1 by omega] at hr
    show compact_RangeNodes.l0 K out ((negm d b : Nat) : Int) ((e % 2 ^ d : Nat) : Int) (b : Int) = _
    rw [hlf (by omega) (by omega) (by omega), hr, List.map_append, List.append_assoc]
theorem compact_RangeSize.eq (b e : Nat) (h : b ≤ e) (he : e < 18446744073709551616) (k : Nat) : compact_RangeSize.f (k + 1) (b : Int) (e : Int) = some (((Nds 0 b e).length : Nat) : Int) := by
  unfold compact_RangeSize.f
  rw [compact_Decompose.eq b e h he, Option.bind_some]
  rcases Nat.eq_zero_or_pos b with h0 | h0
  · subst h0
    have h1 : (Nds 0 0 e).length = ones e := by rw [Nds_zero 64 0 e he, Rgt_eq, ones_RgtT, Nat.mod_eq_of_lt he]
    have h2 := ones_le e 64 he
    have e0 : bits_OnesCount64.f 0 = some 0 := by
      have := bits_OnesCount64.eq 0 (by decide)
      rw [ones_zero] at this; exact this
    rw [show masks 0 e = (0, e) from rfl, h1]
    show (bits_OnesCount64.f 0).bind _ = _
    rw [e0, Option.bind_some, bits_OnesCount64.eq e he, Option.bind_some, Int.zero_add, w64 (by omega)]
  · have hm : masks b e = (negm (fork (b - 1) e - 1) b, e % 2 ^ (fork (b - 1) e - 1)) := by unfold masks; rw [if_neg (by omega)]
    have hf := fork_64 (i := b - 1) (n := e) (by omega) he
    rw [hm, Nds_masks b e h h0, List.length_append, ones_Lft, ones_RgtT]
    generalize hd : fork (b - 1) e - 1 = d at *
    have hd63 : d ≤ 63 := by omega
    have h1 := pow_lt64 hd63
    have h2 : negm d b < 2 ^ d := Nat.mod_lt _ (Nat.two_pow_pos d)
    have h3 : e % 2 ^ d < 2 ^ d := Nat.mod_lt _ (Nat.two_pow_pos d)
    have h4 := ones_le _ _ h2
    have h5 := ones_le _ _ h3
    rw [bits_OnesCount64.eq _ (Nat.lt_trans h2 h1), Option.bind_some, bits_OnesCount64.eq _ (Nat.lt_trans h3 h1), Option.bind_some, w64_add _ _ (by omega)]
end Go.Proofs.YtielnphmcaecdaaDoor.PAll
namespace Go.Proofs.YtielnphmcaecdaaDoor.Mth
def lvs (p : Nat × Nat) : Nat × Nat := (p.2 * 2 ^ p.1, (p.2 + 1) * 2 ^ p.1)
def sib (i l : Nat) : Nat × Nat := (l, if i / 2 ^ l % 2 = 0 then i / 2 ^ l + 1 else i / 2 ^ l - 1)
def sibs (i m : Nat) : List (Nat × Nat) := (List.range m).map (sib i)
theorem sibs_succ (i m : Nat) : sibs i (m + 1) = sibs i m ++ [sib i m] := by unfold sibs; rw [List.range_succ, List.map_append]; rfl
theorem div_of_range {i b p : Nat} (h1 : b * p ≤ i) (h2 : i < (b + 1) * p) : i / p = b := by
  have hp : 0 < p := by rcases Nat.eq_zero_or_pos p with h | h
                        · subst h; omega
                        · exact h
  exact Nat.div_eq_of_lt_le h1 h2
theorem path_perfect (m : Nat) : ∀ b i, b * 2 ^ m ≤ i → i < (b + 1) * 2 ^ m → path i (b * 2 ^ m) ((b + 1) * 2 ^ m) = (sibs i m).map lvs := by
  induction m with
  | zero =>
    intro b i h1 h2
    rw [path_one (by rw [Nat.pow_zero]; omega)]; rfl
  | succ m ih =>
    intro b i h1 h2
    have hp := Nat.two_pow_pos m
    have e1 : b * 2 ^ (m + 1) = 2 * b * 2 ^ m := by rw [Nat.pow_succ]; ac_rfl
    have e2 : (b + 1) * 2 ^ (m + 1) = (2 * b + 2) * 2 ^ m := by rw [Nat.pow_succ, Nat.add_mul, Nat.add_mul]; have : b * (2 ^ m * 2) = 2 * b * 2 ^ m := by ac_rfl
                                                                omega
    have e3 : (2 * b + 1) * 2 ^ m = 2 * b * 2 ^ m + 2 ^ m := by rw [Nat.add_mul, Nat.one_mul]
    have e4 : (2 * b + 2) * 2 ^ m = 2 * b * 2 ^ m + 2 ^ m + 2 ^ m := by rw [Nat.add_mul]; omega
    have e5 : (b + 1) * 2 ^ (m + 1) - b * 2 ^ (m + 1) = 2 ^ (m + 1) := by rw [e1, e2, e4, Nat.pow_succ]; omega
    have hs : psplit ((b + 1) * 2 ^ (m + 1) - b * 2 ^ (m + 1)) = 2 ^ m := by rw [e5, psplit_pow]
    have h2p : 2 ≤ (b + 1) * 2 ^ (m + 1) - b * 2 ^ (m + 1) := by rw [e5, Nat.pow_succ]; omega
    rw [sibs_succ, List.map_append]
    by_cases hi : i < 2 * b * 2 ^ m + 2 ^ m
    · have hd : i / 2 ^ m = 2 * b := div_of_range (by omega) (by rw [e3]; exact hi)
      rw [path_left h2p (by rw [hs, e1]; exact hi), hs, e1, ← e3, ih (2 * b) i (by omega) (by rw [e3]; exact hi)]
      congr 1
      show [((2 * b + 1) * 2 ^ m, (b + 1) * 2 ^ (m + 1))] = [lvs (sib i m)]
      unfold lvs sib
      rw [hd, if_pos (by omega), e2]
    · have hd : i / 2 ^ m = 2 * b + 1 := div_of_range (by rw [e3]; omega) (by show i < (2 * b + 2) * 2 ^ m; rw [e4]; rw [e2, e4] at h2; exact h2)
      rw [path_right h2p (by rw [hs, e1]; omega), hs]
      have e6 : b * 2 ^ (m + 1) + 2 ^ m = (2 * b + 1) * 2 ^ m := by rw [e1, e3]
      have e7 : (b + 1) * 2 ^ (m + 1) = (2 * b + 1 + 1) * 2 ^ m := e2
      rw [e6, e7, ih (2 * b + 1) i (by rw [e3]; omega) (by rw [← e7]; exact h2)]
      congr 1
      show [(b * 2 ^ (m + 1), (2 * b + 1) * 2 ^ m)] = [lvs (sib i m)]
      unfold lvs sib
      rw [hd, if_neg (by omega), e1]; rfl
theorem fork_is {i n m : Nat} (h1 : i / 2 ^ (m + 1) = n / 2 ^ (m + 1)) (h2 : i / 2 ^ m ≠ n / 2 ^ m) : fork i n = m + 1 := by
  have a := fork_le.2 h1
  have b : ¬ fork i n ≤ m := fun h => h2 (fork_le.1 h)
  omega
theorem lev_is {b e κ : Nat} (h : b < e) (h1 : b % 2 ^ κ = 0) (h2 : b + 2 ^ κ ≤ e) (h3 : e < b + 2 ^ (κ + 1)) : lev b e = κ := by
  obtain ⟨s1, s2, s3⟩ := lev_spec b e h
  rcases Nat.lt_trichotomy (lev b e) κ with hl | hl | hl
  · have hd : 2 ^ (lev b e + 1) ∣ b := Nat.dvd_trans (Nat.pow_dvd_pow 2 hl) (Nat.dvd_of_mod_eq_zero h1)
    have := s3 (Nat.mod_eq_zero_of_dvd hd)
    have := Nat.pow_le_pow_right (n := 2) (by decide) (show lev b e + 1 ≤ κ from hl)
    omega
  · exact hl
  · have := Nat.pow_le_pow_right (n := 2) (by decide) (show κ + 1 ≤ lev b e from hl)
    omega
theorem path_parts (i n : Nat) : ∀ (d M B : Nat), n - B = d → B % 2 ^ M = 0 → n < B + 2 ^ M → B ≤ i → i < n →
    B ≤ i / 2 ^ (fork i n - 1) * 2 ^ (fork i n - 1) ∧
    path i B n = (sibs i (fork i n - 1)).map lvs ++ (if (i / 2 ^ (fork i n - 1) + 1) * 2 ^ (fork i n - 1) < n then [((i / 2 ^ (fork i n - 1) + 1) * 2 ^ (fork i n - 1), n)] else []) ++
      (Nds 0 B (i / 2 ^ (fork i n - 1) * 2 ^ (fork i n - 1))).reverse.map lvs := by
  intro d
  induction d using Nat.strongRecOn with
  | _ d ih =>
  intro M B hd hB hn hi1 hi2
  by_cases h1 : n - B = 1
  · have hM : 1 ≤ M := by
      rcases Nat.eq_zero_or_pos M with h | h
      · subst h; rw [Nat.pow_zero] at hn; omega
      · exact h
    have hev : B % 2 = 0 := by
      have : (2 : Nat) ^ 1 ∣ B := Nat.dvd_trans (Nat.pow_dvd_pow 2 hM) (Nat.dvd_of_mod_eq_zero hB)
      exact Nat.mod_eq_zero_of_dvd this
    have hf : fork i n = 0 + 1 := fork_is (by rw [Nat.zero_add, Nat.pow_one]; omega) (by rw [Nat.pow_zero, Nat.div_one, Nat.div_one]; omega)
    rw [hf, path_one (by omega), Nat.zero_add, Nat.sub_self, Nat.pow_zero, Nat.div_one, Nat.mul_one, Nat.mul_one, if_neg (by omega), Nds_empty (by omega)]
    exact ⟨hi1, rfl⟩
  · have h2 : 2 ≤ n - B := by omega
    obtain ⟨κ, hκ⟩ : ∃ κ, psplit (n - B) = 2 ^ κ := ⟨_, rfl⟩
    have hp := Nat.two_pow_pos κ
    have hlt := psplit_lt h2
    have hle := le_psplit h2
    rw [hκ] at hlt hle
    have hpow : 2 ^ (κ + 1) = 2 * 2 ^ κ := by rw [Nat.pow_succ]; omega
    have hκM : κ < M := by
      apply Nat.lt_of_not_le
      intro h
      have := Nat.pow_le_pow_right (n := 2) (by decide) h
      omega
    have hdv : 2 ^ (κ + 1) ∣ B := Nat.dvd_trans (Nat.pow_dvd_pow 2 hκM) (Nat.dvd_of_mod_eq_zero hB)
    obtain ⟨β, hβ⟩ := hdv
    have hβ1 : B = β * 2 ^ (κ + 1) := by rw [hβ]; ac_rfl
    have hβ2 : B = 2 * β * 2 ^ κ := by rw [hβ1, hpow]; ac_rfl
    have e1 : (β + 1) * 2 ^ (κ + 1) = B + 2 ^ (κ + 1) := by rw [Nat.add_mul, ← hβ1, Nat.one_mul]
    by_cases hperf : n = B + 2 ^ (κ + 1)
    · -- all of it is one perfect tree
      have hM2 : κ + 1 < M := by
        apply Nat.lt_of_not_le
        intro h
        have := Nat.pow_le_pow_right (n := 2) (by decide) h
        omega
      have hβe : β % 2 = 0 := by
        have hd2 : 2 ^ (κ + 2) ∣ B := Nat.dvd_trans (Nat.pow_dvd_pow 2 hM2) (Nat.dvd_of_mod_eq_zero hB)
        obtain ⟨γ, hγ⟩ := hd2
        have : β * 2 ^ (κ + 1) = (2 * γ) * 2 ^ (κ + 1) := by rw [← hβ1, hγ, show κ + 2 = κ + 1 + 1 from rfl, Nat.pow_succ 2 (κ + 1)]; ac_rfl
        have := Nat.eq_of_mul_eq_mul_right (Nat.two_pow_pos (κ + 1)) this
        omega
      have hdi : i / 2 ^ (κ + 1) = β := div_of_range (by omega) (by omega)
      have hdn : n / 2 ^ (κ + 1) = β + 1 := by rw [hperf, ← e1]; exact Nat.mul_div_cancel _ (Nat.two_pow_pos _)
      have hf : fork i n = κ + 1 + 1 := fork_is (by rw [Nat.pow_succ 2 (κ + 1), ← Nat.div_div_eq_div_mul, ← Nat.div_div_eq_div_mul, hdi, hdn]; omega) (by rw [hdi, hdn]; omega)
      rw [hf, Nat.add_sub_cancel, hdi, e1, ← hβ1, if_neg (by omega), Nds_empty (Nat.le_refl _)]
      refine ⟨Nat.le_refl _, ?_⟩
      have := path_perfect (κ + 1) β i (by omega) (by omega)
      rw [e1, ← hβ1, ← hperf] at this
      rw [this]; simp
    · have hn2 : n < B + 2 ^ (κ + 1) := by omega
      by_cases hi : i < B + 2 ^ κ
      · -- the leaf is in the greatest perfect tree
        have hdi : i / 2 ^ κ = 2 * β := div_of_range (by omega) (by rw [Nat.add_mul, ← hβ2, Nat.one_mul]; exact hi)
        have e3 : (2 * β + 1) * 2 ^ κ = B + 2 ^ κ := by rw [Nat.add_mul, ← hβ2, Nat.one_mul]
        have hdn : n / 2 ^ κ = 2 * β + 1 := div_of_range (by omega) (by rw [show 2 * β + 1 + 1 = (2 * β + 1) + 1 from rfl, Nat.add_mul (2 * β + 1), e3, Nat.one_mul]; omega)
        have hf : fork i n = κ + 1 := fork_is (by rw [Nat.pow_succ, ← Nat.div_div_eq_div_mul, ← Nat.div_div_eq_div_mul, hdi, hdn]; omega) (by rw [hdi, hdn]; omega)
        rw [hf, Nat.add_sub_cancel, hdi, e3, ← hβ2, if_pos (by omega), Nds_empty (Nat.le_refl _), path_left h2 (by rw [hκ]; exact hi), hκ]
        refine ⟨Nat.le_refl _, ?_⟩
        have := path_perfect κ (2 * β) i (by omega) (by omega)
        rw [e3, ← hβ2] at this
        rw [this]; simp
      · -- the leaf is behind it
        obtain ⟨i1, i2⟩ := ih (n - (B + 2 ^ κ)) (by omega) κ (B + 2 ^ κ) rfl (by rw [hβ2, Nat.mul_comm (2 * β), Nat.add_mod_right, Nat.mul_mod_right]) (by omega) (by omega) hi2
        refine ⟨by omega, ?_⟩
        rw [path_right h2 (by rw [hκ]; omega), hκ, i2]
        have hle2 : i / 2 ^ (fork i n - 1) * 2 ^ (fork i n - 1) ≤ i := Nat.div_mul_le_self _ _
        have hl : lev B (i / 2 ^ (fork i n - 1) * 2 ^ (fork i n - 1)) = κ := lev_is (by omega) (by rw [hβ2, Nat.mul_comm (2 * β), Nat.mul_mod_right]) (by omega) (by omega)
        have hN := Nds_step 0 B (i / 2 ^ (fork i n - 1) * 2 ^ (fork i n - 1)) (by omega)
        rw [hl, Nat.zero_add] at hN
        rw [hN, List.reverse_cons, List.map_append, List.append_assoc _ _ [(B, B + 2 ^ κ)]]
        congr 2
        have hdB : B / 2 ^ κ = 2 * β := by rw [hβ2]; exact Nat.mul_div_cancel _ hp
        show [(B, B + 2 ^ κ)] = [lvs (κ, B / 2 ^ κ)]
        unfold lvs
        rw [hdB, ← hβ2, Nat.add_mul, ← hβ2, Nat.one_mul]
end Go.Proofs.YtielnphmcaecdaaDoor.Mth
namespace Go.Proofs.YtielnphmcaecdaaDoor.PAll
open Go.IntWalk Go.RowKit Go.Proofs.YtielnphmcaecdaaDoor.Num Go.Proofs.YtielnphmcaecdaaDoor.Mth Go.Proofs.YtielnphmcaecdaaDoorW.PrintWords Go.Proofs.YtielnphmcaecdaaDoorW.PrintLast Go.Proofs.YtielnphmcaecdaaDoorW.PrintMore
set_option linter.unusedVariables false
def ndM (i l n : Nat) : Nat := fork i (n / 2 ^ l) - 1
def ndB (i l n : Nat) : Nat := i / 2 ^ ndM i l n * 2 ^ (l + ndM i l n)
def ndE (i l n : Nat) : Nat := (i / 2 ^ ndM i l n + 1) * 2 ^ (l + ndM i l n)
def ndS (i l n : Nat) : List (Nat × Nat) := (List.range (ndM i l n)).map fun t => (l + t, (sib i t).2)
def ndIds (i l n : Nat) : List (Nat × Nat) := (l, i) :: (ndS i l n ++ (Nds 0 (ndE i l n) n).reverse ++ (Nds 0 0 (ndB i l n)).reverse)
def ndBegin (i l n : Nat) : Nat := if (Nds 0 (ndE i l n) n).length = 0 then 0 else 1 + ndM i l n
def ndEnd (i l n : Nat) : Nat := if (Nds 0 (ndE i l n) n).length = 0 then 0 else 1 + ndM i l n + (Nds 0 (ndE i l n) n).length
def ndEph (i l n : Nat) : Nat × Nat := (l + ndM i l n, (sib i (ndM i l n)).2)
theorem xor_one (x : Nat) : x ^^^ 1 = if x % 2 = 0 then x + 1 else x - 1 := by
  by_cases h : x % 2 = 0
  · rw [if_pos h]
    have e := xor_one_odd (M := x + 1) (by omega)
    rw [Nat.add_sub_cancel] at e
    calc x ^^^ 1 = ((x + 1) ^^^ 1) ^^^ 1 := by rw [e]
      _ = x + 1 := by rw [Nat.xor_assoc, Nat.xor_self, Nat.xor_zero]
  · rw [if_neg h]; exact xor_one_odd (by omega)
theorem ndM_le (i l n : Nat) (hl : l ≤ 63) (hi : i < n / 2 ^ l) (hn : n < 18446744073709551616) : l + ndM i l n ≤ 63 := by
  have hq : n / 2 ^ l < 2 ^ (64 - l) := by
    rw [Nat.div_lt_iff_lt_mul (Nat.two_pow_pos _), ← Nat.pow_add, Nat.sub_add_cancel (by omega)]
    exact hn
  have hf : fork i (n / 2 ^ l) ≤ 64 - l := fork_le.2 (by rw [Nat.div_eq_of_lt (Nat.lt_trans hi hq), Nat.div_eq_of_lt hq])
  have := fork_pos hi
  unfold ndM; omega
theorem ndE_le (i l n : Nat) (hi : i < n / 2 ^ l) : ndE i l n = n / 2 ^ (l + ndM i l n) * 2 ^ (l + ndM i l n) ∧ ndE i l n ≤ n := by
  have e : ndE i l n = n / 2 ^ (l + ndM i l n) * 2 ^ (l + ndM i l n) := by
    unfold ndE
    rw [show i / 2 ^ ndM i l n + 1 = n / 2 ^ l / 2 ^ ndM i l n from fork_below hi, Nat.div_div_eq_div_mul, ← Nat.pow_add]
  exact ⟨e, by rw [e]; exact Nat.div_mul_le_self _ _⟩
theorem ndB_lt (i l n : Nat) (hi : i < n / 2 ^ l) : ndB i l n < n := by
  have h := (ndE_le i l n hi).2
  have hp := Nat.two_pow_pos (l + ndM i l n)
  unfold ndE at h
  unfold ndB
  rw [Nat.add_mul, Nat.one_mul] at h
  omega
set_option maxHeartbeats 4000000 in
theorem nodesAt.calls (i l n : Nat) (hl : l ≤ 63) (hi : i < n / 2 ^ l) (hn : n < 18446744073709551616) (w : World) (hG : Glob w) :
    Calls Tryd.prog 96 #[.int .u64 (i : Int), .int .u64 (l : Int), .int .u64 (n : Int)] w fun ex w' => ∃ v : Value, ex = .returned (.agg #[v, .int .i64 (ndBegin i l n : Int), .int .i64 (ndEnd i l n : Int), .int .u64 ((ndEph i l n).1 : Int), .int .u64 ((ndEph i l n).2 : Int)]) ∧ Kd.R k99 99 w' w.heap.size (fun k_ => w.heap.size ≤ k_) v ((ndIds i l n).map cnode) ∧ Below w.heap.size w w' := by
  have hm := ndM_le i l n hl hi hn
  have hE := ndE_le i l n hi
  have hB := ndB_lt i l n hi
  have hi64 : i < 18446744073709551616 := Nat.lt_of_lt_of_le hi (Nat.le_trans (Nat.div_le_self _ _) (by omega))
  have hq64 : n / 2 ^ l < 18446744073709551616 := Nat.lt_of_le_of_lt (Nat.div_le_self _ _) hn
  have hdiv : ∀ t, i / 2 ^ t < 18446744073709551616 := fun t => Nat.lt_of_le_of_lt (Nat.div_le_self _ _) hi64
  have hx : ∀ t, Go.bits .xor .u64 ((i / 2 ^ t : Nat) : Int) 1 = (((sib i t).2 : Nat) : Int) := fun t => by
    rw [show (1 : Int) = ((1 : Nat) : Int) from rfl, xor64 _ _ (hdiv t) (by omega), xor_one]
    rfl
  have lenR : (Nds 0 (ndE i l n) n).length ≤ 128 := Nds_len 0 _ _ 64 hn
  have lenL : (Nds 0 0 (ndB i l n)).length ≤ 128 := Nds_len 0 _ _ 64 (by omega)
  have hsibf : ∀ a t, compact_NodeID_Sibling.f a ((i / 2 ^ t : Nat) : Int) = some (a, (((sib i t).2 : Nat) : Int)) := fun a t => by
    show some (a, Go.bits .xor .u64 ((i / 2 ^ t : Nat) : Int) 1) = _
    rw [hx t]
  have H := nodes.calls 200 (i : Int) (l : Int) (n : Int) ((i / 2 ^ ndM i l n : Nat) : Int) (ndB i l n : Int) (ndE i l n : Int) (ndM i l n) (Nds 0 0 (ndB i l n)).length (Nds 0 (ndE i l n) n).length
    (fun t => ⟨((l + t : Nat) : Int), ((i / 2 ^ t : Nat) : Int)⟩) (fun t => cnode (l + t, (sib i t).2)) ((Nds 0 (ndE i l n) n).map cnode) ((Nds 0 0 (ndB i l n)).map cnode) w hG
    (by omega) (by omega) (by omega) (by omega) (by omega) (by omega)
    (by
      rw [Int.toNat_natCast, show ((n : Int) / 2 ^ l) = ((n / 2 ^ l : Nat) : Int) by rw [Int.natCast_ediv, Int.natCast_pow]; rfl, xor64 _ _ hi64 hq64, bits_Len64.eq 199 _ (Nat.xor_lt_two_pow (n := 64) hi64 hq64)]
      have := fork_pos hi
      congr 1
      show ((fork i (n / 2 ^ l) : Nat) : Int) = ((fork i (n / 2 ^ l) - 1 : Nat) : Int) + 1
      omega)
    (by rw [Int.natCast_ediv, Int.natCast_pow]; rfl)
    (by
      rw [← Int.natCast_add]
      unfold compact_NodeID_Coverage.f
      rw [if_pos (by omega), shl64 _ _ (by omega)]
      have h1 : i / 2 ^ ndM i l n + 1 < 18446744073709551616 := by
        have := fork_below hi
        have h2 : n / 2 ^ l / 2 ^ ndM i l n ≤ n := Nat.le_trans (Nat.div_le_self _ _) (Nat.div_le_self _ _)
        have h3 : i / 2 ^ ndM i l n + 1 = n / 2 ^ l / 2 ^ ndM i l n := this
        omega
      rw [show IntKind.u64.wrap (((i / 2 ^ ndM i l n : Nat) : Int) + 1) = ((i / 2 ^ ndM i l n + 1 : Nat) : Int) from u64add (b := 1) h1, shl64 _ _ (by omega)]
      rw [show i / 2 ^ ndM i l n * 2 ^ (l + ndM i l n) = ndB i l n from rfl, show (i / 2 ^ ndM i l n + 1) * 2 ^ (l + ndM i l n) = ndE i l n from rfl, Nat.mod_eq_of_lt (by omega), Nat.mod_eq_of_lt (by omega)])
    (compact_RangeSize.eq 0 (ndB i l n) (Nat.zero_le _) (by omega) 199)
    (compact_RangeSize.eq (ndE i l n) n hE.2 hn 199)
    (by simp)
    (fun t _ => by show ((l + t : Nat) : Int) = _; omega)
    (fun t _ => hsibf _ t)
    (fun t ht => by
      show some (IntKind.u64.wrap (((l + t : Nat) : Int) + 1), ((i / 2 ^ t : Nat) : Int) / 2) = _
      rw [show IntKind.u64.wrap (((l + t : Nat) : Int) + 1) = ((l + t + 1 : Nat) : Int) from u64add (b := 1) (by omega), show ((i / 2 ^ t : Nat) : Int) / 2 = ((i / 2 ^ (t + 1) : Nat) : Int) by rw [Nat.pow_succ, ← Nat.div_div_eq_div_mul]; omega]
      rfl)
    (fun xs hxs => compact_RangeNodes.eq (ndE i l n) n hE.2 hn xs (by omega) 200 (by omega))
    (by rw [List.length_map])
    (fun xs hxs => compact_RangeNodes.eq 0 (ndB i l n) (Nat.zero_le _) (by omega) xs (by omega) 200 (by omega))
    (by rw [List.length_map])
    (cnode (ndEph i l n)) (by rw [← Int.natCast_add]; exact hsibf _ _)
  refine H.mono ?_
  rintro ex w' ⟨v, rfl, hR, hb⟩
  refine ⟨v, ?_, ?_, hb⟩
  · congr 3
    unfold ndBegin ndEnd
    by_cases h : (Nds 0 (ndE i l n) n).length = 0
    · rw [if_pos h, if_pos h, if_pos h, if_pos h]; rfl
    · rw [if_neg h, if_neg h, if_neg h, if_neg h]; simp; exact ⟨rfl, rfl⟩
  · unfold ndIds ndS
    rw [List.map_cons, List.map_append, List.map_append, List.map_map, List.map_reverse, List.map_reverse, show cnode (l, i) = (⟨((l + 0 : Nat) : Int), ((i / 2 ^ 0 : Nat) : Int)⟩ : S99) by simp [cnode]]
    exact hR
def incIds (i n : Nat) : List (Nat × Nat) := ndS i 0 n ++ (Nds 0 (ndE i 0 n) n).reverse ++ (Nds 0 0 (ndB i 0 n)).reverse
def incBegin (i n : Nat) : Nat := if (Nds 0 (ndE i 0 n) n).length = 0 then 0 else ndM i 0 n
def incEnd (i n : Nat) : Nat := if (Nds 0 (ndE i 0 n) n).length = 0 then 0 else ndM i 0 n + (Nds 0 (ndE i 0 n) n).length
theorem skip_inc (i n : Nat) (hi : i < n) (hn : n < 18446744073709551616) (a b : Int) :
    proof_Nodes_skipFirst.f ((ndIds i 0 n).map cnode) (ndBegin i 0 n : Int) (ndEnd i 0 n : Int) a b = some ((incIds i n).map cnode, (incBegin i n : Int), (incEnd i n : Int), a, b) := by
  have lenR : (Nds 0 (ndE i 0 n) n).length ≤ 128 := Nds_len 0 _ _ 64 hn
  have hm := ndM_le i 0 n (by omega) (by rw [Nat.pow_zero, Nat.div_one]; exact hi) hn
  have e : ((ndIds i 0 n).map cnode).drop (1 : Int).toNat = (incIds i n).map cnode := by
    rw [show (1 : Int).toNat = 1 from rfl]; unfold ndIds incIds; rw [List.map_cons]; rfl
  have hl : 1 ≤ (((ndIds i 0 n).map cnode).length : Int) := by rw [List.length_map]; unfold ndIds; rw [List.length_cons]; omega
  unfold proof_Nodes_skipFirst.f
  rw [if_pos hl, e]
  show (if (ndBegin i 0 n : Int) < (ndEnd i 0 n : Int) then _ else _) = _
  unfold ndBegin ndEnd incBegin incEnd
  by_cases h : (Nds 0 (ndE i 0 n) n).length = 0
  · rw [if_pos h, if_pos h, if_pos h, if_pos h, if_neg (by omega)]
  · rw [if_neg h, if_neg h, if_neg h, if_neg h, if_pos (by omega)]
    rw [show wrap64 (((1 + ndM i 0 n : Nat) : Int) - 1) = (ndM i 0 n : Int) by unfold wrap64; omega, show wrap64 (((1 + ndM i 0 n + (Nds 0 (ndE i 0 n) n).length : Nat) : Int) - 1) = ((ndM i 0 n + (Nds 0 (ndE i 0 n) n).length : Nat) : Int) by unfold wrap64; omega]
set_option maxHeartbeats 8000000 in
set_option maxRecDepth 100000 in
theorem proofInclusion.calls (i n : Nat) (hi : i < n) (hn : n < 18446744073709551616) (w : World) (hG : Glob w) :
    Calls Tryd.prog 70 #[.int .u64 (i : Int), .int .u64 (n : Int)] w fun ex w' => ∃ v : Value, ex = .returned (.tuple #[.agg #[v, .int .i64 (incBegin i n : Int), .int .i64 (incEnd i n : Int), .int .u64 ((ndEph i 0 n).1 : Int), .int .u64 ((ndEph i 0 n).2 : Int)], .nilIface]) ∧ Kd.Q k99 99 w' w.heap.size (fun k_ => w.heap.size ≤ k_) v ((incIds i n).map cnode) ∧ Below w.heap.size w w' := by
  have b0 : decide ((i : Int) ≥ (n : Int)) = false := decide_eq_false (by omega)
  have b1 : decide ((n : Int) ≤ (i : Int)) = false := decide_eq_false (by omega)
  have b2 : decide (n ≤ i) = false := decide_eq_false (by omega)
  have hS := skip_inc i n hi hn ((ndEph i 0 n).1 : Int) ((ndEph i 0 n).2 : Int)
  have hA := fun W hW => nodesAt.calls i 0 n (by omega) (by rw [Nat.pow_zero, Nat.div_one]; exact hi) hn W hW
  generalize ((ndEph i 0 n).1 : Int) = z1 at hS hA ⊢
  generalize ((ndEph i 0 n).2 : Int) = z2 at hS hA ⊢
  generalize ((incBegin i n : Nat) : Int) = zb at hS ⊢
  generalize ((incEnd i n : Nat) : Int) = ze at hS ⊢
  generalize (incIds i n).map cnode = zl at hS ⊢
  generalize ((ndBegin i 0 n : Nat) : Int) = yb at hS hA
  generalize ((ndEnd i 0 n : Nat) : Int) = ye at hS hA
  generalize (ndIds i 0 n).map cnode = yl at hS hA
  have HSK := Aside0.mk hS
  have HNA := Aside0.mk hA
  have HGL := Aside0.mk hG
  clear hi hn hG hS hA
  go_enter Tryd.func70, Tryd.ntmps70
  go_wp2_with (fail)
  have BK := Aside0.mk (blk_new w (Obj.cells #[Value.slice none 0 0, Value.int IntKind.i64 0, Value.int IntKind.i64 0, Value.int IntKind.u64 0, Value.int IntKind.u64 0] 112))
  have HB := Aside0.mk (below_alloc (Below.refl _ w) (Obj.cells #[Value.slice none 0 0, Value.int IntKind.i64 0, Value.int IntKind.i64 0, Value.int IntKind.u64 0, Value.int IntKind.u64 0] 112))
  generalize w.alloc (Obj.cells #[Value.slice none 0 0, Value.int IntKind.i64 0, Value.int IntKind.i64 0, Value.int IntKind.u64 0, Value.int IntKind.u64 0] 112) = W at BK HB ⊢
  have HS := Aside0.mk (blk_lt BK.out)
  refine (HNA.out W (HGL.out.below HB.out)).mono ?_
  rintro ex w1 ⟨v, rfl, hR, hb⟩
  dsimp only
  replace BK := Aside0.mk (blk_below BK.out hb)
  replace HB := Aside0.mk (below_step HB.out hb)
  have HR := Aside0.mk (Kd.R_mono (ok' := fun k_ => w.heap.size < k_) (Kd.R_lower hR (Nat.le_of_lt HS.out)) (fun k_ hk => Nat.lt_of_lt_of_le HS.out hk))
  clear hR hb
  go_wp2_with (fail)
  refine (proof_Nodes_skipFirst.calls (fun k_ => w.heap.size < k_) v _ _ _ _ _ _ _ _ _ _ w w1 HB.out HR.out HSK.out).mono ?_
  rintro ex w2 ⟨v2, rfl, hQ, hB2, hK⟩
  dsimp only
  replace HS := Aside0.mk (blk_lt BK.out)
  replace BK := Aside0.mk (blk_kept BK.out hK (fun h => Nat.lt_irrefl _ h))
  have HQ := Aside0.mk (Kd.Q_mono (ok' := fun k_ => w.heap.size < k_) hQ (fun k_ hk => hk.elim (fun h => h) (fun h => Nat.lt_of_lt_of_le HS.out h)))
  replace HB := Aside0.mk hB2
  clear hQ hB2 hK
  have e60 : World.cell? w2 ⟨w.heap.size, 0, none⟩ = some (.slice none 0 0) := blk_cell BK.out 0
  have e61 : World.cell? w2 ⟨w.heap.size, 1, none⟩ = some (.int .i64 0) := blk_cell BK.out 1
  have e62 : World.cell? w2 ⟨w.heap.size, 2, none⟩ = some (.int .i64 0) := blk_cell BK.out 2
  have e63 : World.cell? w2 ⟨w.heap.size, 3, none⟩ = some (.int .u64 0) := blk_cell BK.out 3
  have e64 : World.cell? w2 ⟨w.heap.size, 4, none⟩ = some (.int .u64 0) := blk_cell BK.out 4
  have z6 := blk_frozen BK.out
  obtain ⟨A2, c2, rfl, hlc⟩ := Kd.Q_slice HQ.out
  clear hlc
  go_wp2
  refine bodyPost_ret (results_ct rfl _ _ w.heap.size 112 #[.slice A2 zl.length c2, .int .i64 zb, .int .i64 ze, .int .u64 z1, .int .u64 z2] (0, 0) _ rfl (fin5 _ _ _ _ _ BK.out) Tryd.underlying112 rfl (by kernel_rfl)) rfl ?_
  refine ⟨.slice A2 zl.length c2, rfl, ?_, bel_grown HB.out (grown5 _ _ _ _ _) (Nat.le_refl _)⟩
  exact Kd.Q_mono (Kd.Q_grown HQ.out (grown5 _ _ _ _ _) (fun k_ hk h => by injection h with h; omega)) (fun k_ hk => Nat.le_of_lt hk)
def impl_Inclusion.f (_ : Nat) (a0 a1 : Int) : Option (List S49 × Int × Int × Int × Int × Bool) :=
  if a1 ≤ a0 then some ([], 0, 0, 0, 0, false)
  else if 0 ≤ a0 ∧ a1 < 18446744073709551616 then some ((incIds a0.toNat a1.toNat).map inode, ((ndEph a0.toNat 0 a1.toNat).1 : Int), ((ndEph a0.toNat 0 a1.toNat).2 : Int), (incBegin a0.toNat a1.toNat : Int), (incEnd a0.toNat a1.toNat : Int), true) else none
theorem impl_Inclusion.mono : ∀ a0 a1 k, LeO (impl_Inclusion.f k a0 a1) (impl_Inclusion.f (k + 1) a0 a1) := fun _ _ _ => LeO.refl _
theorem incIds_len (i n : Nat) (hi : i < n) (hn : n < 18446744073709551616) : (incIds i n).length ≤ 400 := by
  have lenR : (Nds 0 (ndE i 0 n) n).length ≤ 128 := Nds_len 0 _ _ 64 hn
  have h1 : i < n / 2 ^ 0 := by rw [Nat.pow_zero, Nat.div_one]; exact hi
  have hB := ndB_lt i 0 n h1
  have lenL : (Nds 0 0 (ndB i 0 n)).length ≤ 128 := Nds_len 0 _ _ 64 (by omega)
  have hm := ndM_le i 0 n (by omega) h1 hn
  unfold incIds ndS
  simp only [List.length_append, List.length_map, List.length_range, List.length_reverse]
  omega
end Go.Proofs.YtielnphmcaecdaaDoor.PAll
namespace Go.Proofs.YtielnphmcaecdaaDoor.PAll
open Go.IntWalk Go.RowKit Go.Proofs.YtielnphmcaecdaaDoor.Num Go.Proofs.YtielnphmcaecdaaDoor.Mth Go.Proofs.YtielnphmcaecdaaDoorW.PrintWords Go.Proofs.YtielnphmcaecdaaDoorW.PrintLast Go.Proofs.YtielnphmcaecdaaDoorW.PrintMore
set_option linter.unusedVariables false
def skIds (i l n : Nat) : List (Nat × Nat) := ndS i l n ++ (Nds 0 (ndE i l n) n).reverse ++ (Nds 0 0 (ndB i l n)).reverse
def skBegin (i l n : Nat) : Nat := if (Nds 0 (ndE i l n) n).length = 0 then 0 else ndM i l n
def skEnd (i l n : Nat) : Nat := if (Nds 0 (ndE i l n) n).length = 0 then 0 else ndM i l n + (Nds 0 (ndE i l n) n).length
end Go.Proofs.YtielnphmcaecdaaDoor.PAll
