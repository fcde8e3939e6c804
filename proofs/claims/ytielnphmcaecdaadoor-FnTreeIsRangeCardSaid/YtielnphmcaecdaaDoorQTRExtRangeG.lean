-- Written by a program of this session (wip/tools)
import Derived.Test.YtielnphmcaecdaaDoorQTRExtTreeA
import Derived.Test.YtielnphmcaecdaaDoorQTRTexts
namespace Go.Proofs.YtielnphmcaecdaaDoor.Mth
def Nds (l b e : Nat) : List (Nat × Nat) :=
  if b < e then (if b % 2 = 1 then [(l, b)] else []) ++ Nds (l + 1) ((b + 1) / 2) (e / 2) ++ (if e % 2 = 1 then [(l, e - 1)] else []) else []
termination_by e
decreasing_by omega
theorem Nds_empty {l b e : Nat} (h : e ≤ b) : Nds l b e = [] := by rw [Nds, if_neg (by omega)]
theorem Nds_some {l b e : Nat} (h : b < e) : Nds l b e = (if b % 2 = 1 then [(l, b)] else []) ++ Nds (l + 1) ((b + 1) / 2) (e / 2) ++ (if e % 2 = 1 then [(l, e - 1)] else []) := by rw [Nds, if_pos h]
def lev (b e : Nat) : Nat := if b % 2 = 0 ∧ b + 2 ≤ e then lev (b / 2) (e / 2) + 1 else 0
termination_by e
decreasing_by omega
theorem lev_up {b e : Nat} (h : b % 2 = 0) (h2 : b + 2 ≤ e) : lev b e = lev (b / 2) (e / 2) + 1 := by rw [lev, if_pos ⟨h, h2⟩]
theorem lev_no {b e : Nat} (h : b % 2 = 1 ∨ e < b + 2) : lev b e = 0 := by rw [lev, if_neg (by omega)]
theorem pow_up (n : Nat) : 2 ^ (n + 1) = 2 * 2 ^ n := by rw [Nat.pow_succ, Nat.mul_comm]
theorem mod_double (b n : Nat) (h : b % 2 = 0) : b % (2 * n) = 2 * (b / 2 % n) := by
  have hb : b = 2 * (b / 2) := by omega
  rw (occs := .pos [1]) [hb]; rw [Nat.mul_mod_mul_left]
theorem lev_spec (b e : Nat) (h : b < e) : b % 2 ^ lev b e = 0 ∧ b + 2 ^ lev b e ≤ e ∧ (b % 2 ^ (lev b e + 1) = 0 → e < b + 2 ^ (lev b e + 1)) := by
  induction e using Nat.strongRecOn generalizing b with
  | _ e ih =>
  by_cases hc : b % 2 = 0 ∧ b + 2 ≤ e
  · obtain ⟨h1, h2, h3⟩ := ih (e / 2) (by omega) (b / 2) (by omega)
    rw [lev_up hc.1 hc.2, pow_up, pow_up (lev (b / 2) (e / 2) + 1), mod_double _ _ hc.1, mod_double _ _ hc.1]
    refine ⟨by omega, by omega, fun h4 => ?_⟩
    have := h3 (by omega); omega
  · rw [lev_no (by omega)]
    refine ⟨by simp [Nat.mod_one], by simp; omega, fun h4 => ?_⟩
    simp at h4 ⊢; omega
theorem Nds_step (l b e : Nat) (h : b < e) : Nds l b e = (l + lev b e, b / 2 ^ lev b e) :: Nds l (b + 2 ^ lev b e) e := by
  induction e using Nat.strongRecOn generalizing l b with
  | _ e ih =>
  by_cases hb : b % 2 = 1
  · rw [Nds_some h, if_pos hb, lev_no (.inl hb)]
    simp only [Nat.add_zero, Nat.pow_zero, Nat.div_one, List.cons_append, List.nil_append]
    congr 1
    by_cases h1 : b + 1 < e
    · rw [Nds_some h1, if_neg (show ¬ (b + 1) % 2 = 1 by omega), show (b + 1 + 1) / 2 = (b + 1) / 2 by omega]; simp
    · rw [Nds_empty (by omega : e ≤ b + 1), Nds_empty (by omega : e / 2 ≤ (b + 1) / 2), if_neg (by omega)]; rfl
  · by_cases h2 : b + 2 ≤ e
    · rw [Nds_some h, if_neg hb, lev_up (by omega) h2]
      have hs := (lev_spec (b / 2) (e / 2) (by omega)).2.1
      rw [show (b + 1) / 2 = b / 2 by omega, ih (e / 2) (by omega) (l + 1) (b / 2) (by omega)]
      simp only [List.nil_append, List.cons_append]
      rw [show l + 1 + lev (b / 2) (e / 2) = l + (lev (b / 2) (e / 2) + 1) by omega, show b / 2 / 2 ^ lev (b / 2) (e / 2) = b / 2 ^ (lev (b / 2) (e / 2) + 1) by rw [pow_up, Nat.div_div_eq_div_mul]]
      rw [pow_up]
      generalize 2 ^ lev (b / 2) (e / 2) = g at *
      congr 1
      by_cases h3 : b + 2 * g < e
      · rw [Nds_some h3, if_neg (show ¬ (b + 2 * g) % 2 = 1 by omega), show (b + 2 * g + 1) / 2 = b / 2 + g by omega]; simp
      · rw [Nds_empty (by omega : e / 2 ≤ b / 2 + g), Nds_empty (by omega : e ≤ b + 2 * g), if_neg (by omega)]; rfl
    · rw [Nds_some h, if_neg hb, Nds_empty (by omega : e / 2 ≤ (b + 1) / 2), if_pos (by omega), lev_no (by omega)]
      simp only [Nat.add_zero, Nat.pow_zero, Nat.div_one, List.nil_append]
      rw [Nds_empty (by omega : e ≤ b + 1), show e - 1 = b by omega]
theorem Nds_len (l b e m : Nat) (h : e < 2 ^ m) : (Nds l b e).length ≤ 2 * m := by
  induction m generalizing l b e with
  | zero => rw [Nds_empty (by simp at h; omega)]; simp
  | succ m ih =>
    by_cases hb : b < e
    · have := ih (l + 1) ((b + 1) / 2) (e / 2) (by rw [Nat.pow_succ] at h; omega)
      rw [Nds_some hb, List.length_append, List.length_append]
      have h1 : (if b % 2 = 1 then [(l, b)] else []).length ≤ 1 := by split <;> simp
      have h2 : (if e % 2 = 1 then [(l, e - 1)] else []).length ≤ 1 := by split <;> simp
      omega
    · rw [Nds_empty (by omega)]; simp
def Lft : Nat → Nat → Nat → List (Nat × Nat)
  | _, 0, _ => []
  | l, n + 1, b => (if b % 2 = 1 then [(l, b)] else []) ++ Lft (l + 1) n ((b + 1) / 2)
def Rgt : Nat → Nat → Nat → List (Nat × Nat)
  | _, 0, _ => []
  | l, n + 1, e => Rgt (l + 1) n (e / 2) ++ (if e % 2 = 1 then [(l, e - 1)] else [])
theorem Nds_parts (n l b e : Nat) (hb : 0 < b) (h : (b - 1) / 2 ^ n + 1 = e / 2 ^ n) : Nds l b e = Lft l n b ++ Rgt l n e := by
  induction n generalizing l b e with
  | zero => simp at h; rw [Nds_empty (by omega)]; rfl
  | succ n ih =>
    have hp := Nat.two_pow_pos n
    rw [Nat.pow_succ, Nat.mul_comm, ← Nat.div_div_eq_div_mul, ← Nat.div_div_eq_div_mul] at h
    have e1 : (b + 1) / 2 - 1 = (b - 1) / 2 := by omega
    have i1 := ih (l + 1) ((b + 1) / 2) (e / 2) (by omega) (by rw [e1]; exact h)
    have hlt : (b - 1) / 2 < e / 2 := by
      rcases Nat.lt_or_ge ((b - 1) / 2) (e / 2) with h1 | h1
      · exact h1
      · have := Nat.div_le_div_right (c := 2 ^ n) h1; omega
    by_cases hbe : b < e
    · rw [Nds_some hbe, i1, Lft, Rgt]; simp [List.append_assoc]
    · have : b = e := by omega
      subst this
      have hev : b % 2 = 0 := by omega
      rw [Nds_empty (Nat.le_refl _), Lft, Rgt, if_neg (by omega), if_neg (by omega), List.nil_append, List.append_nil, ← i1, Nds_empty (by omega)]
theorem Nds_zero (n l e : Nat) (h : e < 2 ^ n) : Nds l 0 e = Rgt l n e := by
  induction n generalizing l e with
  | zero => simp at h; subst h; rw [Nds_empty (Nat.le_refl _)]; rfl
  | succ n ih =>
    have i1 := ih (l + 1) (e / 2) (by rw [Nat.pow_succ] at h; omega)
    by_cases he : 0 < e
    · rw [Nds_some he, Rgt, ← i1]; simp
    · have : e = 0 := by omega
      subst this
      rw [Nds_empty (Nat.le_refl _), Rgt, ← i1, Nds_empty (Nat.le_refl _)]; rfl
def RgtT : Nat → Nat → List (Nat × Nat)
  | 0, _ => []
  | n + 1, e => (if e / 2 ^ n % 2 = 1 then [(n, e / 2 ^ n - 1)] else []) ++ RgtT n e
theorem Rgt_top (l n e : Nat) : Rgt l (n + 1) e = (if e / 2 ^ n % 2 = 1 then [(l + n, e / 2 ^ n - 1)] else []) ++ Rgt l n e := by
  induction n generalizing l e with
  | zero => simp [Rgt]
  | succ n ih =>
    rw [Rgt, ih (l + 1) (e / 2), Nat.div_div_eq_div_mul, ← pow_up, show Rgt l (n + 1) e = Rgt (l + 1) n (e / 2) ++ (if e % 2 = 1 then [(l, e - 1)] else []) from rfl, List.append_assoc, show l + 1 + n = l + (n + 1) by omega]
theorem Rgt_eq (n e : Nat) : Rgt 0 n e = RgtT n e := by
  induction n with
  | zero => rfl
  | succ n ih => rw [Rgt_top, ih, RgtT, Nat.zero_add]
def negm (n b : Nat) : Nat := (2 ^ n - b % 2 ^ n) % 2 ^ n
theorem negm_zero (b : Nat) : negm 0 b = 0 := by simp [negm, Nat.mod_one]
theorem negm_even (n b : Nat) (h : b % 2 = 0) : negm (n + 1) b = 2 * negm n (b / 2) := by
  unfold negm
  have hp := Nat.two_pow_pos n
  rw [pow_up, mod_double b (2 ^ n) h, ← Nat.mul_sub, mod_double _ _ (by omega), Nat.mul_div_cancel_left _ (by decide)]
theorem negm_odd (n b : Nat) (h : b % 2 = 1) : negm (n + 1) b = 2 * negm n ((b + 1) / 2) + 1 := by
  have h1 := negm_even n (b + 1) (by omega)
  have hp := Nat.two_pow_pos n
  unfold negm at h1 ⊢
  rw [pow_up] at h1 ⊢
  have h2 : (b + 1) % (2 * 2 ^ n) = if b % (2 * 2 ^ n) + 1 = 2 * 2 ^ n then 0 else b % (2 * 2 ^ n) + 1 := by
    have h3 : b % (2 * 2 ^ n) < 2 * 2 ^ n := Nat.mod_lt _ (by omega)
    rw [Nat.add_mod]
    split
    · rename_i h4
      by_cases h5 : 2 * 2 ^ n = 1
      · omega
      · rw [Nat.mod_eq_of_lt (by omega : 1 < 2 * 2 ^ n), h4, Nat.mod_self]
    · rw [Nat.mod_eq_of_lt (by omega : 1 < 2 * 2 ^ n), Nat.mod_eq_of_lt (by omega)]
  have h4 : b % (2 * 2 ^ n) < 2 * 2 ^ n := Nat.mod_lt _ (by omega)
  have h5 : b % (2 * 2 ^ n) % 2 = 1 := by rw [Nat.mod_mul_right_mod]; exact h
  rw [h2] at h1
  rw [Nat.mod_eq_of_lt (by omega : 2 * 2 ^ n - b % (2 * 2 ^ n) < 2 * 2 ^ n)]
  split at h1
  · rename_i h6
    rw [Nat.sub_zero, Nat.mod_self] at h1; omega
  · rw [Nat.mod_eq_of_lt (by omega)] at h1; omega
theorem ones_Lft (n l b : Nat) : (Lft l n b).length = ones (negm n b) := by
  induction n generalizing l b with
  | zero => rw [negm_zero, ones_zero]; rfl
  | succ n ih =>
    rw [Lft, List.length_append, ih]
    by_cases h : b % 2 = 1
    · rw [if_pos h, negm_odd n b h, ones_half (2 * _ + 1), show (2 * negm n ((b + 1) / 2) + 1) % 2 = 1 by omega, show (2 * negm n ((b + 1) / 2) + 1) / 2 = negm n ((b + 1) / 2) by omega]; rfl
    · rw [if_neg h, negm_even n b (by omega), ones_half (2 * _), show (2 * negm n (b / 2)) % 2 = 0 by omega, show (2 * negm n (b / 2)) / 2 = negm n (b / 2) by omega, show (b + 1) / 2 = b / 2 by omega]; rfl
theorem ones_top (n e : Nat) : ones (e % 2 ^ (n + 1)) = e / 2 ^ n % 2 + ones (e % 2 ^ n) := by
  have h := ones_split n (e % 2 ^ (n + 1))
  have h1 : e % 2 ^ (n + 1) % 2 ^ n = e % 2 ^ n := Nat.mod_mod_of_dvd _ ⟨2, by rw [Nat.pow_succ]⟩
  have h2 : e % 2 ^ (n + 1) / 2 ^ n = e / 2 ^ n % 2 := by rw [Nat.pow_succ, Nat.mod_mul_right_div_self]
  rw [h1, h2] at h
  have h3 : ones (e / 2 ^ n % 2) = e / 2 ^ n % 2 := by
    rcases Nat.mod_two_eq_zero_or_one (e / 2 ^ n) with h4 | h4 <;> rw [h4]
    · exact ones_zero
    · rw [ones_half, ones_zero]
  omega
theorem ones_RgtT (n e : Nat) : (RgtT n e).length = ones (e % 2 ^ n) := by
  induction n with
  | zero => simp [RgtT, Nat.mod_one, ones_zero]
  | succ n ih =>
    rw [RgtT, List.length_append, ih, ones_top]
    by_cases h : e / 2 ^ n % 2 = 1
    · rw [if_pos h, h]; rfl
    · rw [if_neg h, show e / 2 ^ n % 2 = 0 by omega]; rfl
theorem Nds_shift (k b e : Nat) : Nds 0 (b * 2 ^ k) (e * 2 ^ k) = Nds k b e := by
  suffices h : ∀ k l, Nds l (b * 2 ^ k) (e * 2 ^ k) = Nds (l + k) b e by simpa using h k 0
  intro k
  induction k with
  | zero => intro l; simp
  | succ k ih =>
    intro l
    have e1 : b * 2 ^ (k + 1) = 2 * (b * 2 ^ k) := by rw [pow_up, Nat.mul_left_comm]
    have e2 : e * 2 ^ (k + 1) = 2 * (e * 2 ^ k) := by rw [pow_up, Nat.mul_left_comm]
    rw [show l + (k + 1) = l + 1 + k by omega, ← ih (l + 1), e1, e2]
    by_cases h : b * 2 ^ k < e * 2 ^ k
    · rw [Nds_some (by omega), if_neg (by omega), if_neg (by omega), show (2 * (b * 2 ^ k) + 1) / 2 = b * 2 ^ k by omega, show 2 * (e * 2 ^ k) / 2 = e * 2 ^ k by omega]; simp
    · rw [Nds_empty (by omega), Nds_empty (by omega)]
theorem Nds_nonempty {l b e : Nat} (h : b < e) : 0 < (Nds l b e).length := by rw [Nds_step l b e h]; simp
theorem and_neg_odd (m M : Nat) (h : M % 2 = 1) (hM : M < 2 ^ m) : M &&& (2 ^ m - M) = 1 := by
  obtain ⟨m, rfl⟩ : ∃ k, m = k + 1 := ⟨m - 1, by cases m with | zero => simp at hM; omega | succ m => rfl⟩
  rw [Nat.pow_succ] at hM ⊢
  have hd := Nat.and_div_two (a := M) (b := 2 ^ m * 2 - M)
  have hm := Nat.and_mod_two_pow (a := M) (b := 2 ^ m * 2 - M) (n := 1)
  rw [Nat.pow_one, h, show (2 ^ m * 2 - M) % 2 = 1 by omega] at hm
  rw [show (2 ^ m * 2 - M) / 2 = 2 ^ m - (M / 2 + 1) by omega] at hd
  have hz : M / 2 &&& (2 ^ m - (M / 2 + 1)) = 0 := by
    apply Nat.eq_of_testBit_eq
    intro i
    rw [Nat.testBit_and, Nat.testBit_two_pow_sub_succ (by omega), Nat.zero_testBit]
    cases (M / 2).testBit i <;> simp
  have : (1 &&& 1 : Nat) = 1 := rfl
  omega
theorem and_mul_pow (l x y : Nat) : (2 ^ l * x) &&& (2 ^ l * y) = 2 ^ l * (x &&& y) := by
  have h1 := Nat.and_div_two_pow (a := 2 ^ l * x) (b := 2 ^ l * y) (n := l)
  have h2 := Nat.and_mod_two_pow (a := 2 ^ l * x) (b := 2 ^ l * y) (n := l)
  rw [Nat.mul_div_cancel_left _ (Nat.two_pow_pos l), Nat.mul_div_cancel_left _ (Nat.two_pow_pos l)] at h1
  rw [Nat.mul_mod_right, Nat.mul_mod_right, Nat.and_self] at h2
  have h3 := Nat.div_add_mod ((2 ^ l * x) &&& (2 ^ l * y)) (2 ^ l)
  rw [h1, h2] at h3; omega
theorem xor_mul_pow (l x y : Nat) : (2 ^ l * x) ^^^ (2 ^ l * y) = 2 ^ l * (x ^^^ y) := by
  have h1 := Nat.xor_div_two_pow (a := 2 ^ l * x) (b := 2 ^ l * y) (n := l)
  have h2 := Nat.xor_mod_two_pow (a := 2 ^ l * x) (b := 2 ^ l * y) (n := l)
  rw [Nat.mul_div_cancel_left _ (Nat.two_pow_pos l), Nat.mul_div_cancel_left _ (Nat.two_pow_pos l)] at h1
  rw [Nat.mul_mod_right, Nat.mul_mod_right, Nat.xor_self] at h2
  have h3 := Nat.div_add_mod ((2 ^ l * x) ^^^ (2 ^ l * y)) (2 ^ l)
  rw [h1, h2] at h3; omega
theorem xor_one_odd {M : Nat} (h : M % 2 = 1) : M ^^^ 1 = M - 1 := by
  have h1 := Nat.xor_div_two (a := M) (b := 1)
  have h2 := Nat.xor_mod_two_pow (a := M) (b := 1) (n := 1)
  rw [Nat.pow_one, h] at h2
  have h3 : (1 ^^^ (1 % 2) : Nat) = 0 := rfl
  rw [show (1 : Nat) / 2 = 0 from rfl, Nat.xor_zero] at h1
  omega
theorem xor_top {n r : Nat} (h : r < 2 ^ n) : (2 ^ n + r) ^^^ 2 ^ n = r := by
  have h1 := Nat.xor_div_two_pow (a := 2 ^ n + r) (b := 2 ^ n) (n := n)
  have h2 := Nat.xor_mod_two_pow (a := 2 ^ n + r) (b := 2 ^ n) (n := n)
  have hp := Nat.two_pow_pos n
  rw [Nat.add_div_left _ hp, Nat.div_eq_of_lt h, Nat.div_self hp, Nat.xor_self] at h1
  rw [Nat.add_mod_left, Nat.mod_eq_of_lt h, Nat.mod_self, Nat.xor_zero] at h2
  have h3 := Nat.div_add_mod ((2 ^ n + r) ^^^ 2 ^ n) (2 ^ n)
  rw [h1, h2] at h3; omega
end Go.Proofs.YtielnphmcaecdaaDoor.Mth
namespace Go.Proofs.YtielnphmcaecdaaDoor.PAll
open Go.IntWalk Go.RowKit Go.Proofs.YtielnphmcaecdaaDoor.Num Go.Proofs.YtielnphmcaecdaaDoor.Mth Go.Proofs.YtielnphmcaecdaaDoorW.PrintWords Go.Proofs.YtielnphmcaecdaaDoorW.PrintLast Go.Proofs.YtielnphmcaecdaaDoorW.PrintMore
set_option linter.unusedVariables false
set_option linter.unusedSimpArgs false
def tones (E : Nat) : Nat := lev (E + 1) (2 * (E + 1))
def tzn (E : Nat) : Nat := lev E (2 * E)
theorem tones_odd (E t : Nat) (h : t < tones E) : E / 2 ^ t % 2 = 1 := by
  obtain ⟨h1, _, _⟩ := lev_spec (E + 1) (2 * (E + 1)) (by omega)
  have hd : 2 ^ (t + 1) ∣ E + 1 := Nat.dvd_trans (Nat.pow_dvd_pow 2 h) (Nat.dvd_of_mod_eq_zero h1)
  obtain ⟨m, hm⟩ := hd
  have hp := Nat.two_pow_pos t
  have hm0 : 0 < m := by
    rcases Nat.eq_zero_or_pos m with h | h
    · rw [h, Nat.mul_zero] at hm; omega
    · exact h
  obtain ⟨d, rfl⟩ : ∃ d, m = d + 1 := ⟨m - 1, by omega⟩
  have e : E = (2 ^ t - 1) + 2 ^ t * (2 * d + 1) := by
    rw [Nat.pow_succ] at hm
    have e1 : 2 ^ t * 2 * (d + 1) = 2 ^ t * (2 * d + 1) + 2 ^ t := by
      rw [Nat.mul_assoc, show 2 * (d + 1) = (2 * d + 1) + 1 by omega, Nat.mul_add (2 ^ t) (2 * d + 1) 1, Nat.mul_one]
    omega
  rw [e, Nat.add_mul_div_left _ _ hp, Nat.div_eq_of_lt (by omega)]; omega
def mseed (F : List Int → List Int → Option (List Int)) (xs : List (List Int)) (x : List Int) : Nat → Option (List Int)
  | 0 => some x
  | t + 1 => (mseed F xs x t).bind fun s => F (xs.getD (xs.length - 1 - t) []) s
theorem mseed_some {F : List Int → List Int → Option (List Int)} {xs : List (List Int)} {x : List Int} : ∀ (T : Nat) (r : List Int), mseed F xs x T = some r → ∀ t, t ≤ T → ∃ s, mseed F xs x t = some s
  | 0, r, h, t, ht => by
    obtain rfl : t = 0 := by omega
    exact ⟨r, h⟩
  | T + 1, r, h, t, ht => by
    by_cases e : t = T + 1
    · subst e; exact ⟨r, h⟩
    · rw [mseed] at h
      obtain ⟨s, hs, _⟩ := Option.bind_eq_some_iff.mp h
      exact mseed_some T s hs t (by omega)
def sdsOf (F : List Int → List Int → Option (List Int)) (xs : List (List Int)) (x : List Int) (t : Nat) : List Int := (mseed F xs x t).getD []
theorem mseed_of {F : List Int → List Int → Option (List Int)} {xs : List (List Int)} {x : List Int} {T : Nat} {r : List Int} (h : mseed F xs x T = some r) {t : Nat} (ht : t ≤ T) : mseed F xs x t = some (sdsOf F xs x t) := by
  obtain ⟨s, hs⟩ := mseed_some T r h t ht
  unfold sdsOf
  rw [hs]; rfl
def mpOk (k E : Nat) : Bool := decide (compact_getMergePath.f k 0 (E : Int) ((E + 1 : Nat) : Int) = some (if E = 0 then ((64 : Int), (63 : Int)) else (((if tones E = 0 then tzn E else 0 : Nat) : Int), ((if tones E = 0 then tzn E else tones E : Nat) : Int)))) &&
  decide (bits_OnesCount64.f (Go.bits .and .u64 ((E : Int) / 2 ^ min (if tones E = 0 then tzn E else 0) 64) (IntKind.u64.wrap (IntKind.u64.wrap (2 ^ min (tones E) 64) - 1))) = some (tones E : Int)) && decide (E = 0 → bits_OnesCount64.f (Go.bits .and .u64 ((E : Int) / 2 ^ min 64 64) 0) = some 0) && decide ((if tones E = 0 then tzn E else 0) + tones E ≤ 64)
def stepOk (F : List Int → List Int → Option (List Int)) (k E : Nat) (xs : List (List Int)) (x : List Int) (nv : Nat) : Bool :=
  mpOk k E && (decide (tones E ≤ xs.length) && (decide (xs.length < 1099511627776) && (decide (nv + 65 < 1099511627776) && (List.range (tones E + 1)).all fun t => decide ((sdsOf F xs x t).length ≤ 140737488355328))))
def stepV (F : List Int → List Int → Option (List Int)) (E : Nat) (xs : List (List Int)) (x : List Int) : List S51 := ⟨⟨0, (E : Int)⟩, x⟩ :: visA 0 (fun t => ((E / 2 ^ t : Nat) : Int)) (sdsOf F xs x) (tones E)
def stepApp (F : List Int → List Int → Option (List Int)) (k E : Nat) (xs : List (List Int)) (x : List Int) (nv : Nat) : Option (List (List Int) × List S51) :=
  (mseed F xs x (tones E)).bind fun s => if stepOk F k E xs x nv = true then some (xs.take (xs.length - tones E) ++ [s], stepV F E xs x) else none
def appAll (F : List Int → List Int → Option (List Int)) (k : Nat) : Nat → List (List Int) → List S51 → List (List Int) → Option (List (List Int) × List S51)
  | _, xs, vs, [] => some (xs, vs)
  | E, xs, vs, x :: l => (stepApp F k E xs x vs.length).bind fun p => appAll F k (E + 1) p.1 (vs ++ p.2) l
theorem mseed_mono {F F' : List Int → List Int → Option (List Int)} (h : ∀ a b, LeO (F a b) (F' a b)) (xs : List (List Int)) (x : List Int) : ∀ t, LeO (mseed F xs x t) (mseed F' xs x t)
  | 0 => LeO.refl _
  | t + 1 => LeO.bind (mseed_mono h xs x t) (fun s => h _ s)
theorem mpOk_mono {k E : Nat} (h : mpOk k E = true) : mpOk (k + 1) E = true := by
  unfold mpOk at h ⊢
  simp only [Bool.and_eq_true, decide_eq_true_eq] at h ⊢
  obtain ⟨⟨⟨h1, h2⟩, h3⟩, h4⟩ := h
  exact ⟨⟨⟨compact_getMergePath.mono _ _ _ _ _ h1, h2⟩, h3⟩, h4⟩
theorem stepApp_mono {F F' : List Int → List Int → Option (List Int)} (h : ∀ a b, LeO (F a b) (F' a b)) (k E : Nat) (xs : List (List Int)) (x : List Int) (nv : Nat) : LeO (stepApp F k E xs x nv) (stepApp F' (k + 1) E xs x nv) := by
  intro r hr
  unfold stepApp at hr ⊢
  obtain ⟨s, hs, hr⟩ := Option.bind_eq_some_iff.mp hr
  have e : ∀ t, t ≤ tones E → sdsOf F' xs x t = sdsOf F xs x t := fun t ht => by
    have h1 := mseed_of hs ht
    have h2 := mseed_mono h xs x t _ h1
    unfold sdsOf at h2 ⊢
    rw [h2]; rfl
  by_cases hok : stepOk F k E xs x nv = true
  case neg => rw [if_neg hok] at hr; cases hr
  rw [if_pos hok] at hr
  have hok' : stepOk F' (k + 1) E xs x nv = true := by
    unfold stepOk at hok ⊢
    simp only [Bool.and_eq_true] at hok ⊢
    refine ⟨mpOk_mono hok.1, hok.2.1, hok.2.2.1, hok.2.2.2.1, ?_⟩
    have := hok.2.2.2.2
    refine List.all_eq_true.mpr (fun t ht => ?_)
    rw [e t (by have := List.mem_range.mp ht; omega)]
    exact List.all_eq_true.mp this t ht
  have hv : stepV F' E xs x = stepV F E xs x := by
    unfold stepV visA
    congr 1
    refine List.map_congr_left (fun t ht => ?_)
    rw [e (t + 1) (by have := List.mem_range.mp ht; omega)]
  rw [mseed_mono h xs x _ _ hs, Option.bind_some, if_pos hok', hv]
  exact hr
theorem appAll_mono {F F' : List Int → List Int → Option (List Int)} (h : ∀ a b, LeO (F a b) (F' a b)) (k : Nat) : ∀ (l : List (List Int)) (E : Nat) (xs : List (List Int)) (vs : List S51), LeO (appAll F k E xs vs l) (appAll F' (k + 1) E xs vs l)
  | [], _, _, _ => LeO.refl _
  | x :: l, E, xs, vs => LeO.bind (stepApp_mono h k E xs x _) (fun p => appAll_mono h k l (E + 1) p.1 (vs ++ p.2))
def impl_Append.f (k : Nat) (a0 a1 a2 a3 a4 a5 b e : Int) (hs l : List (List Int)) : Option (Int × Int × List (List Int) × List S51 × Bool) :=
  if b = 0 ∧ 0 ≤ e ∧ e + (l.length : Int) < 4611686018427387904 ∧ compact_RangeSize.f k b e = some (hs.length : Int) then (impl_texts.f k hs).bind fun xs => (impl_texts.f k l).bind fun ls => if xs.length = hs.length ∧ ls.length = l.length then (appAll (impl_toy_HashChildren.f k a0 a1 a2 a3 a4 a5) k e.toNat xs [] ls).bind fun p => (impl_texts.f k p.1).bind fun r => some (0, ((e.toNat + l.length : Nat) : Int), r, p.2, true) else none else none
theorem impl_Append.mono : ∀ a0 a1 a2 a3 a4 a5 b e hs l k, LeO (impl_Append.f k a0 a1 a2 a3 a4 a5 b e hs l) (impl_Append.f (k + 1) a0 a1 a2 a3 a4 a5 b e hs l) := by
  intro a0 a1 a2 a3 a4 a5 b e hs l k
  unfold impl_Append.f
  by_cases h : b = 0 ∧ 0 ≤ e ∧ e + (l.length : Int) < 4611686018427387904 ∧ compact_RangeSize.f k b e = some (hs.length : Int)
  case neg => rw [if_neg h]; exact LeO.none _
  rw [if_pos h, if_pos ⟨h.1, h.2.1, h.2.2.1, compact_RangeSize.mono _ _ _ _ h.2.2.2⟩]
  exact LeO.bind (impl_texts.mono _ _) (fun x => LeO.bind (impl_texts.mono _ _) (fun y => LeO.ite (LeO.bind (appAll_mono (fun a b => impl_toy_HashChildren.mono _ _ _ _ _ _ _ _ _) k _ _ _ _) (fun p => LeO.bind (impl_texts.mono _ _) (fun _ => LeO.refl _))) (LeO.refl _)))
end Go.Proofs.YtielnphmcaecdaaDoor.PAll
namespace Go.Proofs.YtielnphmcaecdaaDoor.PAll
open Go.IntWalk Go.RowKit Go.Proofs.YtielnphmcaecdaaDoor.Num Go.Proofs.YtielnphmcaecdaaDoor.Mth Go.Proofs.YtielnphmcaecdaaDoorW.PrintWords Go.Proofs.YtielnphmcaecdaaDoorW.PrintLast Go.Proofs.YtielnphmcaecdaaDoorW.PrintMore
set_option linter.unusedVariables false
set_option linter.unusedSimpArgs false
theorem and_one_odd (n : Nat) (hn : n < 18446744073709551616) (h : n % 2 = 1) : Go.bits .and .u64 (n : Int) 1 = 1 := by
  have h4 := u64_and_nat n 1 hn (by omega)
  rw [Nat.and_one_is_mod, h] at h4
  exact h4
theorem visA_congr {l1 l2 : Nat} {i1 i2 : Nat → Int} {s : Nat → List Int} {D : Nat} (hl : 0 < D → l1 = l2) (hi : ∀ t, t < D → i1 (t + 1) = i2 (t + 1)) : visA l1 i1 s D = visA l2 i2 s D := by
  unfold visA
  refine List.map_congr_left (fun t ht => ?_)
  have h := List.mem_range.mp ht
  rw [hi t h, hl (by omega)]
theorem tones_zero : tones 0 = 0 := by unfold tones; rw [lev, if_neg (by omega)]
set_option maxHeartbeats 4000000 in
theorem stepApp.calls (k : Nat) (a0 a1 a2 a3 a4 a5 : Int) (tb p fq q E : Nat) (A : Option Addr) (c : Nat) (ss : List SH) (xs : List (List Int)) (As : Option Addr) (ns cs : Nat) (x : List Int) (SV : Value) (vs : List S51) (w : World) (xs2 : List (List Int)) (V : List S51)
    (h1 : 1 ≤ tb) (h1q : 1 ≤ q) (hG : Glob w) (htb : tb ≤ w.heap.size) (R : RgAt w tb p fq a0 a1 a2 a3 a4 a5 0 (E : Int) A c ss xs) (hs : Txt tb w (As, ns, cs) x) (hq : w.heap[q]? = some (.cells #[SV] 36 (0, 0))) (hS : Kd.S k51 51 w tb (fun _ => True) SV vs) (hE : E + 1 < 18446744073709551616)
    (h : stepApp (impl_toy_HashChildren.f k a0 a1 a2 a3 a4 a5) k E xs x vs.length = some (xs2, V)) :
    Calls Tryd.prog 59 #[.pointer (some ⟨p, 0, none⟩), .slice As ns cs, .func (.func 60) #[] #[.pointer (some ⟨q, 0, none⟩)]] w fun ex w' => ex = .returned .nilIface ∧ Appd w w' tb p fq q a0 a1 a2 a3 a4 a5 0 ((E + 1 : Nat) : Int) A c ss.length xs2 (vs ++ V) := by
  unfold stepApp at h
  obtain ⟨s, hm, h⟩ := Option.bind_eq_some_iff.mp h
  by_cases hok : stepOk (impl_toy_HashChildren.f k a0 a1 a2 a3 a4 a5) k E xs x vs.length = true
  case neg => rw [if_neg hok] at h; cases h
  rw [if_pos hok] at h
  have h := Option.some.inj h
  simp only [Prod.mk.injEq] at h
  obtain ⟨rfl, rfl⟩ := h
  unfold stepOk mpOk at hok
  simp only [Bool.and_eq_true, decide_eq_true_eq] at hok
  obtain ⟨⟨⟨⟨m1, m2⟩, m3⟩, m4⟩, o1, o2, o3, o4⟩ := hok
  have hw : IntKind.u64.wrap ((E : Int) + 1) = ((E + 1 : Nat) : Int) := (congrArg IntKind.u64.wrap (by omega : (E : Int) + 1 = ((E + 1 : Nat) : Int))).trans (u64in hE)
  have hlen : ∀ t, t ≤ tones E → (sdsOf (impl_toy_HashChildren.f k a0 a1 a2 a3 a4 a5) xs x t).length ≤ 140737488355328 := fun t ht => by
    have := List.all_eq_true.mp o4 t (List.mem_range.mpr (by omega))
    simpa using this
  have hs0 : sdsOf (impl_toy_HashChildren.f k a0 a1 a2 a3 a4 a5) xs x 0 = x := rfl
  have hsT : sdsOf (impl_toy_HashChildren.f k a0 a1 a2 a3 a4 a5) xs x (tones E) = s := by unfold sdsOf; rw [hm]; rfl
  have hstep : ∀ t, t < tones E → impl_toy_HashChildren.f k a0 a1 a2 a3 a4 a5 (xs.getD (xs.length - 1 - t) []) (sdsOf (impl_toy_HashChildren.f k a0 a1 a2 a3 a4 a5) xs x t) = some (sdsOf (impl_toy_HashChildren.f k a0 a1 a2 a3 a4 a5) xs x (t + 1)) := fun t ht => by
    have g1 := mseed_of hm (show t ≤ tones E by omega)
    have g2 := mseed_of hm (show t + 1 ≤ tones E by omega)
    rw [mseed, g1, Option.bind_some] at g2
    exact g2
  have hHA : ∀ (W : World) (SV' : Value), Glob W → tb ≤ W.heap.size → RgAt W tb p fq a0 a1 a2 a3 a4 a5 0 (E : Int) A c ss xs → Txt tb W (As, ns, cs) x → W.heap[q]? = some (.cells #[SV'] 36 (0, 0)) → Kd.S k51 51 W tb (fun _ => True) SV' (vs ++ [⟨⟨0, (E : Int)⟩, x⟩]) →
      Calls Tryd.prog 90 #[.pointer (some ⟨p, 0, none⟩), .int .u64 (IntKind.u64.wrap ((E : Int) + 1)), .slice As ns cs, .slice none 0 0, .func (.func 60) #[] #[.pointer (some ⟨q, 0, none⟩)]] W fun ex w' => ex = .returned .nilIface ∧ Appd W w' tb p fq q a0 a1 a2 a3 a4 a5 0 ((E + 1 : Nat) : Int) A c ss.length (xs.take (xs.length - tones E) ++ [s]) (vs ++ [⟨⟨0, (E : Int)⟩, x⟩] ++ visA 0 (fun t => ((E / 2 ^ t : Nat) : Int)) (sdsOf (impl_toy_HashChildren.f k a0 a1 a2 a3 a4 a5) xs x) (tones E)) := by
    intro W SV' gG gtb gR gs gq gS
    rw [hw]
    by_cases hE0 : E = 0
    · subst hE0
      rw [if_pos rfl] at m1
      have hx : x = s := by rw [← hsT, tones_zero]; rfl
      refine (appendNone.calls k a0 a1 a2 a3 a4 a5 tb p fq q 0 ((0 : Nat) : Int) ((0 + 1 : Nat) : Int) 64 63 A c ss xs As ns cs SV' (vs ++ [⟨⟨0, ((0 : Nat) : Int)⟩, x⟩]) x W gG gtb gR gs gq gS m1 (by omega) (by omega) (m3 rfl) o2).mono ?_
      rintro ex w' ⟨rfl, hA⟩
      refine ⟨rfl, ?_⟩
      rw [tones_zero, Nat.sub_zero, List.take_length, show visA 0 (fun t => ((0 / 2 ^ t : Nat) : Int)) (sdsOf (impl_toy_HashChildren.f k a0 a1 a2 a3 a4 a5) xs x) 0 = [] from rfl, List.append_nil, ← hx]
      exact hA
    · rw [if_neg hE0] at m1
      obtain ⟨low, hlow⟩ : ∃ low, (if tones E = 0 then tzn E else 0) = low := ⟨_, rfl⟩
      rw [hlow] at m1 m2 m4
      have hhiv : (((if tones E = 0 then tzn E else tones E : Nat) : Int)) = ((low + tones E : Nat) : Int) := by
        rw [← hlow]
        by_cases ht : tones E = 0
        · rw [if_pos ht, if_pos ht, ht, Nat.add_zero]
        · rw [if_neg ht, if_neg ht, Nat.zero_add]
      have hlow0 : 0 < tones E → low = 0 := fun ht => by rw [← hlow, if_neg (by omega)]
      have hEd : ∀ t, E / 2 ^ low / 2 ^ t < 18446744073709551616 := fun t => Nat.lt_of_le_of_lt (Nat.le_trans (Nat.div_le_self _ _) (Nat.div_le_self _ _)) (by omega)
      refine (appendOnes.calls k a0 a1 a2 a3 a4 a5 tb p fq q 0 (E : Int) ((E + 1 : Nat) : Int) low (tones E) _ A c ss xs As ns cs SV' (vs ++ [⟨⟨0, (E : Int)⟩, x⟩]) (fun t => ((E / 2 ^ low / 2 ^ t : Nat) : Int)) (sdsOf (impl_toy_HashChildren.f k a0 a1 a2 a3 a4 a5) xs x) W gG gtb gR gs gq gS m1 hhiv m4 ?_ ?_ ?_ m2 o1 o2 ?_ hstep hlen).mono ?_
      · show ((E / 2 ^ low / 2 ^ 0 : Nat) : Int) = (E : Int) / 2 ^ min low 64
        rw [Nat.pow_zero, Nat.div_one, Nat.min_eq_left (by omega), Int.natCast_ediv, Int.natCast_pow]; rfl
      · intro t ht
        show ((E / 2 ^ low / 2 ^ (t + 1) : Nat) : Int) = ((E / 2 ^ low / 2 ^ t : Nat) : Int) / 2
        rw [Nat.pow_succ, ← Nat.div_div_eq_div_mul]; omega
      · intro t ht
        refine and_one_odd _ (hEd t) ?_
        rw [hlow0 (by omega), Nat.pow_zero, Nat.div_one]
        exact tones_odd E t ht
      · rw [List.length_append, List.length_singleton]; omega
      · rintro ex w' ⟨rfl, hA⟩
        refine ⟨rfl, ?_⟩
        rw [hsT] at hA
        rw [visA_congr (l1 := 0) (l2 := low) (i2 := fun t => ((E / 2 ^ low / 2 ^ t : Nat) : Int)) (fun h => (hlow0 h).symm) (fun t ht => by show ((E / 2 ^ (t + 1) : Nat) : Int) = ((E / 2 ^ low / 2 ^ (t + 1) : Nat) : Int); rw [hlow0 (by omega), Nat.pow_zero, Nat.div_one])]
        exact hA
  have hr := rangeAppend.calls tb p fq q a0 a1 a2 a3 a4 a5 0 (E : Int) ((E + 1 : Nat) : Int) A c ss xs (xs.take (xs.length - tones E) ++ [s]) As ns cs x SV vs (visA 0 (fun t => ((E / 2 ^ t : Nat) : Int)) (sdsOf (impl_toy_HashChildren.f k a0 a1 a2 a3 a4 a5) xs x) (tones E)) w h1 h1q hG htb R hs hq hS (by omega) (by have := hlen 0 (Nat.zero_le _); rw [hs0] at this; exact this) hHA
  refine hr.mono ?_
  rintro ex w' ⟨rfl, hA⟩
  refine ⟨rfl, ?_⟩
  unfold stepV
  rw [List.append_assoc] at hA
  exact hA
end Go.Proofs.YtielnphmcaecdaaDoor.PAll
namespace Go.Proofs.YtielnphmcaecdaaDoor.PAll
open Go.IntWalk Go.RowKit Go.Proofs.YtielnphmcaecdaaDoor.Num Go.Proofs.YtielnphmcaecdaaDoor.Mth Go.Proofs.YtielnphmcaecdaaDoorW.PrintWords Go.Proofs.YtielnphmcaecdaaDoorW.PrintLast Go.Proofs.YtielnphmcaecdaaDoorW.PrintMore
set_option linter.unusedVariables false
set_option linter.unusedSimpArgs false
theorem Fx.blk {p q g t : Nat} {row : Option Nat} {w w' : World} {c : Array Value} (h : Fx p q row w w') (hb : w.heap[g]? = some (.cells c t (0, 0))) (hp : g ≠ p) (hq : g ≠ q) (hr : some g ≠ row) (ht : t ≠ 51) : w'.heap[g]? = some (.cells c t (0, 0)) :=
  (h.block g (blk_lt hb) hp hq hr (fun d hd => by rw [hb] at hd; injection hd with hd; injection hd with _ hd; exact ht hd)).trans hb
theorem Fx.ty {w w' : World} {tb p fq q g t : Nat} {a0 a1 a2 a3 a4 a5 b e : Int} {A : Option Addr} {c : Nat} {ss : List SH} {xs : List (List Int)} {SV cs : Array Value} (h : Fx p q (Value.slice A ss.length c).ownBlock w w') (R : RgAt w tb p fq a0 a1 a2 a3 a4 a5 b e A c ss xs) (hq : w.heap[q]? = some (.cells SV 36 (0, 0)))
    (hb : w.heap[g]? = some (.cells cs t (0, 0))) (h1 : t ≠ 148) (h2 : t ≠ 36) (h3 : t ≠ 27) (h4 : t ≠ 51) : w'.heap[g]? = some (.cells cs t (0, 0)) :=
  h.blk hb (ty_ne hb R.cell h1) (ty_ne hb hq h2) (fun e => by obtain ⟨d, hd⟩ := Kd.R_typed R.row g e.symm; exact ty_ne hb hd h3 rfl) h4
theorem Fx.pres {w w' : World} {tb p fq q : Nat} {a0 a1 a2 a3 a4 a5 b e : Int} {A : Option Addr} {c : Nat} {ss : List SH} {xs : List (List Int)} {SV : Array Value} (h : Fx p q (Value.slice A ss.length c).ownBlock w w') (R : RgAt w tb p fq a0 a1 a2 a3 a4 a5 b e A c ss xs) (hq : w.heap[q]? = some (.cells SV 36 (0, 0))) : Pres5 w w' := fun k hk => by
  obtain ⟨c, hc⟩ := hk
  rw [h.ty R hq hc (by decide) (by decide) (by decide) (by decide), hc]
theorem Fx.rw {w w' : World} {tb p fq q : Nat} {a0 a1 a2 a3 a4 a5 b e : Int} {A : Option Addr} {c : Nat} {ss : List SH} {xs : List (List Int)} {SV : Array Value} {v : Value} {rs : List SH} (h : Fx p q (Value.slice A ss.length c).ownBlock w w') (R : RgAt w tb p fq a0 a1 a2 a3 a4 a5 b e A c ss xs) (hq : w.heap[q]? = some (.cells SV 36 (0, 0))) (hR : Rw w tb v rs) (hap : ∀ k, v.ownBlock = some k → some k ≠ (Value.slice A ss.length c).ownBlock) : Rw w' tb v rs :=
  Kd.R_mono (Kd.R_step (Kd.R_tight rfl hR) (fun k hk hlt => by
    obtain ⟨d, hd⟩ := Kd.R_typed hR k hk.symm
    rw [h.blk hd (ty_ne hd R.cell (by decide)) (ty_ne hd hq (by decide)) (hap k hk.symm) (by decide), hd])) (fun _ _ => trivial)
theorem four (w : World) (o0 o1 o2 o3 : Obj) : ((((w.alloc o0).alloc o1).alloc o2).alloc o3).heap[w.heap.size + 1]? = some o1 ∧ ((((w.alloc o0).alloc o1).alloc o2).alloc o3).heap[w.heap.size + 1 + 1]? = some o2 ∧ ((((w.alloc o0).alloc o1).alloc o2).alloc o3).heap[w.heap.size + 1 + 1 + 1]? = some o3 ∧ Below w.heap.size w ((((w.alloc o0).alloc o1).alloc o2).alloc o3) := by
  have s1 : (w.alloc o0).heap.size = w.heap.size + 1 := World.size_alloc _ _
  have s2 : ((w.alloc o0).alloc o1).heap.size = w.heap.size + 1 + 1 := by rw [World.size_alloc, s1]
  have s3 : (((w.alloc o0).alloc o1).alloc o2).heap.size = w.heap.size + 1 + 1 + 1 := by rw [World.size_alloc, s2]
  have b1 := blk_new (w.alloc o0) o1
  have b2 := blk_new ((w.alloc o0).alloc o1) o2
  have b3 := blk_new (((w.alloc o0).alloc o1).alloc o2) o3
  rw [s1] at b1
  rw [s2] at b2
  rw [s3] at b3
  exact ⟨blk_alloc (blk_alloc b1 _) _, blk_alloc b2 _, b3, below_alloc (below_alloc (below_alloc (below_alloc (Below.refl _ _) _) _) _) _⟩
set_option maxHeartbeats 8000000 in
set_option maxRecDepth 100000 in
theorem impl_Append.calls (k : Nat) (a0 a1 a2 a3 a4 a5 b e : Int) (A : Option Addr) (c : Nat) (hs : List (List Int)) (A2 : Option Addr) (c2 : Nat) (l : List (List Int)) (r0 r1 : Int) (r2 : List (List Int)) (r3 : List S51) (r4 : Bool) (w : World) (hG : Glob w)
    (hr : Kd.C (Kd.slice 5 (Kd.int .u8)) w A hs.length hs) (hc : hs.length ≤ c) (hr2 : Kd.C (Kd.slice 5 (Kd.int .u8)) w A2 l.length l) (hc2 : l.length ≤ c2) (h : impl_Append.f k a0 a1 a2 a3 a4 a5 b e hs l = some (r0, r1, r2, r3, r4)) :
    Calls Tryd.prog 23 #[.agg #[.int .i64 a0, .int .i64 a1, .int .i64 a2, .int .u64 a3, .int .u64 a4, .int .u64 a5], .agg #[.int .u64 b, .int .u64 e, .slice A hs.length c], .slice A2 l.length c2] w fun ex w' => ∃ v0 v1, ex = .returned (.tuple #[.agg #[.int .u64 r0, .int .u64 r1, v0], v1, .bool r4]) ∧ Kd.S (Kd.slice 5 (Kd.int .u8)) 27 w' w.heap.size (fun _ => True) v0 r2 ∧ Kd.S k51 51 w' w.heap.size (fun _ => True) v1 r3 ∧ Below w.heap.size w w' := by
  unfold impl_Append.f at h
  by_cases hq : b = 0 ∧ 0 ≤ e ∧ e + (l.length : Int) < 4611686018427387904 ∧ compact_RangeSize.f k b e = some (hs.length : Int)
  case neg => rw [if_neg hq] at h; cases h
  rw [if_pos hq] at h
  obtain ⟨rfl, he0, hel, hrs⟩ := hq
  obtain ⟨E, rfl⟩ : ∃ E : Nat, e = (E : Int) := ⟨e.toNat, by omega⟩
  obtain ⟨xs, hxs, h⟩ := Option.bind_eq_some_iff.mp h
  obtain ⟨ls, hls, h⟩ := Option.bind_eq_some_iff.mp h
  by_cases hlen : xs.length = hs.length ∧ ls.length = l.length
  case neg => rw [if_neg hlen] at h; cases h
  rw [if_pos hlen] at h
  obtain ⟨⟨xe, ve⟩, ha, h⟩ := Option.bind_eq_some_iff.mp h
  obtain ⟨rr, hrr, h⟩ := Option.bind_eq_some_iff.mp h
  have h := Option.some.inj h
  simp only [Prod.mk.injEq] at h
  obtain ⟨rfl, rfl, rfl, rfl, rfl⟩ := h
  rw [Int.toNat_natCast] at ha
  dsimp only at hrr
  rw [Int.toNat_natCast]
  have HG := Aside0.mk hG
  have HR := Aside0.mk hr
  have HC := Aside0.mk hc
  have HR2 := Aside0.mk hr2
  have HC2 := Aside0.mk hc2
  have HRS := Aside0.mk hrs
  have HXS := Aside0.mk hxs
  have HLS := Aside0.mk hls
  have HL1 := Aside0.mk hlen.1
  have HL2 := Aside0.mk hlen.2
  have HAA := Aside0.mk ha
  have HRR := Aside0.mk hrr
  have HEL := Aside0.mk hel
  clear hG hr hc hr2 hc2 hrs hxs hls hlen ha hrr hel he0 h
  go_enter Tryd.func23, Tryd.ntmps23
  go_wp2_with (fail)
  obtain ⟨f1, f2, f3, f4⟩ := four w (Obj.cells #[Value.int IntKind.i64 a0, Value.int IntKind.i64 a1, Value.int IntKind.i64 a2, Value.int IntKind.u64 a3, Value.int IntKind.u64 a4, Value.int IntKind.u64 a5] 24) (Obj.cells #[Value.int IntKind.u64 0, Value.int IntKind.u64 (E : Int), Value.slice A hs.length c] 34) (Obj.cells #[Value.int IntKind.u64 0, Value.int IntKind.u64 0, Value.slice none 0 0] 34) (Obj.cells #[Value.func (Fn.func 50) #[Value.agg #[Value.int IntKind.i64 a0, Value.int IntKind.i64 a1, Value.int IntKind.i64 a2, Value.int IntKind.u64 a3, Value.int IntKind.u64 a4, Value.int IntKind.u64 a5]] #[]] 92)
  generalize ((((w.alloc (Obj.cells #[Value.int IntKind.i64 a0, Value.int IntKind.i64 a1, Value.int IntKind.i64 a2, Value.int IntKind.u64 a3, Value.int IntKind.u64 a4, Value.int IntKind.u64 a5] 24)).alloc (Obj.cells #[Value.int IntKind.u64 0, Value.int IntKind.u64 (E : Int), Value.slice A hs.length c] 34)).alloc (Obj.cells #[Value.int IntKind.u64 0, Value.int IntKind.u64 0, Value.slice none 0 0] 34)).alloc (Obj.cells #[Value.func (Fn.func 50) #[Value.agg #[Value.int IntKind.i64 a0, Value.int IntKind.i64 a1, Value.int IntKind.i64 a2, Value.int IntKind.u64 a3, Value.int IntKind.u64 a4, Value.int IntKind.u64 a5]] #[]] 92)) = W0 at f1 f2 f3 f4 ⊢
  obtain ⟨g1, hg1⟩ : ∃ g, g = w.heap.size + 1 := ⟨_, rfl⟩
  obtain ⟨g2, hg2⟩ : ∃ g, g = w.heap.size + 1 + 1 := ⟨_, rfl⟩
  obtain ⟨fq, hg3⟩ : ∃ g, g = w.heap.size + 1 + 1 + 1 := ⟨_, rfl⟩
  rw [← hg1] at f1
  rw [← hg2] at f2
  rw [← hg3] at f3
  rw [← hg3, ← hg2, ← hg1]
  have y0 : W0.cell? ⟨g1, 0, none⟩ = some (.int .u64 0) := blk_cell f1 0
  have y1 : W0.cell? ⟨g1, 1, none⟩ = some (.int .u64 (E : Int)) := blk_cell f1 1
  have y2 : W0.cell? ⟨g1, 2, none⟩ = some (.slice A hs.length c) := blk_cell f1 2
  have BR := Aside0.mk f2
  have BF := Aside0.mk f3
  have HB := Aside0.mk f4
  have HG1 := Aside0.mk (blk_lt f1)
  have HW1 := Aside0.mk (show w.heap.size ≤ g1 ∧ w.heap.size ≤ g2 ∧ w.heap.size ≤ fq by omega)
  clear f1 f2 f3 f4 hg1 hg2 hg3
  have HBn := Aside0.mk (Below.refl W0.heap.size W0)
  go_region_held_law (fun w' => w'.cell? ⟨g1, 0, none⟩ = some (.int .u64 0) ∧ w'.cell? ⟨g1, 1, none⟩ = some (.int .u64 (E : Int)) ∧ w'.cell? ⟨g1, 2, none⟩ = some (.slice A hs.length c)) (first | exact ⟨u0_, u1_, u2_⟩ | exact ⟨v0_, v1_, v2_⟩ | exact ⟨y0, y1, y2⟩ | go_keep) (first
    | (go_simp; go_at_call 45
       have hbd : Below W0.heap.size W0 W0.drew := below_drew (Below.refl _ _)
       have hbw : Below w.heap.size w W0.drew := below_step HB.out hbd
       refine (impl_texts.calls k A c hs xs _ (Kd.C_below HR.out hbw) HC.out HXS.out).mono ?_
       rintro ex wq ⟨v3, rfl, hS3, hb3⟩
       have HB3 := Aside0.mk (show Below W0.heap.size W0 wq from below_step hbd hb3)
       have HS3 := Aside0.mk (Kd.S_lower hS3 (below_size hbw))
       obtain ⟨A3, c3, rfl⟩ := Kd.S_slice hS3
       have v0_ := (HB3.out.cell (p := ⟨g1, 0, none⟩) HG1.out).trans y0
       have v1_ := (HB3.out.cell (p := ⟨g1, 1, none⟩) HG1.out).trans y1
       have v2_ := (HB3.out.cell (p := ⟨g1, 2, none⟩) HG1.out).trans y2
       clear hS3 hb3 hbw hbd)
    | (go_simp; go_at_call 51
       refine (newRange.calls k fq 0 (E : Int) A3 xs.length c3 _ (HG.out.below (below_step HB.out HB3.out)) (by omega) (by rw [HL1.out]; exact HRS.out)).mono ?_
       rintro ex wn ⟨nd, rfl, rfl⟩
       have hp : ((wq.drewN nd).alloc (Obj.cells #[.pointer (some ⟨fq, 0, none⟩), .int .u64 0, .int .u64 (E : Int), .slice A3 xs.length c3] 148)).heap[wq.heap.size]? = some (Obj.cells #[.pointer (some ⟨fq, 0, none⟩), .int .u64 0, .int .u64 (E : Int), .slice A3 xs.length c3] 148) := blk_new (wq.drewN nd) _
       have hbn : Below W0.heap.size W0 ((wq.drewN nd).alloc (Obj.cells #[.pointer (some ⟨fq, 0, none⟩), .int .u64 0, .int .u64 (E : Int), .slice A3 xs.length c3] 148)) := below_alloc (pw_below_drewN HB3.out nd) _
       have hSn := Kd.S_alloc (Kd.S_drewN HS3.out nd) (Obj.cells #[.pointer (some ⟨fq, 0, none⟩), .int .u64 0, .int .u64 (E : Int), .slice A3 xs.length c3] 148)
       have hpp : w.heap.size ≤ wq.heap.size := below_size (below_step HB.out HB3.out)
       generalize (wq.drewN nd).alloc (Obj.cells #[.pointer (some ⟨fq, 0, none⟩), .int .u64 0, .int .u64 (E : Int), .slice A3 xs.length c3] 148) = wn at hp hbn hSn ⊢
       generalize wq.heap.size = p at hp hpp ⊢
       have HP := Aside0.mk hp
       have HBN := Aside0.mk hbn
       have HSN := Aside0.mk hSn
       have HPP := Aside0.mk hpp
       have u0_ := (HBN.out.cell (p := ⟨g1, 0, none⟩) HG1.out).trans y0
       have u1_ := (HBN.out.cell (p := ⟨g1, 1, none⟩) HG1.out).trans y1
       have u2_ := (HBN.out.cell (p := ⟨g1, 2, none⟩) HG1.out).trans y2
       clear hp hbn hSn hpp)
    | fail)
  go_wp2_with (fail)
  have hqn := blk_new wn (Obj.cells #[Value.slice none 0 0] 36)
  have HBQ := Aside0.mk (show Below w.heap.size w (wn.alloc (Obj.cells #[Value.slice none 0 0] 36)) from below_alloc (below_step HB.out HBN.out) _)
  have HPQ := Aside0.mk (blk_alloc HP.out (Obj.cells #[Value.slice none 0 0] 36))
  have HSQ := Aside0.mk (Kd.S_alloc HSN.out (Obj.cells #[Value.slice none 0 0] 36))
  have HFQ := Aside0.mk (blk_alloc (blk_below BF.out HBN.out) (Obj.cells #[Value.slice none 0 0] 36))
  have HRQ := Aside0.mk (blk_alloc (blk_below BR.out HBN.out) (Obj.cells #[Value.slice none 0 0] 36))
  have hqs : w.heap.size ≤ wn.heap.size := below_size (below_step HB.out HBN.out)
  generalize wn.alloc (Obj.cells #[Value.slice none 0 0] 36) = Wq at hqn HBQ HPQ HSQ HFQ HRQ ⊢
  generalize wn.heap.size = q at hqn hqs ⊢
  have HQS := Aside0.mk hqs
  clear hqs u0_ u1_ u2_ v0_ v1_ v2_ y0 y1 y2 HB3 HS3 HBN HSN HP BF BR HB HG1 HR
  refine (impl_texts.calls k A2 c2 l ls Wq (Kd.C_below HR2.out HBQ.out) HC2.out HLS.out).mono ?_
  rintro ex w2 ⟨v4, rfl, hS4, hb4⟩
  obtain ⟨A4, c4, rfl⟩ := Kd.S_slice hS4
  obtain ⟨ss, hsl, hRw, hTx⟩ := rows_SH (Kd.S_R (Kd.S_below HSQ.out hb4))
  obtain ⟨st, htl, hRt, hTt⟩ := rows_SH (Kd.S_R hS4)
  have HRG := Aside0.mk (show RgAt w2 w.heap.size p fq a0 a1 a2 a3 a4 a5 0 (E : Int) A3 c3 ss xs from ⟨by rw [hsl]; exact blk_below HPQ.out hb4, blk_below HFQ.out hb4, by rw [hsl]; exact hRw, hsl, hTx⟩)
  have HQ := Aside0.mk (blk_below hqn hb4)
  have HLR := Aside0.mk (show Rw w2 w.heap.size (.slice A4 ls.length c4) st from Kd.R_lower hRt HBQ.out.size)
  have HLT := Aside0.mk (show ∀ (j : Nat) (s : SH) (x : List Int), st[j]? = some s → ls[j]? = some x → Txt w.heap.size w2 s x from fun j s x h1 h2 => Txt.of_R (hTt j s x h1 h2) HBQ.out.size)
  have HLL := Aside0.mk htl
  have HAP := Aside0.mk (show ∀ k, (Value.slice A4 ls.length c4).ownBlock = some k → some k ≠ (Value.slice A3 ss.length c3).ownBlock from fun k hk e => by
    have h1 := Kd.S_base hS4 k hk
    have h2 := Kd.S_lt HSQ.out k (by rw [own_at A3 xs.length ss.length c3 c3]; exact e.symm)
    omega)
  have HRB := Aside0.mk (blk_below HRQ.out hb4)
  have HB := Aside0.mk (below_step HBQ.out hb4)
  clear hS4 hb4 hsl hRw hTx htl hRt hTt HBQ HPQ HSQ HFQ HRQ hqn HR2
  dsimp only
  go_wp2_with (fail)
  have HA0 := HAA.out
  clear HAA
  go_loopg [11, 38] ls.length (fun kq v11 v38 w' => ∃ (i : Nat) (A : Option Addr) (c : Nat) (ss : List SH) (ys : List (List Int)) (SV : Value) (vs : List S51), v11 = .nilIface ∧ v38 = .int .i64 (i : Int) ∧ Aside0 (i + kq = ls.length) ∧ Aside0 (appAll (impl_toy_HashChildren.f k a0 a1 a2 a3 a4 a5) k (E + i) ys vs (ls.drop i) = some (xe, ve)) ∧ Aside0 (RgAt w' w.heap.size p fq a0 a1 a2 a3 a4 a5 0 ((E + i : Nat) : Int) A c ss ys) ∧ Aside0 (w'.heap[q]? = some (.cells #[SV] 36 (0, 0))) ∧ Aside0 (Kd.S k51 51 w' w.heap.size (fun _ => True) SV vs) ∧ Aside0 (Rw w' w.heap.size (.slice A4 ls.length c4) st) ∧ Aside0 (∀ (j : Nat) (s : SH) (x : List Int), st[j]? = some s → ls[j]? = some x → Txt w.heap.size w' s x) ∧ Aside0 (∀ k, (Value.slice A4 ls.length c4).ownBlock = some k → some k ≠ (Value.slice A ss.length c).ownBlock) ∧ Aside0 (w'.heap[g2]? = some (.cells #[.int .u64 0, .int .u64 0, .slice none 0 0] 34 (0, 0))) ∧ Aside0 (Below w.heap.size w w'))
  case atStart => exact ⟨0, A3, c3, ss, xs, .slice none 0 0, [], rfl, rfl, ⟨by omega⟩, ⟨by rw [Nat.add_zero, List.drop_zero]; exact HA0⟩, HRG, HQ, ⟨Kd.S_nil _ _ _ _ _⟩, HLR, HLT, HAP, HRB, HB⟩
  case round =>
    clear HA0 HRG HQ HLR HLT HAP HRB HB
    obtain ⟨i, A, c, ss, ys, SV, vs, rfl, rfl, HI, HA1, HRG, HQ, HV, HLR, HLT, HAP, HRB, HB⟩ := hrel
    cases gk with
    | zero =>
      have ei : i = ls.length := by have := HI.out; omega
      subst ei
      have ha := HA1.out
      rw [List.drop_length, appAll] at ha
      have ha := Option.some.inj ha
      simp only [Prod.mk.injEq] at ha
      obtain ⟨rfl, rfl⟩ := ha
      go_wp2_with (fail)
      obtain ⟨AV, cV, rfl⟩ := Kd.S_slice HV.out
      have y0 : wr.cell? ⟨q, 0, none⟩ = some (.slice AV vs.length cV) := blk_cell HQ.out 0
      have HQL := Aside0.mk (show q < wr.heap.size from blk_lt HQ.out)
      have hqg : q ≠ g2 := ty_ne HQ.out HRB.out (by decide)
      have hqg' : g2 ≠ q := fun e => hqg e.symm
      go_region_held_law (fun w' => w'.cell? ⟨q, 0, none⟩ = some (.slice AV vs.length cV)) (first | exact v0_ | exact y0 | go_keep) (first
        | (go_simp; go_at_call 55
           have hbd : Below wr.heap.size wr wr.drew := below_drew (Below.refl _ _)
           refine (fromRange.calls k w.heap.size p fq a0 a1 a2 a3 a4 a5 0 _ A c ss ys rr _ (HRG.out.below hbd) HRR.out).mono ?_
           rintro ex w5 ⟨v5, rfl, hS5, hb5⟩
           have HB5 := Aside0.mk (show Below wr.heap.size wr w5 from below_step hbd hb5)
           have HS5 := Aside0.mk (Kd.S_lower hS5 (Nat.le_trans HB.out.size hbd.size))
           obtain ⟨A5, c5, rfl⟩ := Kd.S_slice hS5
           have v0_ := (HB5.out.cell (p := ⟨q, 0, none⟩) HQL.out).trans y0
           have hbx := blk_below HRB.out HB5.out
           have s0 : w5.cell? ⟨g2, 0, none⟩ = some (.int .u64 0) := blk_cell hbx 0
           have s1 : w5.cell? ⟨g2, 1, none⟩ = some (.int .u64 0) := blk_cell hbx 1
           have s2 : w5.cell? ⟨g2, 2, none⟩ = some (.slice none 0 0) := blk_cell hbx 2
           have z0 := blk_frozen hbx 0
           have z1 := blk_frozen hbx 1
           have z2 := blk_frozen hbx 2
           have HBX := Aside0.mk hbx
           clear hS5 hb5 hbd hbx)
        | fail)
      go_wp2_with (fail)
      have eE : ((E : Int) + (ls.length : Int)) = ((E + l.length : Nat) : Int) := by rw [← HL2.out]; omega
      rw [eE]
      have k1 := blk_set HBX.out 0 (.int .u64 0)
      have k2 := blk_set k1 1 (.int .u64 ((E + l.length : Nat) : Int))
      have k3 := blk_set k2 2 (.slice A5 rr.length c5)
      refine bodyPost_ret (results_ctt rfl _ _ g2 34 #[.int .u64 0, .int .u64 ((E + l.length : Nat) : Int), .slice A5 rr.length c5] (0, 0) _ rfl k3 Tryd.underlying34 rfl (by kernel_rfl)) rfl ?_
      refine ⟨_, _, rfl, Kd.S_set (Kd.S_set (Kd.S_set HS5.out HBX.out (by decide) _ _) k1 (by decide) _ _) k2 (by decide) _ _, Kd.S_set (Kd.S_set (Kd.S_set (Kd.S_below HV.out HB5.out) HBX.out (by decide) _ _) k1 (by decide) _ _) k2 (by decide) _ _, ?_⟩
      exact (((HB.out.trans (HB5.out.mono HB.out.size)).setCell (p := ⟨g2, 0, none⟩) HW1.out.2.1 _).setCell (p := ⟨g2, 1, none⟩) HW1.out.2.1 _).setCell (p := ⟨g2, 2, none⟩) HW1.out.2.1 _
    | succ k1 =>
      have hi : i < ls.length := by have := HI.out; omega
      have htl : st.length = ls.length := HLL.out
      obtain ⟨⟨As, ns, cs⟩, hsi⟩ : ∃ s, st[i]? = some s := ⟨_, List.getElem?_eq_getElem (by omega)⟩
      obtain ⟨x, hxi⟩ : ∃ x, ls[i]? = some x := ⟨_, List.getElem?_eq_getElem hi⟩
      have HX := Aside0.mk (HLT.out i _ _ hsi hxi)
      have hdr : ls.drop i = x :: ls.drop (i + 1) := by
        rw [List.drop_eq_getElem_cons hi]
        congr 1
        rw [List.getElem?_eq_getElem hi] at hxi
        exact Option.some.inj hxi
      have ha := HA1.out
      rw [hdr, appAll] at ha
      obtain ⟨⟨ys2, V2⟩, hst, ha⟩ := Option.bind_eq_some_iff.mp ha
      dsimp only at ha
      obtain ⟨g4, cc, e4, hg4⟩ := kSH_form (s := (A4, ls.length, c4)) HLR.out (by omega)
      simp only [Prod.mk.injEq] at e4
      obtain ⟨rfl, -, rfl⟩ := e4
      have x1 : wr.cell? ⟨g4, i, none⟩ = some (.slice As ns cs) := (kSH_cell HLR.out hsi).1
      have d0 : 0 ≤ (i : Int) := by omega
      have d1 : (i : Int) < (ls.length : Int) := by omega
      have d2 : decide ((i : Int) < (ls.length : Int)) = true := decide_eq_true d1
      have d3 : decide (i < ls.length) = true := decide_eq_true hi
      have HST := Aside0.mk hst
      have HA2 := Aside0.mk ha
      have HII := Aside0.mk hi
      have H1 := Aside0.mk (show 1 ≤ w.heap.size from World.block_lt_of_cell? _ _ (HG.out 0 (by omega)))
      clear hsi hxi hdr ha hst hg4 hi htl HA1
      go_wp2_with (fail)
      refine (stepApp.calls k a0 a1 a2 a3 a4 a5 w.heap.size p fq q (E + i) A c ss ys As ns cs x SV vs _ ys2 V2 H1.out (Nat.le_trans H1.out HQS.out) (HG.out.below HB.out) HB.out.size HRG.out HX.out HQ.out HV.out (by have := HEL.out; have := HL2.out; have := HII.out; omega) HST.out).mono ?_
      rintro ex w5 ⟨rfl, hA⟩
      obtain ⟨A', c', ss', SV', R', q', S', F, hB', hat⟩ := hA
      have HRG' := Aside0.mk R'
      have HQ' := Aside0.mk q'
      have HV' := Aside0.mk S'
      have HLR' := Aside0.mk (F.rw HRG.out HQ.out HLR.out HAP.out)
      have HLT' := Aside0.mk (show ∀ (j : Nat) (s : SH) (x : List Int), st[j]? = some s → ls[j]? = some x → Txt w.heap.size w5 s x from fun j s x h1 h2 => (HLT.out j s x h1 h2).pres (F.pres HRG.out HQ.out))
      have HRB' := Aside0.mk (F.ty HRG.out HQ.out HRB.out (by decide) (by decide) (by decide) (by decide))
      have HB' := Aside0.mk (HB.out.trans (hB' _ (Nat.le_refl _) HQS.out HPP.out))
      have HAP' := Aside0.mk (show ∀ k, (Value.slice (some ⟨g4, 0, none⟩) ls.length c4).ownBlock = some k → some k ≠ (Value.slice A' ss'.length c').ownBlock from fun k hk e => by
        rcases hat with h | ⟨g, h, hle⟩
        · exact HAP.out k hk (e.trans h)
        · have := Kd.R_lt HLR.out k hk
          rw [h] at e
          injection e with e
          omega)
      clear R' q' S' F hB' hat HRG HQ HV HLR HLT HRB HB HAP x1 HX HST
      dsimp only
      go_wp2
      go_roundg k1
      case measure => omega
      case rel => exact ⟨i + 1, A', c', ss', ys2, SV', vs ++ V2, rfl, by rw [nxt_ (by have := HEL.out; have := HL2.out; have := HII.out; omega)], ⟨by have := HI.out; omega⟩, HA2, HRG', HQ', HV', HLR', HLT', HAP', HRB', HB'⟩
end Go.Proofs.YtielnphmcaecdaaDoor.PAll
