-- Written by a program of this session (wip/tools)
import Derived.Test.YtielnphmcaecdaaDoorQCSFoldFns
import Derived.Test.YtielnphmcaecdaaDoorQCSMath
import Derived.Test.YtielnphmcaecdaaDoorQCSExtVerB
import Derived.Test.YtielnphmcaecdaaDoorQCSPAllx10
import Derived.Test.YtielnphmcaecdaaDoorQCSBits
import Derived.Test.YtielnphmcaecdaaDoorQCSPAllx0
import Derived.Test.YtielnphmcaecdaaDoorQCSPAllx11
namespace Go.Proofs.YtielnphmcaecdaaDoor.Mth
open Go.Proofs.YtielnphmcaecdaaDoor.PAll
set_option linter.unusedVariables false
def chn (R H : List Int → List Int → List Int) (idx : Nat) : List (List Int) → Nat → List Int → List Int
  | [], _, s => s
  | x :: xs, i, s => chn R H idx xs (i + 1) (if idx / 2 ^ i % 2 = 0 then R s x else H x s)
def fd (R H : List Int → List Int → List Int) : List Bool → List (List Int) → List Int → List Int
  | [], _, s => s
  | _, [], s => s
  | d :: ds, x :: xs, s => fd R H ds xs (if d then H x s else R s x)
theorem fd_nil (R H : List Int → List Int → List Int) (ds : List Bool) (s : List Int) : fd R H ds [] s = s := by cases ds <;> rfl
theorem fd_append (R H : List Int → List Int → List Int) : ∀ (ds es : List Bool) (xs ys : List (List Int)) (s : List Int), ds.length = xs.length → fd R H (ds ++ es) (xs ++ ys) s = fd R H es ys (fd R H ds xs s)
  | [], es, [], ys, s, _ => rfl
  | [], _, _ :: _, _, _, h => by cases h
  | _ :: _, _, [], _, _, h => by cases h
  | d :: ds, es, x :: xs, ys, s, h => by
    show fd R H (ds ++ es) (xs ++ ys) _ = _
    exact fd_append R H ds es xs ys _ (Nat.succ.inj h)
def dirs (i b e : Nat) : List Bool :=
  if _h : e - b ≤ 1 then []
  else if i < b + psplit (e - b) then dirs i b (b + psplit (e - b)) ++ [false]
  else dirs i (b + psplit (e - b)) e ++ [true]
termination_by e - b
decreasing_by
  · have := psplit_lt (n := e - b) (by omega); omega
  · have := psplit_pos (e - b); omega
theorem dirs_one {i b e : Nat} (h : e - b ≤ 1) : dirs i b e = [] := by rw [dirs, dif_pos h]
theorem dirs_left {i b e : Nat} (h : 2 ≤ e - b) (hi : i < b + psplit (e - b)) : dirs i b e = dirs i b (b + psplit (e - b)) ++ [false] := by rw [dirs, dif_neg (by omega), if_pos hi]
theorem dirs_right {i b e : Nat} (h : 2 ≤ e - b) (hi : b + psplit (e - b) ≤ i) : dirs i b e = dirs i (b + psplit (e - b)) e ++ [true] := by rw [dirs, dif_neg (by omega), if_neg (by omega)]
theorem dirs_len (i : Nat) : ∀ (d b e : Nat), e - b = d → (dirs i b e).length = (path i b e).length := by
  intro d
  induction d using Nat.strongRecOn with
  | _ d ih =>
  intro b e hd
  by_cases h : e - b ≤ 1
  · rw [dirs_one h, path_one h]; rfl
  · have h1 := psplit_lt (n := e - b) (by omega)
    have h2 := psplit_pos (e - b)
    by_cases hi : i < b + psplit (e - b)
    · rw [dirs_left (by omega) hi, path_left (by omega) hi, List.length_append, List.length_append, ih _ (by omega) b (b + psplit (e - b)) rfl]; rfl
    · rw [dirs_right (by omega) (by omega), path_right (i := i) (b := b) (e := e) (by omega) (by omega), List.length_append, List.length_append, ih _ (by omega) (b + psplit (e - b)) e rfl]; rfl
theorem fold_node {R H : List Int → List Int → List Int} {val : Nat × Nat → List Int} {T : Nat → Nat → List Int} {l c i N : Nat} (hc1 : c * 2 ^ l ≤ i) (hc2 : i < (c + 1) * 2 ^ l)
    (h2 : ∀ b e, 2 ≤ e - b → e ≤ N → b ≤ c * 2 ^ l → (c + 1) * 2 ^ l ≤ b + psplit (e - b) → T b e = R (T b (b + psplit (e - b))) (val (b + psplit (e - b), e)))
    (h3 : ∀ b e, 2 ≤ e - b → e ≤ N → b + psplit (e - b) ≤ c * 2 ^ l → (c + 1) * 2 ^ l ≤ e → T b e = H (val (b, b + psplit (e - b))) (T (b + psplit (e - b)) e)) :
    ∀ d b e, e - b = d → e ≤ N → b ≤ c * 2 ^ l → (c + 1) * 2 ^ l ≤ e → b % 2 ^ l = 0 →
      l ≤ (path i b e).length ∧ fd R H ((dirs i b e).drop l) (((path i b e).map val).drop l) (T (c * 2 ^ l) ((c + 1) * 2 ^ l)) = T b e := by
  have hp := Nat.two_pow_pos l
  have hs : (c + 1) * 2 ^ l = c * 2 ^ l + 2 ^ l := by rw [Nat.add_mul, Nat.one_mul]
  intro d
  induction d using Nat.strongRecOn with
  | _ d ih =>
  intro b e hd hN hb he hm
  by_cases hle : e - b ≤ 2 ^ l
  · have e1 : b = c * 2 ^ l := by omega
    have e2 : e = b + 2 ^ l := by omega
    have hlen : (path i b e).length = l := by rw [e2]; exact path_len_pow l i b
    refine ⟨by omega, ?_⟩
    rw [List.drop_of_length_le (l := (path i b e).map val) (by rw [List.length_map]; omega), fd_nil, e1, show (c + 1) * 2 ^ l = e by omega, ← e1]
  · have h22 : 2 ≤ e - b := by omega
    obtain ⟨κ, hκ⟩ : ∃ κ, psplit (e - b) = 2 ^ κ := ⟨_, rfl⟩
    have g1 := psplit_lt (n := e - b) h22
    have g2 := le_psplit (n := e - b) h22
    have g3 := psplit_pos (e - b)
    have hlκ : l ≤ κ := by
      apply Nat.le_of_not_lt; intro h
      have := Nat.pow_le_pow_right (n := 2) (by decide) (show κ + 1 ≤ l by omega)
      rw [Nat.pow_succ] at this
      omega
    have hdk : psplit (e - b) % 2 ^ l = 0 := by rw [hκ]; exact Nat.mod_eq_zero_of_dvd (Nat.pow_dvd_pow 2 hlκ)
    have hbk : (b + psplit (e - b)) % 2 ^ l = 0 := by rw [Nat.add_mod, hm, hdk, Nat.zero_add, Nat.zero_mod]
    obtain ⟨q, hq⟩ := Nat.dvd_of_mod_eq_zero hbk
    by_cases hi : i < b + psplit (e - b)
    · have hin : (c + 1) * 2 ^ l ≤ b + psplit (e - b) := by
        rw [hq, Nat.mul_comm (2 ^ l)]
        refine Nat.mul_le_mul_right _ ?_
        apply Nat.le_of_not_lt; intro h
        have := Nat.mul_le_mul_right (2 ^ l) (show q ≤ c by omega)
        rw [hq, Nat.mul_comm (2 ^ l)] at hi
        omega
      obtain ⟨k1, k2⟩ := ih _ (by omega) b (b + psplit (e - b)) rfl (by omega) hb hin hm
      have k3 := dirs_len i _ b (b + psplit (e - b)) rfl
      rw [path_left h22 hi, dirs_left h22 hi]
      refine ⟨by rw [List.length_append]; omega, ?_⟩
      rw [List.map_append, drop_snoc _ (by omega), drop_snoc _ (by rw [List.length_map]; omega), fd_append _ _ _ _ _ _ _ (by rw [List.length_drop, List.length_drop, List.length_map, k3]), k2, h2 b e h22 hN hb hin]
      rfl
    · have hin : b + psplit (e - b) ≤ c * 2 ^ l := by
        rw [hq, Nat.mul_comm (2 ^ l)]
        refine Nat.mul_le_mul_right _ ?_
        apply Nat.le_of_not_lt; intro h
        have := Nat.mul_le_mul_right (2 ^ l) (show c + 1 ≤ q by omega)
        rw [hq, Nat.mul_comm (2 ^ l)] at hi
        omega
      obtain ⟨k1, k2⟩ := ih _ (by omega) (b + psplit (e - b)) e rfl hN hin he hbk
      have k3 := dirs_len i _ (b + psplit (e - b)) e rfl
      rw [path_right (i := i) (b := b) (e := e) h22 (by omega), dirs_right h22 (by omega)]
      refine ⟨by rw [List.length_append]; omega, ?_⟩
      rw [List.map_append, drop_snoc _ (by omega), drop_snoc _ (by rw [List.length_map]; omega), fd_append _ _ _ _ _ _ _ (by rw [List.length_drop, List.length_drop, List.length_map, k3]), k2, h3 b e h22 hN hin he]
      rfl
end Go.Proofs.YtielnphmcaecdaaDoor.Mth
namespace Go.Proofs.YtielnphmcaecdaaDoor.Mth
theorem path_shift (d : Nat) : ∀ (m i b e : Nat), e - b = m → path (i + d) (b + d) (e + d) = (path i b e).map fun p => (p.1 + d, p.2 + d) := by
  intro m
  induction m using Nat.strongRecOn with
  | _ m ih =>
  intro i b e hm
  by_cases h : e - b ≤ 1
  · rw [path_one h, path_one (by omega)]; rfl
  · have h1 := psplit_lt (n := e - b) (by omega)
    have h2 := psplit_pos (e - b)
    have es : e + d - (b + d) = e - b := by omega
    by_cases hi : i < b + psplit (e - b)
    · rw [path_left (by omega) hi, path_left (by omega) (by rw [es]; omega), es, List.map_append, ← ih (b + psplit (e - b) - b) (by omega) i b (b + psplit (e - b)) rfl]
      rw [show b + d + psplit (e - b) = b + psplit (e - b) + d by omega]; rfl
    · rw [path_right (i := i) (b := b) (e := e) (by omega) (by omega), path_right (i := i + d) (b := b + d) (e := e + d) (by omega) (by rw [es]; omega), es, List.map_append, ← ih (e - (b + psplit (e - b))) (by omega) i (b + psplit (e - b)) e rfl]
      rw [show b + d + psplit (e - b) = b + psplit (e - b) + d by omega]; rfl
theorem div_top {κ m x : Nat} (hm : m ≤ κ) : (2 ^ κ + x) / 2 ^ m = 2 ^ (κ - m) + x / 2 ^ m := by
  have e : 2 ^ κ = 2 ^ m * 2 ^ (κ - m) := by rw [← Nat.pow_add]; congr 1; omega
  rw [e, Nat.add_comm, Nat.add_mul_div_left _ _ (Nat.two_pow_pos m), Nat.add_comm]
theorem ones_one : ones 1 = 1 := by rw [ones_half, ones_zero]
theorem ones_top_add {j x : Nat} (h : x < 2 ^ j) : ones (2 ^ j + x) = 1 + ones x := by
  have hp := Nat.two_pow_pos j
  rw [ones_split j, Nat.add_mod_left, Nat.mod_eq_of_lt h, Nat.add_div_left _ hp, Nat.div_eq_of_lt h, ones_one]; omega
theorem path_length (n : Nat) : ∀ i, i < n → (path i 0 n).length = fork i (n - 1) + ones (i / 2 ^ fork i (n - 1)) := by
  induction n using Nat.strongRecOn with
  | _ n ih =>
  intro i hi
  by_cases h1 : n ≤ 1
  · have e1 : n = 1 := by omega
    have e2 : i = 0 := by omega
    subst e1 e2
    rw [path_one (by omega), show (1 - 1 : Nat) = 0 from rfl, fork_self, Nat.pow_zero, Nat.div_one, ones_zero]; rfl
  · obtain ⟨κ, hκ⟩ : ∃ κ, psplit (n - 0) = 2 ^ κ := ⟨_, rfl⟩
    have hp := Nat.two_pow_pos κ
    have hlt := psplit_lt (n := n - 0) (by omega)
    have hle := le_psplit (n := n - 0) (by omega)
    rw [hκ] at hlt hle
    have hpow : 2 ^ (κ + 1) = 2 * 2 ^ κ := by rw [Nat.pow_succ]; omega
    by_cases hi2 : i < 2 ^ κ
    · have hf : fork i (n - 1) = κ + 1 := by
        have a : fork i (n - 1) ≤ κ + 1 := fork_le.2 (by rw [Nat.div_eq_of_lt (by omega), Nat.div_eq_of_lt (by omega)])
        have b : ¬ fork i (n - 1) ≤ κ := fun h => by
          have := fork_le.1 h
          rw [Nat.div_eq_of_lt hi2] at this
          have h3 : 1 ≤ (n - 1) / 2 ^ κ := by rw [Nat.le_div_iff_mul_le hp]; omega
          omega
        omega
      rw [path_left (by omega) (by rw [hκ]; omega), hκ, List.length_append, hf, Nat.div_eq_of_lt (by omega), ones_zero, path_len_pow]; rfl
    · obtain ⟨j, rfl⟩ : ∃ j, i = j + 2 ^ κ := ⟨i - 2 ^ κ, by omega⟩
      obtain ⟨m, rfl⟩ : ∃ m, n = m + 2 ^ κ := ⟨n - 2 ^ κ, by omega⟩
      have e0 := path_shift (2 ^ κ) _ j 0 m rfl
      rw [path_right (by omega) (by rw [hκ]; omega), hκ, List.length_append, e0, List.length_map, ih m (by omega) j (by omega)]
      have hf1 : fork j (m - 1) ≤ κ := fork_le.2 (by rw [Nat.div_eq_of_lt (by omega), Nat.div_eq_of_lt (by omega)])
      have hf : fork (j + 2 ^ κ) (m + 2 ^ κ - 1) = fork j (m - 1) := by
        have e1 : m + 2 ^ κ - 1 = 2 ^ κ + (m - 1) := by omega
        have hi : ∀ x, x ≤ κ → (fork (j + 2 ^ κ) (m + 2 ^ κ - 1) ≤ x ↔ fork j (m - 1) ≤ x) := by
          intro x hx
          rw [fork_le, fork_le, e1, Nat.add_comm j, div_top hx, div_top hx]; omega
        have a := (hi _ hf1).2 (Nat.le_refl _)
        have b := (hi _ (Nat.le_trans a hf1)).1 (Nat.le_refl _)
        omega
      have hlt2 : j / 2 ^ fork j (m - 1) < 2 ^ (κ - fork j (m - 1)) := by
        rw [Nat.div_lt_iff_lt_mul (Nat.two_pow_pos _), ← Nat.pow_add, show κ - fork j (m - 1) + fork j (m - 1) = κ by omega]; omega
      rw [hf, Nat.add_comm j, div_top hf1, ones_top_add hlt2]
      simp only [List.length_cons, List.length_nil]; omega
end Go.Proofs.YtielnphmcaecdaaDoor.Mth
namespace Go.Proofs.YtielnphmcaecdaaDoor.Mth
open Go.Proofs.YtielnphmcaecdaaDoor.PAll
set_option linter.unusedVariables false
theorem dirs_shift (d : Nat) : ∀ (m i b e : Nat), e - b = m → dirs (i + d) (b + d) (e + d) = dirs i b e := by
  intro m
  induction m using Nat.strongRecOn with
  | _ m ih =>
  intro i b e hm
  by_cases h : e - b ≤ 1
  · rw [dirs_one h, dirs_one (by omega)]
  · have h1 := psplit_lt (n := e - b) (by omega)
    have h2 := psplit_pos (e - b)
    have es : e + d - (b + d) = e - b := by omega
    by_cases hi : i < b + psplit (e - b)
    · rw [dirs_left (by omega) hi, dirs_left (by omega) (by rw [es]; omega), es, ← ih (b + psplit (e - b) - b) (by omega) i b (b + psplit (e - b)) rfl]
      rw [show b + d + psplit (e - b) = b + psplit (e - b) + d by omega]
    · rw [dirs_right (i := i) (b := b) (e := e) (by omega) (by omega), dirs_right (i := i + d) (b := b + d) (e := e + d) (by omega) (by rw [es]; omega), es, ← ih (e - (b + psplit (e - b))) (by omega) i (b + psplit (e - b)) e rfl]
      rw [show b + d + psplit (e - b) = b + psplit (e - b) + d by omega]
def bitsOf (i f : Nat) : List Bool := (List.range f).map fun t => decide (i / 2 ^ t % 2 = 1)
theorem bitsOf_succ (i f : Nat) : bitsOf i (f + 1) = bitsOf i f ++ [decide (i / 2 ^ f % 2 = 1)] := by unfold bitsOf; rw [List.range_succ, List.map_append]; rfl
theorem dirs_pow (κ : Nat) : ∀ (i q : Nat), q * 2 ^ κ ≤ i → i < q * 2 ^ κ + 2 ^ κ → dirs i (q * 2 ^ κ) (q * 2 ^ κ + 2 ^ κ) = bitsOf i κ := by
  induction κ with
  | zero => intro i q h1 h2; rw [dirs_one (by omega)]; rfl
  | succ κ ih =>
    intro i q h1 h2
    have hp := Nat.two_pow_pos κ
    have e : 2 ^ (κ + 1) = 2 ^ κ + 2 ^ κ := by rw [Nat.pow_succ]; omega
    have e2 : q * 2 ^ (κ + 1) = 2 * q * 2 ^ κ := by rw [Nat.pow_succ, Nat.mul_comm (2 ^ κ), ← Nat.mul_assoc, Nat.mul_comm q 2]
    have hs : psplit (q * 2 ^ (κ + 1) + 2 ^ (κ + 1) - q * 2 ^ (κ + 1)) = 2 ^ κ := by rw [Nat.add_sub_cancel_left]; exact psplit_pow κ
    have hd : 2 ≤ q * 2 ^ (κ + 1) + 2 ^ (κ + 1) - q * 2 ^ (κ + 1) := by omega
    rw [bitsOf_succ]
    by_cases hi : i < q * 2 ^ (κ + 1) + 2 ^ κ
    · rw [dirs_left hd (by rw [hs]; exact hi), hs]
      have hq : i / 2 ^ κ = 2 * q := by
        apply Nat.div_eq_of_lt_le
        · omega
        · rw [Nat.succ_mul]; omega
      rw [hq, e2, ih i (2 * q) (by omega) (by omega), decide_eq_false (by omega)]
    · rw [dirs_right hd (by rw [hs]; omega), hs]
      have e3 : (2 * q + 1) * 2 ^ κ = 2 * q * 2 ^ κ + 2 ^ κ := by rw [Nat.add_mul, Nat.one_mul]
      have hq : i / 2 ^ κ = 2 * q + 1 := by
        apply Nat.div_eq_of_lt_le
        · omega
        · rw [Nat.succ_mul]; omega
      have := ih i (2 * q + 1) (by omega) (by omega)
      rw [e3] at this
      rw [hq, e2, e, ← Nat.add_assoc, this, decide_eq_true (by omega)]
theorem dirs_zero (n : Nat) : ∀ i, i < n → dirs i 0 n = bitsOf i (fork i (n - 1)) ++ List.replicate (ones (i / 2 ^ fork i (n - 1))) true := by
  induction n using Nat.strongRecOn with
  | _ n ih =>
  intro i hi
  by_cases h1 : n ≤ 1
  · have e1 : n = 1 := by omega
    have e2 : i = 0 := by omega
    subst e1 e2
    rw [dirs_one (by omega), show (1 - 1 : Nat) = 0 from rfl, fork_self, Nat.pow_zero, Nat.div_one, ones_zero]; rfl
  · obtain ⟨κ, hκ⟩ : ∃ κ, psplit (n - 0) = 2 ^ κ := ⟨_, rfl⟩
    have hp := Nat.two_pow_pos κ
    have hlt := psplit_lt (n := n - 0) (by omega)
    have hle := le_psplit (n := n - 0) (by omega)
    rw [hκ] at hlt hle
    have hpow : 2 ^ (κ + 1) = 2 * 2 ^ κ := by rw [Nat.pow_succ]; omega
    by_cases hi2 : i < 2 ^ κ
    · have hf : fork i (n - 1) = κ + 1 := by
        have a : fork i (n - 1) ≤ κ + 1 := fork_le.2 (by rw [Nat.div_eq_of_lt (by omega), Nat.div_eq_of_lt (by omega)])
        have b : ¬ fork i (n - 1) ≤ κ := fun h => by
          have := fork_le.1 h
          rw [Nat.div_eq_of_lt hi2] at this
          have h3 : 1 ≤ (n - 1) / 2 ^ κ := by rw [Nat.le_div_iff_mul_le hp]; omega
          omega
        omega
      have hd := dirs_pow κ i 0 (by omega) (by omega)
      rw [Nat.zero_mul] at hd
      rw [dirs_left (by omega) (by rw [hκ]; omega), hκ, hf, Nat.div_eq_of_lt (by omega), ones_zero, hd, bitsOf_succ, Nat.div_eq_of_lt hi2, decide_eq_false (by omega)]
      simp
    · obtain ⟨j, rfl⟩ : ∃ j, i = j + 2 ^ κ := ⟨i - 2 ^ κ, by omega⟩
      obtain ⟨m, rfl⟩ : ∃ m, n = m + 2 ^ κ := ⟨n - 2 ^ κ, by omega⟩
      have e0 := dirs_shift (2 ^ κ) _ j 0 m rfl
      rw [dirs_right (by omega) (by rw [hκ]; omega), hκ, e0, ih m (by omega) j (by omega)]
      have hf1 : fork j (m - 1) ≤ κ := fork_le.2 (by rw [Nat.div_eq_of_lt (by omega), Nat.div_eq_of_lt (by omega)])
      have hf : fork (j + 2 ^ κ) (m + 2 ^ κ - 1) = fork j (m - 1) := by
        have e1 : m + 2 ^ κ - 1 = 2 ^ κ + (m - 1) := by omega
        have hi : ∀ x, x ≤ κ → (fork (j + 2 ^ κ) (m + 2 ^ κ - 1) ≤ x ↔ fork j (m - 1) ≤ x) := by
          intro x hx
          rw [fork_le, fork_le, e1, Nat.add_comm j, div_top hx, div_top hx]; omega
        have a := (hi _ hf1).2 (Nat.le_refl _)
        have b := (hi _ (Nat.le_trans a hf1)).1 (Nat.le_refl _)
        omega
      have hlt2 : j / 2 ^ fork j (m - 1) < 2 ^ (κ - fork j (m - 1)) := by
        rw [Nat.div_lt_iff_lt_mul (Nat.two_pow_pos _), ← Nat.pow_add, show κ - fork j (m - 1) + fork j (m - 1) = κ by omega]; omega
      have hb : bitsOf (j + 2 ^ κ) (fork j (m - 1)) = bitsOf j (fork j (m - 1)) := by
        unfold bitsOf
        apply List.map_congr_left
        intro t ht
        have ht := List.mem_range.1 ht
        have hev : 2 ^ (κ - t) % 2 = 0 := Nat.mod_eq_zero_of_dvd ⟨2 ^ (κ - t - 1), by rw [← Nat.pow_succ']; congr 1; omega⟩
        have e5 : (j + 2 ^ κ) / 2 ^ t = 2 ^ (κ - t) + j / 2 ^ t := by rw [Nat.add_comm j, div_top (by omega)]
        rw [e5]
        congr 1
        apply propext
        omega
      rw [hf, hb, Nat.add_comm j (2 ^ κ), div_top hf1, ones_top_add hlt2, List.append_assoc, Nat.add_comm 1, List.replicate_succ']
end Go.Proofs.YtielnphmcaecdaaDoor.Mth
namespace Go.Proofs.YtielnphmcaecdaaDoor.Mth
open Go.Proofs.YtielnphmcaecdaaDoor.PAll
set_option linter.unusedVariables false
theorem chn_fd (R H : List Int → List Int → List Int) (idx : Nat) : ∀ (xs : List (List Int)) (i : Nat) (s : List Int), chn R H idx xs i s = fd R H ((List.range xs.length).map fun t => decide (idx / 2 ^ (i + t) % 2 = 1)) xs s
  | [], _, _ => rfl
  | x :: xs, i, s => by
    rw [chn, chn_fd R H idx xs (i + 1), List.length_cons, List.range_succ_eq_map, List.map_cons, List.map_map]
    have e : (if decide (idx / 2 ^ (i + 0) % 2 = 1) = true then H x s else R s x) = (if idx / 2 ^ i % 2 = 0 then R s x else H x s) := by
      rw [Nat.add_zero]
      by_cases h : idx / 2 ^ i % 2 = 0
      · rw [if_pos h, if_neg (by rw [decide_eq_false (by omega)]; decide)]
      · rw [if_neg h, if_pos (decide_eq_true (by omega))]
    have e2 : (List.range xs.length).map (fun t => decide (idx / 2 ^ (i + 1 + t) % 2 = 1)) = (List.range xs.length).map ((fun t => decide (idx / 2 ^ (i + t) % 2 = 1)) ∘ Nat.succ) := by
      apply List.map_congr_left
      intro t _
      show _ = decide (idx / 2 ^ (i + (t + 1)) % 2 = 1)
      rw [show i + 1 + t = i + (t + 1) by omega]
    rw [e2]
    show _ = fd R H _ xs (if decide (idx / 2 ^ (i + 0) % 2 = 1) = true then H x s else R s x)
    rw [e]
theorem bord_fd (R H : List Int → List Int → List Int) : ∀ (xs : List (List Int)) (s : List Int), bord H xs s = fd R H (List.replicate xs.length true) xs s
  | [], _ => rfl
  | x :: xs, s => by
    rw [bord, bord_fd R H xs]; rfl
theorem prog_fd (R H : List Int → List Int → List Int) {i n l : Nat} (hi : i < n) (hl : l ≤ fork i (n - 1)) (ys : List (List Int)) (hy : ys.length = fork i (n - 1) - l + ones (i / 2 ^ fork i (n - 1))) (s : List Int) :
    bord H (ys.drop (fork i (n - 1) - l)) (chn R H (i / 2 ^ l) (ys.take (fork i (n - 1) - l)) 0 s) = fd R H ((dirs i 0 n).drop l) ys s := by
  have hlt : (ys.take (fork i (n - 1) - l)).length = fork i (n - 1) - l := by rw [List.length_take]; omega
  have hld : (ys.drop (fork i (n - 1) - l)).length = ones (i / 2 ^ fork i (n - 1)) := by rw [List.length_drop]; omega
  rw [bord_fd R H, chn_fd, hlt, hld, ← fd_append _ _ _ _ _ _ _ (by rw [List.length_map, List.length_range, hlt]), List.take_append_drop, dirs_zero n i hi, drop_snoc _ (by unfold bitsOf; rw [List.length_map, List.length_range]; exact hl)]
  have e : ((List.range (fork i (n - 1))).map fun t => decide (i / 2 ^ t % 2 = 1)).drop l = (List.range (fork i (n - 1) - l)).map fun t => decide (i / 2 ^ l / 2 ^ (0 + t) % 2 = 1) := by
    apply List.ext_getElem
    · rw [List.length_drop, List.length_map, List.length_map, List.length_range, List.length_range]
    · intro t h1 h2
      rw [List.getElem_drop, List.getElem_map, List.getElem_map, List.getElem_range, List.getElem_range, Nat.zero_add, Nat.div_div_eq_div_mul, ← Nat.pow_add]
  unfold bitsOf
  rw [e]
theorem fd_le {H : List Int → List Int → List Int} (hH : ∀ l r, (H l r).length ≤ 9 + l.length + r.length) (m : Nat) : ∀ (ds : List Bool) (xs : List (List Int)) (s : List Int), (∀ x ∈ xs, x.length ≤ m) → (fd H H ds xs s).length ≤ s.length + (m + 9) * xs.length
  | [], xs, s, _ => by show s.length ≤ _; omega
  | _ :: _, [], s, _ => by show s.length ≤ _; omega
  | d :: ds, x :: xs, s, h => by
    have h1 := fd_le hH m ds xs (if d then H x s else H s x) (fun y hy => h y (List.mem_cons_of_mem _ hy))
    have h2 := h x (List.mem_cons_self ..)
    have h3 : (if d then H x s else H s x).length ≤ 9 + x.length + s.length := by
      split
      · exact hH x s
      · have := hH s x; omega
    show (fd H H ds xs (if d then H x s else H s x)).length ≤ _
    rw [List.length_cons, Nat.mul_add, Nat.mul_one]
    omega
def Tells (H : List Int → List Int → List Int) : Prop := ∀ a b c d : List Int, a.length ≤ 1000000000 → c.length ≤ 1000000000 → H a b = H c d → a = c ∧ b = d
theorem fd_inj {H : List Int → List Int → List Int} (hH : ∀ l r, (H l r).length ≤ 9 + l.length + r.length) (hT : Tells H) (m : Nat) : ∀ (ds : List Bool) (xs ys : List (List Int)) (s t : List Int), xs.length = ds.length → ys.length = ds.length →
    (∀ x ∈ xs, x.length ≤ m) → (∀ y ∈ ys, y.length ≤ m) → m ≤ 1000000000 → s.length + (m + 9) * xs.length ≤ 1000000000 → t.length + (m + 9) * ys.length ≤ 1000000000 → fd H H ds xs s = fd H H ds ys t → xs = ys ∧ s = t
  | [], [], [], s, t, _, _, _, _, _, _, _, h => ⟨rfl, h⟩
  | [], _ :: _, _, _, _, h, _, _, _, _, _, _, _ => by cases h
  | [], [], _ :: _, _, _, _, h, _, _, _, _, _, _ => by cases h
  | _ :: _, [], _, _, _, h, _, _, _, _, _, _, _ => by cases h
  | _ :: _, _ :: _, [], _, _, _, h, _, _, _, _, _, _ => by cases h
  | d :: ds, x :: xs, y :: ys, s, t, h1, h2, h3, h4, h5, h6, h7, h => by
    rw [List.length_cons, Nat.mul_add, Nat.mul_one] at h6 h7
    have b1 := h3 x (List.mem_cons_self ..)
    have b2 := h4 y (List.mem_cons_self ..)
    have q : ∀ (x s : List Int), x.length ≤ m → (if d = true then H x s else H s x).length ≤ 9 + m + s.length := by
      intro x s hx
      split
      · have := hH x s; omega
      · have := hH s x; omega
    have q1 := q x s b1
    have q2 := q y t b2
    obtain ⟨e1, e2⟩ := fd_inj hH hT m ds xs ys (if d then H x s else H s x) (if d then H y t else H t y) (Nat.succ.inj h1) (Nat.succ.inj h2) (fun z hz => h3 z (List.mem_cons_of_mem _ hz)) (fun z hz => h4 z (List.mem_cons_of_mem _ hz)) h5 (by omega) (by omega) h
    cases d with
    | true =>
      obtain ⟨e3, e4⟩ := hT x s y t (by omega) (by omega) e2
      rw [e1, e3, e4]; exact ⟨rfl, rfl⟩
    | false =>
      obtain ⟨e3, e4⟩ := hT s x t y (by omega) (by omega) e2
      rw [e1, e3, e4]; exact ⟨rfl, rfl⟩
end Go.Proofs.YtielnphmcaecdaaDoor.Mth
namespace Go.Proofs.YtielnphmcaecdaaDoor.Mth
def seg (L : List (List Int)) (b e : Nat) : List (List Int) := (L.take e).drop b
theorem seg_length {L : List (List Int)} {b e : Nat} (h : e ≤ L.length) : (seg L b e).length = e - b := by
  unfold seg; rw [List.length_drop, List.length_take]; omega
theorem seg_take {L : List (List Int)} {b e k : Nat} (h : b + k ≤ e) : (seg L b e).take k = seg L b (b + k) := by
  unfold seg
  rw [List.take_drop, List.take_take, Nat.min_eq_left h]
theorem seg_drop {L : List (List Int)} {b e k : Nat} : (seg L b e).drop k = seg L (b + k) e := by
  unfold seg
  rw [List.drop_drop]
theorem seg_one {L : List (List Int)} {b : Nat} (h : b < L.length) : seg L b (b + 1) = [L[b]] := by
  unfold seg
  rw [List.drop_take, Nat.add_sub_cancel_left, List.drop_eq_getElem_cons h]; rfl
theorem seg_zero (L : List (List Int)) (e : Nat) : seg L 0 e = L.take e := by unfold seg; rw [List.drop_zero]
theorem seg_bound {L : List (List Int)} {b e m : Nat} (h : ∀ x ∈ L, x.length ≤ m) : ∀ x ∈ seg L b e, x.length ≤ m := fun x hx => h x (List.mem_of_mem_take (List.mem_of_mem_drop hx))
def mth (H : List Int → List Int → List Int) (E : List Int) (L : List (List Int)) : List Int :=
  if _h : L.length ≤ 1 then L.headD E else H (mth H E (L.take (psplit L.length))) (mth H E (L.drop (psplit L.length)))
termination_by L.length
decreasing_by
  · have := psplit_lt (n := L.length) (by omega); rw [List.length_take]; omega
  · have := psplit_pos L.length; rw [List.length_drop]; omega
theorem mth_one (H : List Int → List Int → List Int) (E x : List Int) : mth H E [x] = x := by rw [mth, dif_pos (by simp)]; rfl
theorem mth_nil (H : List Int → List Int → List Int) (E : List Int) : mth H E [] = E := by rw [mth, dif_pos (by simp)]; rfl
theorem mth_split (H : List Int → List Int → List Int) (E : List Int) {L : List (List Int)} (h : 2 ≤ L.length) : mth H E L = H (mth H E (L.take (psplit L.length))) (mth H E (L.drop (psplit L.length))) := by
  rw [mth, dif_neg (by omega)]
theorem mth_seg (H : List Int → List Int → List Int) (E : List Int) {L : List (List Int)} {b e : Nat} (he : e ≤ L.length) (h : 2 ≤ e - b) : mth H E (seg L b e) = H (mth H E (seg L b (b + psplit (e - b)))) (mth H E (seg L (b + psplit (e - b)) e)) := by
  have hl := seg_length (b := b) he
  have hp := psplit_lt h
  rw [mth_split H E (by omega), hl, seg_take (by omega), seg_drop]
def Grows (H : List Int → List Int → List Int) : Prop := ∀ l r, (H l r).length ≤ 9 + l.length + r.length
theorem mth_length {H : List Int → List Int → List Int} (hH : Grows H) (E : List Int) (m : Nat) : ∀ (n : Nat) (L : List (List Int)), L.length = n → 0 < n → (∀ x ∈ L, x.length ≤ m) → (mth H E L).length + 9 ≤ (m + 9) * n := by
  intro n
  induction n using Nat.strongRecOn with
  | _ n ih =>
  intro L hL hn hm
  by_cases h1 : n = 1
  · obtain ⟨x, rfl⟩ : ∃ x, L = [x] := by
      match L, hL with
      | [x], _ => exact ⟨x, rfl⟩
      | [], h => simp at h; omega
      | _ :: _ :: _, h => simp at h; omega
    rw [mth_one, h1]
    have := hm x (by simp)
    omega
  · have h2 : 2 ≤ L.length := by omega
    have hp := psplit_lt h2
    have hp0 := psplit_pos L.length
    have i1 := ih (psplit L.length) (by omega) (L.take (psplit L.length)) (by rw [List.length_take]; omega) hp0 (fun x hx => hm x (List.mem_of_mem_take hx))
    have i2 := ih (L.length - psplit L.length) (by omega) (L.drop (psplit L.length)) (by rw [List.length_drop]) (by omega) (fun x hx => hm x (List.mem_of_mem_drop hx))
    have hh := hH (mth H E (L.take (psplit L.length))) (mth H E (L.drop (psplit L.length)))
    rw [mth_split H E h2]
    have e : (m + 9) * n = (m + 9) * psplit L.length + (m + 9) * (L.length - psplit L.length) := by rw [← Nat.mul_add]; congr 1; omega
    omega
theorem mth_perfect (H : List Int → List Int → List Int) (E : List Int) {L : List (List Int)} {i j : Nat} (h : (j + 1) * 2 ^ (i + 1) ≤ L.length) :
    mth H E (seg L (j * 2 ^ (i + 1)) ((j + 1) * 2 ^ (i + 1))) = H (mth H E (seg L (2 * j * 2 ^ i) ((2 * j + 1) * 2 ^ i))) (mth H E (seg L ((2 * j + 1) * 2 ^ i) ((2 * j + 1 + 1) * 2 ^ i))) := by
  have hp := Nat.two_pow_pos i
  have e1 : j * 2 ^ (i + 1) = 2 * j * 2 ^ i := by rw [Nat.pow_succ]; ac_rfl
  have e2 : (2 * j + 1) * 2 ^ i = 2 * j * 2 ^ i + 2 ^ i := by rw [Nat.add_mul, Nat.one_mul]
  have e3 : (j + 1) * 2 ^ (i + 1) = (2 * j + 1 + 1) * 2 ^ i := by rw [show 2 * j + 1 + 1 = 2 * (j + 1) by omega, Nat.pow_succ]; ac_rfl
  have e4 : (2 * j + 1 + 1) * 2 ^ i = 2 * j * 2 ^ i + 2 ^ i + 2 ^ i := by rw [Nat.add_mul, e2, Nat.one_mul]
  have e5 : (j + 1) * 2 ^ (i + 1) - j * 2 ^ (i + 1) = 2 ^ (i + 1) := by rw [e1, e3, e4, Nat.pow_succ]; omega
  rw [mth_seg H E h (by rw [e5, Nat.pow_succ]; omega), e5, psplit_pow, e1, ← e2, e3]
theorem Nds_in (e : Nat) : ∀ (d b : Nat), e - b = d → ∀ p ∈ Nds 0 b e, b ≤ p.2 * 2 ^ p.1 ∧ (p.2 + 1) * 2 ^ p.1 ≤ e := by
  intro d
  induction d using Nat.strongRecOn with
  | _ d ih =>
  intro b hd p hp
  by_cases h : b < e
  · obtain ⟨s1, s2, _⟩ := lev_spec b e h
    have hpos := Nat.two_pow_pos (lev b e)
    rw [Nds_step 0 b e h, Nat.zero_add] at hp
    rcases List.mem_cons.mp hp with rfl | hp
    · have := Nat.div_add_mod b (2 ^ lev b e)
      rw [s1, Nat.add_zero] at this
      show b ≤ b / 2 ^ lev b e * 2 ^ lev b e ∧ (b / 2 ^ lev b e + 1) * 2 ^ lev b e ≤ e
      rw [Nat.add_mul, Nat.mul_comm (b / _), this]; omega
    · have := ih (e - (b + 2 ^ lev b e)) (by omega) (b + 2 ^ lev b e) rfl p hp
      omega
  · rw [Nds_empty (by omega)] at hp
    cases hp
def foldR (H : List Int → List Int → List Int) (E : List Int) : List (List Int) → List Int
  | [] => E
  | [x] => x
  | x :: y :: l => H x (foldR H E (y :: l))
theorem foldR_step {H : List Int → List Int → List Int} {E x : List Int} {l : List (List Int)} (h : l ≠ []) : foldR H E (x :: l) = H x (foldR H E l) := by
  cases l with
  | nil => exact absurd rfl h
  | cons y l => rfl
def nodeH (H : List Int → List Int → List Int) (E : List Int) (L : List (List Int)) (p : Nat × Nat) : List Int := mth H E (seg L (p.2 * 2 ^ p.1) ((p.2 + 1) * 2 ^ p.1))
theorem lev_is' {b e κ : Nat} (h : b < e) (h1 : b % 2 ^ κ = 0) (h2 : b + 2 ^ κ ≤ e) (h3 : e < b + 2 ^ (κ + 1)) : lev b e = κ := by
  obtain ⟨s1, s2, s3⟩ := lev_spec b e h
  rcases Nat.lt_trichotomy (lev b e) κ with hl | hl | hl
  · have hd : 2 ^ (lev b e + 1) ∣ b := Nat.dvd_trans (Nat.pow_dvd_pow 2 hl) (Nat.dvd_of_mod_eq_zero h1)
    have := s3 (Nat.mod_eq_zero_of_dvd hd)
    have := Nat.pow_le_pow_right (n := 2) (by decide) (show lev b e + 1 ≤ κ from hl)
    omega
  · exact hl
  · have := Nat.pow_le_pow_right (n := 2) (by decide) (show κ + 1 ≤ lev b e from hl)
    omega
theorem fold_nodes (H : List Int → List Int → List Int) (E : List Int) (L : List (List Int)) (n : Nat) (hn : n ≤ L.length) : ∀ (d M B : Nat), n - B = d → B % 2 ^ M = 0 → n ≤ B + 2 ^ M → B < n → foldR H E ((Nds 0 B n).map (nodeH H E L)) = mth H E (seg L B n) := by
  intro d
  induction d using Nat.strongRecOn with
  | _ d ih =>
  intro M B hd hB hM hBn
  have hnode : ∀ κ, B % 2 ^ κ = 0 → lev B n = κ → Nds 0 B n = (κ, B / 2 ^ κ) :: Nds 0 (B + 2 ^ κ) n ∧ nodeH H E L (κ, B / 2 ^ κ) = mth H E (seg L B (B + 2 ^ κ)) := by
    intro κ h1 h2
    refine ⟨by have := Nds_step 0 B n hBn; rw [h2, Nat.zero_add] at this; exact this, ?_⟩
    have := Nat.div_add_mod B (2 ^ κ)
    rw [h1, Nat.add_zero] at this
    show mth H E (seg L (B / 2 ^ κ * 2 ^ κ) ((B / 2 ^ κ + 1) * 2 ^ κ)) = _
    rw [Nat.add_mul, Nat.one_mul, Nat.mul_comm (B / _), this]
  by_cases hfull : n = B + 2 ^ M
  · obtain ⟨e1, e2⟩ := hnode M hB (lev_is' hBn hB (by omega) (by have := Nat.two_pow_pos M; rw [Nat.pow_succ]; omega))
    rw [e1, Nds_empty (by omega), List.map_cons, List.map_nil, foldR, e2, hfull]
  · by_cases h1 : n - B = 1
    · have hB0 : B % 2 ^ 0 = 0 := by rw [Nat.pow_zero, Nat.mod_one]
      have hM1 : 0 < M := by
        rcases Nat.eq_zero_or_pos M with h | h
        · subst h; rw [Nat.pow_zero] at hfull; omega
        · exact h
      obtain ⟨e1, e2⟩ := hnode 0 hB0 (lev_is' hBn hB0 (by rw [Nat.pow_zero]; omega) (by rw [Nat.zero_add, Nat.pow_one]; omega))
      rw [e1, Nds_empty (by rw [Nat.pow_zero]; omega), List.map_cons, List.map_nil, foldR, e2, Nat.pow_zero, show B + 1 = n by omega]
    · have h2 : 2 ≤ n - B := by omega
      obtain ⟨κ, hκ⟩ : ∃ κ, psplit (n - B) = 2 ^ κ := ⟨_, rfl⟩
      have hp := Nat.two_pow_pos κ
      have hlt := psplit_lt h2
      have hle := le_psplit h2
      rw [hκ] at hlt hle
      have hpow : 2 ^ (κ + 1) = 2 * 2 ^ κ := by rw [Nat.pow_succ]; omega
      have hκM : κ < M := by
        apply Nat.lt_of_not_le
        intro h
        have := Nat.pow_le_pow_right (n := 2) (by decide) h
        omega
      have hd1 : 2 ^ (κ + 1) ∣ B := Nat.dvd_trans (Nat.pow_dvd_pow 2 hκM) (Nat.dvd_of_mod_eq_zero hB)
      have hd0 : 2 ^ κ ∣ B := Nat.dvd_trans (Nat.pow_dvd_pow 2 (by omega)) hd1
      by_cases hperf : n = B + 2 ^ (κ + 1)
      · obtain ⟨e1, e2⟩ := hnode (κ + 1) (Nat.mod_eq_zero_of_dvd hd1) (lev_is' hBn (Nat.mod_eq_zero_of_dvd hd1) (by omega) (by rw [Nat.pow_succ 2 (κ + 1)]; omega))
        rw [e1, Nds_empty (by omega), List.map_cons, List.map_nil, foldR, e2, ← hperf]
      · obtain ⟨e1, e2⟩ := hnode κ (Nat.mod_eq_zero_of_dvd hd0) (lev_is' hBn (Nat.mod_eq_zero_of_dvd hd0) (by omega) (by omega))
        have i1 := ih (n - (B + 2 ^ κ)) (by omega) κ (B + 2 ^ κ) rfl (by rw [Nat.add_mod_right]; exact Nat.mod_eq_zero_of_dvd hd0) (by omega) (by omega)
        rw [e1, List.map_cons, foldR_step (by
          intro h
          have h3 := congrArg List.length h
          rw [List.length_map] at h3
          have := Nds_nonempty (l := 0) (b := B + 2 ^ κ) (e := n) (by omega)
          rw [h3] at this
          exact absurd this (Nat.lt_irrefl 0)), i1, e2, mth_seg H E hn h2, hκ]
end Go.Proofs.YtielnphmcaecdaaDoor.Mth
namespace Go.Proofs.YtielnphmcaecdaaDoor.Hsh
open Go.RowKit Go.Proofs.YtielnphmcaecdaaDoor.Num Go.Proofs.YtielnphmcaecdaaDoor.Mth Go.Proofs.YtielnphmcaecdaaDoor.PAll Go.Proofs.YtielnphmcaecdaaDoorW.PrintWords Go.Proofs.YtielnphmcaecdaaDoorW.PrintLast
set_option linter.unusedVariables false
def empt (a0 a2 a3 : Int) : List Int := if a0 = 1 then wrd a3 (nb a2) else [2]
theorem hash_grows (a0 a2 a5 : Int) : Grows (hash a0 a2 a5) := hash_le a0 a2 a5
theorem impl_empty (a0 a1 a2 a3 a4 a5 : Int) {k : Nat} (hk : 20 ≤ k) : impl_toy_EmptyRoot.f k a0 a1 a2 a3 a4 a5 = some (empt a0 a2 a3) := by
  unfold impl_toy_EmptyRoot.f empt
  by_cases h : a0 = 1
  · rw [if_pos h, if_pos h, impl_word_eq _ _ hk, Option.bind_some]
  · rw [if_neg h, if_neg h]
theorem spec_empty (a0 a1 a2 a3 a4 a5 : Int) {k : Nat} (hk : 30 ≤ k) : spec_EmptyRoot.f k a0 a1 a2 a3 a4 a5 = some (empt a0 a2 a3) := by
  unfold spec_EmptyRoot.f spec_Terms.f empt
  rw [Option.bind_some]
  by_cases h : a0 = 1
  · rw [if_neg (by subst h; decide), if_pos h, spec_word_eq a0 a1 a2 a3 a4 a5 a3 [] (by simp) (by simp only [List.length_nil]; omega)]; rfl
  · rw [if_pos (by exact bne_iff_ne.mpr h), if_neg h]
theorem mem_bound {l : List (List Int)} {m : Nat} (h : ∀ j, j < l.length → (l.getD j []).length ≤ m) : ∀ x ∈ l, x.length ≤ m := by
  intro x hx
  obtain ⟨i, hi⟩ := List.getElem?_of_mem hx
  have := h i (List.getElem?_eq_some_iff.1 hi).1
  rw [List.getD_eq_getElem?_getD, hi] at this
  exact this
theorem spec_Root.eq (a0 a1 a2 a3 a4 a5 : Int) : ∀ (n : Nat) (L : List (List Int)), L.length = n → n ≤ 300 → (∀ x ∈ L, x.length ≤ 5000) → ∀ K, 10000000 + n ≤ K →
    spec_Root.f K a0 a1 a2 a3 a4 a5 L = some (mth (hash a0 a2 a5) (empt a0 a2 a3) L) := by
  intro n
  induction n using Nat.strongRecOn with
  | _ n ih =>
  intro L hL hn hm K hK
  obtain ⟨K, rfl⟩ : ∃ k, K = k + 1 := ⟨K - 1, by omega⟩
  rw [spec_Root.f]
  match L, hL with
  | [], hL =>
    rw [if_pos (show ((([] : List (List Int)).length : Nat) : Int) = 0 from rfl), spec_empty _ _ _ _ _ _ (by omega), Option.bind_some, mth_nil]
  | [x], hL =>
    rw [if_neg (by simp), if_pos (show ((([x] : List (List Int)).length : Nat) : Int) = 1 from rfl), if_pos (by simp), mth_one]; rfl
  | x :: y :: l, hL =>
    generalize hLL : x :: y :: l = L at *
    have h2 : 2 ≤ L.length := by rw [← hLL]; simp
    have hp := psplit_lt h2
    have hp0 := psplit_pos L.length
    have hw : IntKind.u64.wrap (L.length : Int) = (L.length : Int) := u64in (by omega)
    have t1 : (L.take (psplit L.length)).length = psplit L.length := by rw [List.length_take]; omega
    have t2 : (L.drop (psplit L.length)).length = L.length - psplit L.length := by rw [List.length_drop]
    have b1 : ∀ x ∈ L.take (psplit L.length), x.length ≤ 5000 := fun x hx => hm x (List.mem_of_mem_take hx)
    have b2 : ∀ x ∈ L.drop (psplit L.length), x.length ≤ 5000 := fun x hx => hm x (List.mem_of_mem_drop hx)
    have m1 := mth_length (hash_grows a0 a2 a5) (empt a0 a2 a3) 5000 _ _ t1 hp0 b1
    have m2 := mth_length (hash_grows a0 a2 a5) (empt a0 a2 a3) 5000 _ _ t2 (by omega) b2
    have m3 : (5000 + 9) * psplit L.length ≤ 5009 * 300 := Nat.mul_le_mul_left _ (by omega)
    have m4 : (5000 + 9) * (L.length - psplit L.length) ≤ 5009 * 300 := Nat.mul_le_mul_left _ (by omega)
    rw [if_neg (by omega), if_neg (by omega), hw, spec_split.eq L.length h2 (by omega) K (by omega), Option.bind_some, if_pos (by omega), if_pos (by omega), Int.toNat_natCast,
      ih (psplit L.length) (by omega) _ t1 (by omega) b1 K (by omega), Option.bind_some, ih (L.length - psplit L.length) (by omega) _ t2 (by omega) b2 K (by omega), Option.bind_some,
      spec_hash _ _ _ _ _ _ _ _ (by omega) (by omega) (by omega), Option.bind_some, mth_split _ _ h2]
theorem node_eq (a0 a1 a2 a3 a4 a5 : Int) (L : List (List Int)) (hn : L.length ≤ 300) (hm : ∀ x ∈ L, x.length ≤ 5000) (K : Nat) (hK : 10000000 ≤ K) : ∀ (i j : Nat), (j + 1) * 2 ^ i ≤ L.length →
    node_ (impl_toy_HashChildren.f K a0 a1 a2 a3 a4 a5) L i j = some (nodeH (hash a0 a2 a5) (empt a0 a2 a3) L (i, j)) := by
  intro i
  induction i with
  | zero =>
    intro j hj
    rw [Nat.pow_zero, Nat.mul_one] at hj
    rw [node_, List.getElem?_eq_getElem (by omega)]
    show _ = some (mth _ _ (seg L (j * 2 ^ 0) ((j + 1) * 2 ^ 0)))
    rw [Nat.pow_zero, Nat.mul_one, Nat.mul_one, seg_one (by omega), mth_one]
  | succ i ih =>
    intro j hj
    have hp := Nat.two_pow_pos i
    have e3 : (j + 1) * 2 ^ (i + 1) = (2 * j + 1 + 1) * 2 ^ i := by rw [show 2 * j + 1 + 1 = 2 * (j + 1) by omega, Nat.pow_succ]; ac_rfl
    have e4 : (2 * j + 1 + 1) * 2 ^ i = (2 * j + 1) * 2 ^ i + 2 ^ i := by rw [Nat.add_mul (2 * j + 1), Nat.one_mul]
    have e5 : (2 * j + 1) * 2 ^ i = 2 * j * 2 ^ i + 2 ^ i := by rw [Nat.add_mul, Nat.one_mul]
    have l1 : (seg L (2 * j * 2 ^ i) ((2 * j + 1) * 2 ^ i)).length = 2 ^ i := by rw [seg_length (by omega)]; omega
    have l2 : (seg L ((2 * j + 1) * 2 ^ i) ((2 * j + 1 + 1) * 2 ^ i)).length = 2 ^ i := by rw [seg_length (by omega)]; omega
    have m1 := mth_length (hash_grows a0 a2 a5) (empt a0 a2 a3) 5000 _ _ l1 hp (seg_bound hm)
    have m2 := mth_length (hash_grows a0 a2 a5) (empt a0 a2 a3) 5000 _ _ l2 hp (seg_bound hm)
    have m3 : (5000 + 9) * 2 ^ i ≤ 5009 * 300 := Nat.mul_le_mul_left _ (by omega)
    rw [node_, ih (2 * j) (by omega), Option.bind_some, ih (2 * j + 1) (by omega), Option.bind_some]
    show impl_toy_HashChildren.f K a0 a1 a2 a3 a4 a5 (mth _ _ (seg L (2 * j * 2 ^ i) ((2 * j + 1) * 2 ^ i))) (mth _ _ (seg L ((2 * j + 1) * 2 ^ i) ((2 * j + 1 + 1) * 2 ^ i))) = some (mth _ _ (seg L (j * 2 ^ (i + 1)) ((j + 1) * 2 ^ (i + 1))))
    rw [impl_hash _ _ _ _ _ _ _ _ (by omega) (by omega) (by omega), mth_perfect _ _ hj]
theorem nodeV_eq (a0 a1 a2 a3 a4 a5 : Int) (L : List (List Int)) (hn : L.length ≤ 300) (hm : ∀ x ∈ L, x.length ≤ 5000) (K : Nat) (hK : 10000000 ≤ K) (i j : Nat) (h : (j + 1) * 2 ^ i ≤ L.length) :
    nodeV (impl_toy_HashChildren.f K a0 a1 a2 a3 a4 a5) L i j = nodeH (hash a0 a2 a5) (empt a0 a2 a3) L (i, j) := by
  unfold nodeV
  rw [node_eq a0 a1 a2 a3 a4 a5 L hn hm K hK i j h]; rfl
theorem allN_true (a0 a1 a2 a3 a4 a5 : Int) (L : List (List Int)) (hn : L.length ≤ 300) (hm : ∀ x ∈ L, x.length ≤ 5000) (K : Nat) (hK : 10000000 ≤ K) : allN (impl_toy_HashChildren.f K a0 a1 a2 a3 a4 a5) L L.length = true :=
  List.all_eq_true.mpr (fun i _ => List.all_eq_true.mpr (fun j hj => by
    have := List.mem_range.mp hj
    rw [node_eq a0 a1 a2 a3 a4 a5 L hn hm K hK i j ((Nat.le_div_iff_mul_le (Nat.two_pow_pos i)).mp (by omega))]; rfl))
theorem idsIn_nodes {n m : Nat} (h : n ≤ m) : idsIn m ((Nds 0 0 n).map cnode) = true := by
  refine List.all_eq_true.mpr (fun id hid => ?_)
  obtain ⟨p, hp, rfl⟩ := List.mem_map.mp hid
  have := (Nds_in n _ 0 rfl p hp).2
  simp only [Bool.and_eq_true, decide_eq_true_eq]
  refine ⟨Int.natCast_nonneg _, Int.natCast_nonneg _, ?_⟩
  show (((p.2 : Int)).toNat + 1) * 2 ^ ((p.1 : Int)).toNat ≤ m
  rw [Int.toNat_natCast, Int.toNat_natCast]; omega
theorem foldR_eq (a0 a1 a2 a3 a4 a5 : Int) (E : List Int) (K : Nat) : ∀ (l : List (List Int)) (b : Nat), l ≠ [] → (l.map List.length).sum + 9 * l.length ≤ b → b ≤ 1000000000 → 2000000100 ≤ K → foldR_ (impl_toy_HashChildren.f K a0 a1 a2 a3 a4 a5) l = some (foldR (hash a0 a2 a5) E l) ∧ (foldR (hash a0 a2 a5) E l).length ≤ b
  | [], _, h, _, _, _ => absurd rfl h
  | [x], b, _, hb, _, _ => ⟨rfl, by simp at hb; show x.length ≤ b; omega⟩
  | x :: y :: l, b, _, hb, hbb, hK => by
    have hb' : x.length + 9 + (((y :: l).map List.length).sum + 9 * (y :: l).length) ≤ b := by
      rw [List.map_cons, List.sum_cons, List.length_cons] at hb; omega
    obtain ⟨h1, h2⟩ := foldR_eq a0 a1 a2 a3 a4 a5 E K (y :: l) (b - x.length - 9) (by simp) (by omega) (by omega) hK
    have h3 := hash_le a0 a2 a5 x (foldR (hash a0 a2 a5) E (y :: l))
    rw [foldR_, h1, Option.bind_some, impl_hash _ _ _ _ _ _ _ _ (by omega) (by omega) (by omega)]
    exact ⟨rfl, by show (hash a0 a2 a5 x (foldR (hash a0 a2 a5) E (y :: l))).length ≤ b; omega⟩
theorem sum_le (m : Nat) : ∀ (l : List (List Int)), (∀ x ∈ l, x.length ≤ m) → (l.map List.length).sum ≤ m * l.length
  | [], _ => by simp
  | x :: l, h => by
    have h1 := sum_le m l (fun y hy => h y (List.mem_cons_of_mem _ hy))
    have h2 := h x List.mem_cons_self
    rw [List.map_cons, List.sum_cons, List.length_cons, Nat.mul_succ]; omega
theorem impl_TreeRoot.eq (a0 a1 a2 a3 a4 a5 : Int) (L : List (List Int)) (hn : L.length ≤ 300) (hm : ∀ x ∈ L, x.length ≤ 5000) (n : Nat) (hnL : n ≤ L.length) (K : Nat) (hK : 3000000000 ≤ K) :
    impl_TreeRoot.f (K + 1) a0 a1 a2 a3 a4 a5 L (n : Int) = some (mth (hash a0 a2 a5) (empt a0 a2 a3) (L.take n), true) := by
  have hw : IntKind.u64.wrap (L.length : Int) = (L.length : Int) := u64in (by omega)
  unfold impl_TreeRoot.f
  rw [hw, if_neg (by omega), if_pos (by omega), texts_eq L (by omega) (fun j hj => by
    have := hm (L.getD j []) (by rw [List.getD_eq_getElem?_getD, List.getElem?_eq_getElem hj]; exact List.getElem_mem hj)
    omega) (by omega), Option.bind_some, if_pos ⟨by omega, allN_true a0 a1 a2 a3 a4 a5 L hn hm (K + 1) (by omega)⟩]
  rcases Nat.eq_zero_or_pos n with h0 | h0
  · subst h0
    rw [if_pos (show ((0 : Nat) : Int) = 0 from rfl), impl_empty _ _ _ _ _ _ (by omega), Option.bind_some, List.take_zero, mth_nil]
  · have hlen := Nds_len 0 0 n 64 (by omega)
    rw [if_neg (by omega), show (0 : Int) = ((0 : Nat) : Int) from rfl, compact_RangeNodes.eq 0 n (by omega) (by omega) [] (by simp) (K + 1) (by omega), Option.bind_some, List.nil_append, if_pos ⟨by rw [List.length_map]; omega, idsIn_nodes hnL⟩, List.map_map]
    have e : (Nds 0 0 n).map ((fun id : S99 => nodeV (impl_toy_HashChildren.f (K + 1) a0 a1 a2 a3 a4 a5) L id.f0.toNat id.f1.toNat) ∘ cnode) = (Nds 0 0 n).map (nodeH (hash a0 a2 a5) (empt a0 a2 a3) L) := by
      refine List.map_congr_left (fun p hp => ?_)
      have h1 := (Nds_in n _ 0 rfl p hp).2
      show nodeV _ L ((p.1 : Int)).toNat ((p.2 : Int)).toNat = _
      rw [Int.toNat_natCast, Int.toNat_natCast]
      exact nodeV_eq a0 a1 a2 a3 a4 a5 L hn hm (K + 1) (by omega) p.1 p.2 (by omega)
    have hne : (Nds 0 0 n).map (nodeH (hash a0 a2 a5) (empt a0 a2 a3) L) ≠ [] := by
      intro h
      have h3 := congrArg List.length h
      rw [List.length_map] at h3
      have := Nds_nonempty (l := 0) (b := 0) (e := n) h0
      rw [h3] at this
      exact absurd this (Nat.lt_irrefl 0)
    have hbd : ∀ x ∈ (Nds 0 0 n).map (nodeH (hash a0 a2 a5) (empt a0 a2 a3) L), x.length ≤ 5009 * 300 := by
      intro x hx
      obtain ⟨p, hp, rfl⟩ := List.mem_map.mp hx
      obtain ⟨_, h1⟩ := Nds_in n _ 0 rfl p hp
      have hpp := Nat.two_pow_pos p.1
      have e1 : (p.2 + 1) * 2 ^ p.1 = p.2 * 2 ^ p.1 + 2 ^ p.1 := by rw [Nat.add_mul, Nat.one_mul]
      have l1 : (seg L (p.2 * 2 ^ p.1) ((p.2 + 1) * 2 ^ p.1)).length = 2 ^ p.1 := by rw [seg_length (by omega)]; omega
      have m1 := mth_length (hash_grows a0 a2 a5) (empt a0 a2 a3) 5000 _ _ l1 hpp (seg_bound hm)
      have m3 : (5000 + 9) * 2 ^ p.1 ≤ 5009 * 300 := Nat.mul_le_mul_left _ (by omega)
      show (mth _ _ _).length ≤ _
      omega
    have hs := sum_le _ _ hbd
    have hl2 : ((Nds 0 0 n).map (nodeH (hash a0 a2 a5) (empt a0 a2 a3) L)).length ≤ 128 := by rw [List.length_map]; omega
    have hs2 : 5009 * 300 * ((Nds 0 0 n).map (nodeH (hash a0 a2 a5) (empt a0 a2 a3) L)).length ≤ 5009 * 300 * 128 := Nat.mul_le_mul_left _ hl2
    have hf := (foldR_eq a0 a1 a2 a3 a4 a5 (empt a0 a2 a3) (K + 1) _ 200000000 hne (by omega) (by omega) (by omega)).1
    rw [e, hf, Option.bind_some, fold_nodes (hash a0 a2 a5) (empt a0 a2 a3) L n hnL _ n 0 rfl (Nat.zero_mod _) (by have := Nat.lt_two_pow_self (n := n); omega) h0, seg_zero]
end Go.Proofs.YtielnphmcaecdaaDoor.Hsh
namespace Go.Proofs.YtielnphmcaecdaaDoor.PAll
open Go.RowKit Go.Proofs.YtielnphmcaecdaaDoorW.PrintWords Go.Proofs.YtielnphmcaecdaaDoorW.PrintLast Go.Proofs.YtielnphmcaecdaaDoorW.PrintMore
attribute [local go_sem] max2_int min2_int max_two min_two max_three min_three max_four min_four   -- for this text's walks alone
set_option linter.unusedVariables false
set_option linter.unusedSimpArgs false
def spec_last.f (a0 : Int) : Option (Int × Int) := some (Go.bits .and .u64 a0 (IntKind.u64.wrap (a0 - 1)), a0)
mutual
def spec_ConsistencyProof.j0 : Nat → Int → Int → Bool → Option ((List (S49)) × Int × Int × Int × Int)
  | 0, _, _, _ => none
  | k + 1, x0, x1, x15 => if x15 = true then (some (([] : List (S49)), 0, 0, 0, 0)) else ((spec_last.f x0).bind fun bt410 => ((spec_ProofParts.f k x0 x1).bind fun t412 => (if bt410.1 > 0 then ((spec_NodeOf.f k bt410.1 bt410.2).bind fun bt416 => (if 1 ≤ (t412.length : Int) then (spec_ConsistencyProof.j1 k x1 (t412.drop (1 : Int).toNat) (([(⟨bt416.1, bt416.2⟩ : S49)] : List (S49))) bt410.1 bt410.2) else (none))) else (spec_ConsistencyProof.j1 k x1 t412 ([] : List (S49)) bt410.1 bt410.2))))
def spec_ConsistencyProof.j1 : Nat → Int → List (S53) → List (S49) → Int → Int → Option ((List (S49)) × Int × Int × Int × Int)
  | 0, _, _, _, _, _ => none
  | k + 1, x1, x6, x7, x416000, x416001 => (spec_proofOf.f k x416000 x416001 x6).bind fun bt424 => (if bt424.2.2.2.2 > 0 then (if x7.length + bt424.1.length < 8796093022208 then ((spec_NodeOf.f k x416000 x416001).bind fun bt435 => ((spec_fork.f k bt435.1 bt435.2 x1).bind fun bt437 => (some ((x7 ++ bt424.1), bt437.1, bt437.2, wrap64 (bt424.2.2.2.1 + (x7.length : Int)), wrap64 (bt424.2.2.2.2 + (x7.length : Int)))))) else (none)) else (if x7.length + bt424.1.length < 8796093022208 then ((spec_NodeOf.f k x416000 x416001).bind fun bt442 => ((spec_fork.f k bt442.1 bt442.2 x1).bind fun bt444 => (some ((x7 ++ bt424.1), bt444.1, bt444.2, bt424.2.2.2.1, bt424.2.2.2.2)))) else (none)))
end
def spec_ConsistencyProof.f (k : Nat) (a0 : Int) (a1 : Int) : Option ((List (S49)) × Int × Int × Int × Int) := if a0 = 0 then (spec_ConsistencyProof.j0 k a0 a1 true) else (spec_ConsistencyProof.j0 k a0 a1 (a0 == a1))
theorem spec_ConsistencyProof.mono_l : ∀ k, (∀ y0 y1 y2, LeO (spec_ConsistencyProof.j0 k y0 y1 y2) (spec_ConsistencyProof.j0 (k + 1) y0 y1 y2)) ∧ (∀ y0 y1 y2 y3 y4, LeO (spec_ConsistencyProof.j1 k y0 y1 y2 y3 y4) (spec_ConsistencyProof.j1 (k + 1) y0 y1 y2 y3 y4))
  | 0 => ⟨fun _ _ _ r h => by simp [spec_ConsistencyProof.j0] at h, fun _ _ _ _ _ r h => by simp [spec_ConsistencyProof.j1] at h⟩
  | k + 1 => by
    obtain ⟨ih0, ih1⟩ := spec_ConsistencyProof.mono_l k
    refine ⟨?_, ?_⟩
    · intro y0 y1 y2
      unfold spec_ConsistencyProof.j0
      repeat' first
      | (with_reducible exact ih0 _ _ _)
      | (with_reducible exact ih1 _ _ _ _ _)
      | (with_reducible exact spec_NodeOf.mono _ _ _)
      | (with_reducible exact spec_ProofParts.mono _ _ _)
      | (with_reducible exact spec_fork.mono _ _ _ _)
      | (with_reducible exact spec_proofOf.mono _ _ _ _)
      | (with_reducible exact LeO.refl _)
      | (with_reducible exact LeO.none _)
      | (with_reducible refine LeO.ite ?_ ?_)
      | (with_reducible refine LeO.bind ?_ (fun _ => ?_))
      | exact ih0 _ _ _
      | exact ih1 _ _ _ _ _
      | exact spec_NodeOf.mono _ _ _
      | exact spec_ProofParts.mono _ _ _
      | exact spec_fork.mono _ _ _ _
      | exact spec_proofOf.mono _ _ _ _
      | exact LeO.none _
      | refine LeO.ite ?_ ?_
      | refine LeO.bind ?_ (fun _ => ?_)
    · intro y0 y1 y2 y3 y4
      unfold spec_ConsistencyProof.j1
      repeat' first
      | (with_reducible exact ih0 _ _ _)
      | (with_reducible exact ih1 _ _ _ _ _)
      | (with_reducible exact spec_NodeOf.mono _ _ _)
      | (with_reducible exact spec_ProofParts.mono _ _ _)
      | (with_reducible exact spec_fork.mono _ _ _ _)
      | (with_reducible exact spec_proofOf.mono _ _ _ _)
      | (with_reducible exact LeO.refl _)
      | (with_reducible exact LeO.none _)
      | (with_reducible refine LeO.ite ?_ ?_)
      | (with_reducible refine LeO.bind ?_ (fun _ => ?_))
      | exact ih0 _ _ _
      | exact ih1 _ _ _ _ _
      | exact spec_NodeOf.mono _ _ _
      | exact spec_ProofParts.mono _ _ _
      | exact spec_fork.mono _ _ _ _
      | exact spec_proofOf.mono _ _ _ _
      | exact LeO.none _
      | refine LeO.ite ?_ ?_
      | refine LeO.bind ?_ (fun _ => ?_)
theorem spec_ConsistencyProof.mono : ∀ a0 a1 k, LeO (spec_ConsistencyProof.f k a0 a1) (spec_ConsistencyProof.f (k + 1) a0 a1) := by
  intro a0 a1 k
  obtain ⟨ih0, ih1⟩ := spec_ConsistencyProof.mono_l k
  unfold spec_ConsistencyProof.f
  repeat' first
      | (with_reducible exact ih0 _ _ _)
      | (with_reducible exact ih1 _ _ _ _ _)
      | (with_reducible exact spec_NodeOf.mono _ _ _)
      | (with_reducible exact spec_ProofParts.mono _ _ _)
      | (with_reducible exact spec_fork.mono _ _ _ _)
      | (with_reducible exact spec_proofOf.mono _ _ _ _)
      | (with_reducible exact LeO.refl _)
      | (with_reducible exact LeO.none _)
      | (with_reducible refine LeO.ite ?_ ?_)
      | (with_reducible refine LeO.bind ?_ (fun _ => ?_))
      | exact ih0 _ _ _
      | exact ih1 _ _ _ _ _
      | exact spec_NodeOf.mono _ _ _
      | exact spec_ProofParts.mono _ _ _
      | exact spec_fork.mono _ _ _ _
      | exact spec_proofOf.mono _ _ _ _
      | exact LeO.none _
      | refine LeO.ite ?_ ?_
      | refine LeO.bind ?_ (fun _ => ?_)
end Go.Proofs.YtielnphmcaecdaaDoor.PAll
namespace Go.Proofs.YtielnphmcaecdaaDoor.PAll
open Go.RowKit Go.Proofs.YtielnphmcaecdaaDoor.Num Go.Proofs.YtielnphmcaecdaaDoor.Mth Go.Proofs.YtielnphmcaecdaaDoorW.PrintWords Go.Proofs.YtielnphmcaecdaaDoorW.PrintLast
set_option linter.unusedVariables false
set_option linter.unusedSimpArgs false
theorem cpath_len (s b e : Nat) (w : Bool) : (cpath s b e w).length ≤ blen (e - b - 1) + 1 := by
  induction hn : e - b using Nat.strongRecOn generalizing b e w with
  | _ d ih =>
  subst hn
  by_cases h1 : s = e
  · subst h1; rw [cpath_end]; split <;> simp
  · by_cases h2 : e - b ≤ 1
    · rw [cpath, if_neg h1, dif_pos h2]; simp
    · have p1 := psplit_lt (n := e - b) (by omega)
      have p2 := psplit_pos (e - b)
      have p3 := le_psplit (n := e - b) (by omega)
      have hL := blen_pos (n := e - b - 1) (by omega)
      have hp : psplit (e - b) = 2 ^ (blen (e - b - 1) - 1) := rfl
      by_cases h3 : s ≤ b + psplit (e - b)
      · rw [cpath_left (by omega) h1 h3, List.length_append]
        have := ih (b + psplit (e - b) - b) (by omega) b (b + psplit (e - b)) w rfl
        have h4 : blen (b + psplit (e - b) - b - 1) ≤ blen (e - b - 1) - 1 := blen_le.2 (by omega)
        simp only [List.length_singleton]; omega
      · rw [cpath_right (by omega) h1 (by omega), List.length_append]
        have := ih (e - (b + psplit (e - b))) (by omega) (b + psplit (e - b)) e false rfl
        have h4 : blen (e - (b + psplit (e - b)) - 1) ≤ blen (e - b - 1) - 1 := blen_le.2 (by omega)
        simp only [List.length_singleton]; omega
theorem spec_proofIn.eq (s : Nat) (b e : Nat) (w : Bool) (hbe : b < e) (hs : b < s) (hse : s ≤ e) (he : e < 18446744073709551616) (k : Nat) (hk : e - b + 66 ≤ k) : spec_proofIn.f k (s : Int) (b : Int) (e : Int) w = some ((cpath s b e w).map prt) := by
  induction hn : e - b using Nat.strongRecOn generalizing b e k w with
  | _ n ih =>
  subst hn
  obtain ⟨k, rfl⟩ : ∃ m, k = m + 1 := ⟨k - 1, by omega⟩
  rw [spec_proofIn.f]
  by_cases h1 : s = e
  · subst h1
    rw [if_pos rfl, cpath_end]
    cases w
    · rw [if_neg (by decide), if_neg (by decide)]; rfl
    · rw [if_pos rfl, if_pos rfl]; rfl
  · have p1 := psplit_lt (n := e - b) (by omega)
    have p2 := psplit_pos (e - b)
    rw [if_neg (by omega), u64sub (by omega) he, spec_split.eq (e - b) (by omega) (by omega) k (by omega), Option.bind_some, u64add (a := b) (b := psplit (e - b)) (by omega)]
    by_cases h3 : s ≤ b + psplit (e - b)
    · rw [if_pos (by omega), ih (b + psplit (e - b) - b) (by omega) b (b + psplit (e - b)) w (by omega) hs h3 (by omega) k (by omega) rfl, cpath_left (by omega) h1 h3]
      have hl := cpath_len s b (b + psplit (e - b)) w
      have hl2 := blen_lt64 (n := b + psplit (e - b) - b - 1) (by omega)
      rw [Option.bind_some, Option.bind_some, if_pos (by simp only [List.length_map, List.length_cons, List.length_nil]; omega), List.map_append]
      rfl
    · rw [if_neg (by omega), ih (e - (b + psplit (e - b))) (by omega) (b + psplit (e - b)) e false (by omega) (by omega) hse he k (by omega) rfl, cpath_right (s := s) (b := b) (e := e) (by omega) h1 (by omega) w]
      have hl := cpath_len s (b + psplit (e - b)) e false
      have hl2 := blen_lt64 (n := e - (b + psplit (e - b)) - 1) (by omega)
      rw [Option.bind_some, Option.bind_some, if_pos (by simp only [List.length_map, List.length_cons, List.length_nil]; omega), List.map_append]
      rfl
theorem spec_ProofParts.eq (s n : Nat) (h0 : 0 < s) (hs : s ≤ n) (hn : n < 18446744073709551616) (k : Nat) (hk : n + 66 ≤ k) : spec_ProofParts.f k (s : Int) (n : Int) = some ((cpath s 0 n true).map prt) := by
  unfold spec_ProofParts.f
  rw [show (0 : Int) = ((0 : Nat) : Int) from rfl, spec_proofIn.eq s 0 n true (by omega) h0 hs hn k (by omega)]
  rfl
end Go.Proofs.YtielnphmcaecdaaDoor.PAll
