-- Written by a program of this session (wip/tools)
import Derived.Test.YtielnphmcaecdaaDoorQTTRangeRoot
import Derived.Test.YtielnphmcaecdaaDoorQTTRangeMerged
import Derived.Test.YtielnphmcaecdaaDoorQTTExtTreeB
import Derived.Test.YtielnphmcaecdaaDoorQTTExtVerE
import Derived.Outline
import Derived.Deep.QuietTactic
import Derived.BigQuiet
import Derived.IntWalk
import Derived.Test.YtielnphmcaecdaaDoorQTTExtConMade
import Derived.Test.YtielnphmcaecdaaDoorQTTPAllx1
set_option maxHeartbeats 8000000
set_option maxRecDepth 100000
set_option linter.unusedVariables false
set_option linter.unusedSimpArgs false
namespace Go.Proofs.YtielnphmcaecdaaDoor.Mth
open Go.Proofs.YtielnphmcaecdaaDoor.PAll
def chn (R H : List Int → List Int → List Int) (idx : Nat) : List (List Int) → Nat → List Int → List Int
 | [], _, s => s
 | x :: xs, i, s => chn R H idx xs (i + 1) (if idx / 2 ^ i % 2 = 0 then R s x else H x s)
def fd (R H : List Int → List Int → List Int) : List Bool → List (List Int) → List Int → List Int
 | [], _, s => s
 | _, [], s => s
 | d :: ds, x :: xs, s => fd R H ds xs (if d then H x s else R s x)
theorem fd_nil (R H : List Int → List Int → List Int) (ds : List Bool) (s : List Int) : fd R H ds [] s = s := by cases ds <;> rfl
theorem fd_append (R H : List Int → List Int → List Int) : ∀ (ds es : List Bool) (xs ys : List (List Int)) (s : List Int), ds.length = xs.length → fd R H (ds ++ es) (xs ++ ys) s = fd R H es ys (fd R H ds xs s)
 | [], es, [], ys, s, _ => rfl
 | [], _, _ :: _, _, _, h => by cases h
 | _ :: _, _, [], _, _, h => by cases h
 | d :: ds, es, x :: xs, ys, s, h => by
  show fd R H (ds ++ es) (xs ++ ys) _ = _
  exact fd_append R H ds es xs ys _ (Nat.succ.inj h)
def dirs (i b e : Nat) : List Bool :=
 if _h : e - b ≤ 1 then []
 else if i < b + psplit (e - b) then dirs i b (b + psplit (e - b)) ++ [false]
 else dirs i (b + psplit (e - b)) e ++ [true]
termination_by e - b
decreasing_by
 ·have := psplit_lt (n := e - b) (by omega); omega
 ·have := psplit_pos (e - b); omega
theorem dirs_one {i b e : Nat} (h : e - b ≤ 1) : dirs i b e = [] := by rw [dirs, dif_pos h]
theorem dirs_left {i b e : Nat} (h : 2 ≤ e - b) (hi : i < b + psplit (e - b)) : dirs i b e = dirs i b (b + psplit (e - b)) ++ [false] := by rw [dirs, dif_neg (by omega), if_pos hi]
theorem dirs_right {i b e : Nat} (h : 2 ≤ e - b) (hi : b + psplit (e - b) ≤ i) : dirs i b e = dirs i (b + psplit (e - b)) e ++ [true] := by rw [dirs, dif_neg (by omega), if_neg (by omega)]
theorem dirs_len (i : Nat) : ∀ (d b e : Nat), e - b = d → (dirs i b e).length = (path i b e).length := by
 intro d
 induction d using Nat.strongRecOn with
 | _ d ih =>
 intro b e hd
 by_cases h : e - b ≤ 1
 ·rw [dirs_one h, path_one h]; rfl
 ·have h1 := psplit_lt (n := e - b) (by omega)
  have h2 := psplit_pos (e - b)
  by_cases hi : i < b + psplit (e - b)
  ·rw [dirs_left (by omega) hi, path_left (by omega) hi, List.length_append, List.length_append, ih _ (by omega) b (b + psplit (e - b)) rfl]; rfl
  ·rw [dirs_right (by omega) (by omega), path_right (i := i) (b := b) (e := e) (by omega) (by omega), List.length_append, List.length_append, ih _ (by omega) (b + psplit (e - b)) e rfl]; rfl
theorem fold_node {R H : List Int → List Int → List Int} {val : Nat × Nat → List Int} {T : Nat → Nat → List Int} {l c i N : Nat} (hc1 : c * 2 ^ l ≤ i) (hc2 : i < (c + 1) * 2 ^ l)
 (h2 : ∀ b e, 2 ≤ e - b → e ≤ N → b ≤ c * 2 ^ l → (c + 1) * 2 ^ l ≤ b + psplit (e - b) → T b e = R (T b (b + psplit (e - b))) (val (b + psplit (e - b), e)))
 (h3 : ∀ b e, 2 ≤ e - b → e ≤ N → b + psplit (e - b) ≤ c * 2 ^ l → (c + 1) * 2 ^ l ≤ e → T b e = H (val (b, b + psplit (e - b))) (T (b + psplit (e - b)) e)) :
 ∀ d b e, e - b = d → e ≤ N → b ≤ c * 2 ^ l → (c + 1) * 2 ^ l ≤ e → b % 2 ^ l = 0 →
  l ≤ (path i b e).length ∧ fd R H ((dirs i b e).drop l) (((path i b e).map val).drop l) (T (c * 2 ^ l) ((c + 1) * 2 ^ l)) = T b e := by
 have hp := Nat.two_pow_pos l
 have hs : (c + 1) * 2 ^ l = c * 2 ^ l + 2 ^ l := by rw [Nat.add_mul, Nat.one_mul]
 intro d
 induction d using Nat.strongRecOn with
 | _ d ih =>
 intro b e hd hN hb he hm
 by_cases hle : e - b ≤ 2 ^ l
 ·have e1 : b = c * 2 ^ l := by omega
  have e2 : e = b + 2 ^ l := by omega
  have hlen : (path i b e).length = l := by rw [e2]; exact path_len_pow l i b
  refine ⟨by omega, ?_⟩
  rw [List.drop_of_length_le (l := (path i b e).map val) (by rw [List.length_map]; omega), fd_nil, e1, show (c + 1) * 2 ^ l = e by omega, ← e1]
 ·have h22 : 2 ≤ e - b := by omega
  obtain ⟨κ, hκ⟩ : ∃ κ, psplit (e - b) = 2 ^ κ := ⟨_, rfl⟩
  have g1 := psplit_lt (n := e - b) h22
  have g2 := le_psplit (n := e - b) h22
  have g3 := psplit_pos (e - b)
  have hlκ : l ≤ κ := by
   apply Nat.le_of_not_lt; intro h
   have := Nat.pow_le_pow_right (n := 2) (by decide) (show κ + 1 ≤ l by omega)
   rw [Nat.pow_succ] at this
   omega
  have hdk : psplit (e - b) % 2 ^ l = 0 := by rw [hκ]; exact Nat.mod_eq_zero_of_dvd (Nat.pow_dvd_pow 2 hlκ)
  have hbk : (b + psplit (e - b)) % 2 ^ l = 0 := by rw [Nat.add_mod, hm, hdk, Nat.zero_add, Nat.zero_mod]
  obtain ⟨q, hq⟩ := Nat.dvd_of_mod_eq_zero hbk
  by_cases hi : i < b + psplit (e - b)
  ·have hin : (c + 1) * 2 ^ l ≤ b + psplit (e - b) := by
    rw [hq, Nat.mul_comm (2 ^ l)]
    refine Nat.mul_le_mul_right _ ?_
    apply Nat.le_of_not_lt; intro h
    have := Nat.mul_le_mul_right (2 ^ l) (show q ≤ c by omega)
    rw [hq, Nat.mul_comm (2 ^ l)] at hi
    omega
   obtain ⟨k1, k2⟩ := ih _ (by omega) b (b + psplit (e - b)) rfl (by omega) hb hin hm
   have k3 := dirs_len i _ b (b + psplit (e - b)) rfl
   rw [path_left h22 hi, dirs_left h22 hi]
   refine ⟨by rw [List.length_append]; omega, ?_⟩
   rw [List.map_append, drop_snoc _ (by omega), drop_snoc _ (by rw [List.length_map]; omega), fd_append _ _ _ _ _ _ _ (by rw [List.length_drop, List.length_drop, List.length_map, k3]), k2, h2 b e h22 hN hb hin]
   rfl
  ·have hin : b + psplit (e - b) ≤ c * 2 ^ l := by
    rw [hq, Nat.mul_comm (2 ^ l)]
    refine Nat.mul_le_mul_right _ ?_
    apply Nat.le_of_not_lt; intro h
    have := Nat.mul_le_mul_right (2 ^ l) (show c + 1 ≤ q by omega)
    rw [hq, Nat.mul_comm (2 ^ l)] at hi
    omega
   obtain ⟨k1, k2⟩ := ih _ (by omega) (b + psplit (e - b)) e rfl hN hin he hbk
   have k3 := dirs_len i _ (b + psplit (e - b)) e rfl
   rw [path_right (i := i) (b := b) (e := e) h22 (by omega), dirs_right h22 (by omega)]
   refine ⟨by rw [List.length_append]; omega, ?_⟩
   rw [List.map_append, drop_snoc _ (by omega), drop_snoc _ (by rw [List.length_map]; omega), fd_append _ _ _ _ _ _ _ (by rw [List.length_drop, List.length_drop, List.length_map, k3]), k2, h3 b e h22 hN hin he]
   rfl
end Go.Proofs.YtielnphmcaecdaaDoor.Mth
namespace Go.Proofs.YtielnphmcaecdaaDoor.Mth
theorem path_shift (d : Nat) : ∀ (m i b e : Nat), e - b = m → path (i + d) (b + d) (e + d) = (path i b e).map fun p => (p.1 + d, p.2 + d) := by
 intro m
 induction m using Nat.strongRecOn with
 | _ m ih =>
 intro i b e hm
 by_cases h : e - b ≤ 1
 ·rw [path_one h, path_one (by omega)]; rfl
 ·have h1 := psplit_lt (n := e - b) (by omega)
  have h2 := psplit_pos (e - b)
  have es : e + d - (b + d) = e - b := by omega
  by_cases hi : i < b + psplit (e - b)
  ·rw [path_left (by omega) hi, path_left (by omega) (by rw [es]; omega), es, List.map_append, ← ih (b + psplit (e - b) - b) (by omega) i b (b + psplit (e - b)) rfl]
   rw [show b + d + psplit (e - b) = b + psplit (e - b) + d by omega]; rfl
  ·rw [path_right (i := i) (b := b) (e := e) (by omega) (by omega), path_right (i := i + d) (b := b + d) (e := e + d) (by omega) (by rw [es]; omega), es, List.map_append, ← ih (e - (b + psplit (e - b))) (by omega) i (b + psplit (e - b)) e rfl]
   rw [show b + d + psplit (e - b) = b + psplit (e - b) + d by omega]; rfl
theorem div_top {κ m x : Nat} (hm : m ≤ κ) : (2 ^ κ + x) / 2 ^ m = 2 ^ (κ - m) + x / 2 ^ m := by
 have e : 2 ^ κ = 2 ^ m * 2 ^ (κ - m) := by rw [← Nat.pow_add]; congr 1; omega
 rw [e, Nat.add_comm, Nat.add_mul_div_left _ _ (Nat.two_pow_pos m), Nat.add_comm]
theorem ones_one : ones 1 = 1 := by rw [ones_half, ones_zero]
theorem ones_top_add {j x : Nat} (h : x < 2 ^ j) : ones (2 ^ j + x) = 1 + ones x := by
 have hp := Nat.two_pow_pos j
 rw [ones_split j, Nat.add_mod_left, Nat.mod_eq_of_lt h, Nat.add_div_left _ hp, Nat.div_eq_of_lt h, ones_one]; omega
theorem path_length (n : Nat) : ∀ i, i < n → (path i 0 n).length = fork i (n - 1) + ones (i / 2 ^ fork i (n - 1)) := by
 induction n using Nat.strongRecOn with
 | _ n ih =>
 intro i hi
 by_cases h1 : n ≤ 1
 ·have e1 : n = 1 := by omega
  have e2 : i = 0 := by omega
  subst e1 e2
  rw [path_one (by omega), show (1 - 1 : Nat) = 0 from rfl, fork_self, Nat.pow_zero, Nat.div_one, ones_zero]; rfl
 ·obtain ⟨κ, hκ⟩ : ∃ κ, psplit (n - 0) = 2 ^ κ := ⟨_, rfl⟩
  have hp := Nat.two_pow_pos κ
  have hlt := psplit_lt (n := n - 0) (by omega)
  have hle := le_psplit (n := n - 0) (by omega)
  rw [hκ] at hlt hle
  have hpow : 2 ^ (κ + 1) = 2 * 2 ^ κ := by rw [Nat.pow_succ]; omega
  by_cases hi2 : i < 2 ^ κ
  ·have hf : fork i (n - 1) = κ + 1 := by
    have a : fork i (n - 1) ≤ κ + 1 := fork_le.2 (by rw [Nat.div_eq_of_lt (by omega), Nat.div_eq_of_lt (by omega)])
    have b : ¬ fork i (n - 1) ≤ κ := fun h => by
     have := fork_le.1 h
     rw [Nat.div_eq_of_lt hi2] at this
     have h3 : 1 ≤ (n - 1) / 2 ^ κ := by rw [Nat.le_div_iff_mul_le hp]; omega
     omega
    omega
   rw [path_left (by omega) (by rw [hκ]; omega), hκ, List.length_append, hf, Nat.div_eq_of_lt (by omega), ones_zero, path_len_pow]; rfl
  ·obtain ⟨j, rfl⟩ : ∃ j, i = j + 2 ^ κ := ⟨i - 2 ^ κ, by omega⟩
   obtain ⟨m, rfl⟩ : ∃ m, n = m + 2 ^ κ := ⟨n - 2 ^ κ, by omega⟩
   have e0 := path_shift (2 ^ κ) _ j 0 m rfl
   rw [path_right (by omega) (by rw [hκ]; omega), hκ, List.length_append, e0, List.length_map, ih m (by omega) j (by omega)]
   have hf1 : fork j (m - 1) ≤ κ := fork_le.2 (by rw [Nat.div_eq_of_lt (by omega), Nat.div_eq_of_lt (by omega)])
   have hf : fork (j + 2 ^ κ) (m + 2 ^ κ - 1) = fork j (m - 1) := by
    have e1 : m + 2 ^ κ - 1 = 2 ^ κ + (m - 1) := by omega
    have hi : ∀ x, x ≤ κ → (fork (j + 2 ^ κ) (m + 2 ^ κ - 1) ≤ x ↔ fork j (m - 1) ≤ x) := by
     intro x hx
     rw [fork_le, fork_le, e1, Nat.add_comm j, div_top hx, div_top hx]; omega
    have a := (hi _ hf1).2 (Nat.le_refl _)
    have b := (hi _ (Nat.le_trans a hf1)).1 (Nat.le_refl _)
    omega
   have hlt2 : j / 2 ^ fork j (m - 1) < 2 ^ (κ - fork j (m - 1)) := by
    rw [Nat.div_lt_iff_lt_mul (Nat.two_pow_pos _), ← Nat.pow_add, show κ - fork j (m - 1) + fork j (m - 1) = κ by omega]; omega
   rw [hf, Nat.add_comm j, div_top hf1, ones_top_add hlt2]
   simp only [List.length_cons, List.length_nil]; omega
end Go.Proofs.YtielnphmcaecdaaDoor.Mth
namespace Go.Proofs.YtielnphmcaecdaaDoor.Mth
open Go.Proofs.YtielnphmcaecdaaDoor.PAll
theorem dirs_shift (d : Nat) : ∀ (m i b e : Nat), e - b = m → dirs (i + d) (b + d) (e + d) = dirs i b e := by
 intro m
 induction m using Nat.strongRecOn with
 | _ m ih =>
 intro i b e hm
 by_cases h : e - b ≤ 1
 ·rw [dirs_one h, dirs_one (by omega)]
 ·have h1 := psplit_lt (n := e - b) (by omega)
  have h2 := psplit_pos (e - b)
  have es : e + d - (b + d) = e - b := by omega
  by_cases hi : i < b + psplit (e - b)
  ·rw [dirs_left (by omega) hi, dirs_left (by omega) (by rw [es]; omega), es, ← ih (b + psplit (e - b) - b) (by omega) i b (b + psplit (e - b)) rfl]
   rw [show b + d + psplit (e - b) = b + psplit (e - b) + d by omega]
  ·rw [dirs_right (i := i) (b := b) (e := e) (by omega) (by omega), dirs_right (i := i + d) (b := b + d) (e := e + d) (by omega) (by rw [es]; omega), es, ← ih (e - (b + psplit (e - b))) (by omega) i (b + psplit (e - b)) e rfl]
   rw [show b + d + psplit (e - b) = b + psplit (e - b) + d by omega]
def bitsOf (i f : Nat) : List Bool := (List.range f).map fun t => decide (i / 2 ^ t % 2 = 1)
theorem bitsOf_succ (i f : Nat) : bitsOf i (f + 1) = bitsOf i f ++ [decide (i / 2 ^ f % 2 = 1)] := by unfold bitsOf; rw [List.range_succ, List.map_append]; rfl
theorem dirs_pow (κ : Nat) : ∀ (i q : Nat), q * 2 ^ κ ≤ i → i < q * 2 ^ κ + 2 ^ κ → dirs i (q * 2 ^ κ) (q * 2 ^ κ + 2 ^ κ) = bitsOf i κ := by
 induction κ with
 | zero => intro i q h1 h2; rw [dirs_one (by omega)]; rfl
 | succ κ ih =>
  intro i q h1 h2
  have hp := Nat.two_pow_pos κ
  have e : 2 ^ (κ + 1) = 2 ^ κ + 2 ^ κ := by rw [Nat.pow_succ]; omega
  have e2 : q * 2 ^ (κ + 1) = 2 * q * 2 ^ κ := by rw [Nat.pow_succ, Nat.mul_comm (2 ^ κ), ← Nat.mul_assoc, Nat.mul_comm q 2]
  have hs : psplit (q * 2 ^ (κ + 1) + 2 ^ (κ + 1) - q * 2 ^ (κ + 1)) = 2 ^ κ := by rw [Nat.add_sub_cancel_left]; exact psplit_pow κ
  have hd : 2 ≤ q * 2 ^ (κ + 1) + 2 ^ (κ + 1) - q * 2 ^ (κ + 1) := by omega
  rw [bitsOf_succ]
  by_cases hi : i < q * 2 ^ (κ + 1) + 2 ^ κ
  ·rw [dirs_left hd (by rw [hs]; exact hi), hs]
   have hq : i / 2 ^ κ = 2 * q := by
    apply Nat.div_eq_of_lt_le
    ·omega
    ·rw [Nat.succ_mul]; omega
   rw [hq, e2, ih i (2 * q) (by omega) (by omega), decide_eq_false (by omega)]
  ·rw [dirs_right hd (by rw [hs]; omega), hs]
   have e3 : (2 * q + 1) * 2 ^ κ = 2 * q * 2 ^ κ + 2 ^ κ := by rw [Nat.add_mul, Nat.one_mul]
   have hq : i / 2 ^ κ = 2 * q + 1 := by
    apply Nat.div_eq_of_lt_le
    ·omega
    ·rw [Nat.succ_mul]; omega
   have := ih i (2 * q + 1) (by omega) (by omega)
   rw [e3] at this
   rw [hq, e2, e, ← Nat.add_assoc, this, decide_eq_true (by omega)]
theorem dirs_zero (n : Nat) : ∀ i, i < n → dirs i 0 n = bitsOf i (fork i (n - 1)) ++ List.replicate (ones (i / 2 ^ fork i (n - 1))) true := by
 induction n using Nat.strongRecOn with
 | _ n ih =>
 intro i hi
 by_cases h1 : n ≤ 1
 ·have e1 : n = 1 := by omega
  have e2 : i = 0 := by omega
  subst e1 e2
  rw [dirs_one (by omega), show (1 - 1 : Nat) = 0 from rfl, fork_self, Nat.pow_zero, Nat.div_one, ones_zero]; rfl
 ·obtain ⟨κ, hκ⟩ : ∃ κ, psplit (n - 0) = 2 ^ κ := ⟨_, rfl⟩
  have hp := Nat.two_pow_pos κ
  have hlt := psplit_lt (n := n - 0) (by omega)
  have hle := le_psplit (n := n - 0) (by omega)
  rw [hκ] at hlt hle
  have hpow : 2 ^ (κ + 1) = 2 * 2 ^ κ := by rw [Nat.pow_succ]; omega
  by_cases hi2 : i < 2 ^ κ
  ·have hf : fork i (n - 1) = κ + 1 := by
    have a : fork i (n - 1) ≤ κ + 1 := fork_le.2 (by rw [Nat.div_eq_of_lt (by omega), Nat.div_eq_of_lt (by omega)])
    have b : ¬ fork i (n - 1) ≤ κ := fun h => by
     have := fork_le.1 h
     rw [Nat.div_eq_of_lt hi2] at this
     have h3 : 1 ≤ (n - 1) / 2 ^ κ := by rw [Nat.le_div_iff_mul_le hp]; omega
     omega
    omega
   have hd := dirs_pow κ i 0 (by omega) (by omega)
   rw [Nat.zero_mul] at hd
   rw [dirs_left (by omega) (by rw [hκ]; omega), hκ, hf, Nat.div_eq_of_lt (by omega), ones_zero, hd, bitsOf_succ, Nat.div_eq_of_lt hi2, decide_eq_false (by omega)]
   simp
  ·obtain ⟨j, rfl⟩ : ∃ j, i = j + 2 ^ κ := ⟨i - 2 ^ κ, by omega⟩
   obtain ⟨m, rfl⟩ : ∃ m, n = m + 2 ^ κ := ⟨n - 2 ^ κ, by omega⟩
   have e0 := dirs_shift (2 ^ κ) _ j 0 m rfl
   rw [dirs_right (by omega) (by rw [hκ]; omega), hκ, e0, ih m (by omega) j (by omega)]
   have hf1 : fork j (m - 1) ≤ κ := fork_le.2 (by rw [Nat.div_eq_of_lt (by omega), Nat.div_eq_of_lt (by omega)])
   have hf : fork (j + 2 ^ κ) (m + 2 ^ κ - 1) = fork j (m - 1) := by
    have e1 : m + 2 ^ κ - 1 = 2 ^ κ + (m - 1) := by omega
    have hi : ∀ x, x ≤ κ → (fork (j + 2 ^ κ) (m + 2 ^ κ - 1) ≤ x ↔ fork j (m - 1) ≤ x) := by
     intro x hx
     rw [fork_le, fork_le, e1, Nat.add_comm j, div_top hx, div_top hx]; omega
    have a := (hi _ hf1).2 (Nat.le_refl _)
    have b := (hi _ (Nat.le_trans a hf1)).1 (Nat.le_refl _)
    omega
   have hlt2 : j / 2 ^ fork j (m - 1) < 2 ^ (κ - fork j (m - 1)) := by
    rw [Nat.div_lt_iff_lt_mul (Nat.two_pow_pos _), ← Nat.pow_add, show κ - fork j (m - 1) + fork j (m - 1) = κ by omega]; omega
   have hb : bitsOf (j + 2 ^ κ) (fork j (m - 1)) = bitsOf j (fork j (m - 1)) := by
    unfold bitsOf
    apply List.map_congr_left
    intro t ht
    have ht := List.mem_range.1 ht
    have hev : 2 ^ (κ - t) % 2 = 0 := Nat.mod_eq_zero_of_dvd ⟨2 ^ (κ - t - 1), by rw [← Nat.pow_succ']; congr 1; omega⟩
    have e5 : (j + 2 ^ κ) / 2 ^ t = 2 ^ (κ - t) + j / 2 ^ t := by rw [Nat.add_comm j, div_top (by omega)]
    rw [e5]
    congr 1
    apply propext
    omega
   rw [hf, hb, Nat.add_comm j (2 ^ κ), div_top hf1, ones_top_add hlt2, List.append_assoc, Nat.add_comm 1, List.replicate_succ']
theorem chn_fd (R H : List Int → List Int → List Int) (idx : Nat) : ∀ (xs : List (List Int)) (i : Nat) (s : List Int), chn R H idx xs i s = fd R H ((List.range xs.length).map fun t => decide (idx / 2 ^ (i + t) % 2 = 1)) xs s
 | [], _, _ => rfl
 | x :: xs, i, s => by
  rw [chn, chn_fd R H idx xs (i + 1), List.length_cons, List.range_succ_eq_map, List.map_cons, List.map_map]
  have e : (if decide (idx / 2 ^ (i + 0) % 2 = 1) = true then H x s else R s x) = (if idx / 2 ^ i % 2 = 0 then R s x else H x s) := by
   rw [Nat.add_zero]
   by_cases h : idx / 2 ^ i % 2 = 0
   ·rw [if_pos h, if_neg (by rw [decide_eq_false (by omega)]; decide)]
   ·rw [if_neg h, if_pos (decide_eq_true (by omega))]
  have e2 : (List.range xs.length).map (fun t => decide (idx / 2 ^ (i + 1 + t) % 2 = 1)) = (List.range xs.length).map ((fun t => decide (idx / 2 ^ (i + t) % 2 = 1)) ∘ Nat.succ) := by
   apply List.map_congr_left
   intro t _
   show _ = decide (idx / 2 ^ (i + (t + 1)) % 2 = 1)
   rw [show i + 1 + t = i + (t + 1) by omega]
  rw [e2]
  show _ = fd R H _ xs (if decide (idx / 2 ^ (i + 0) % 2 = 1) = true then H x s else R s x)
  rw [e]
theorem bord_fd (R H : List Int → List Int → List Int) : ∀ (xs : List (List Int)) (s : List Int), bord H xs s = fd R H (List.replicate xs.length true) xs s
 | [], _ => rfl
 | x :: xs, s => by
  rw [bord, bord_fd R H xs]; rfl
theorem prog_fd (R H : List Int → List Int → List Int) {i n l : Nat} (hi : i < n) (hl : l ≤ fork i (n - 1)) (ys : List (List Int)) (hy : ys.length = fork i (n - 1) - l + ones (i / 2 ^ fork i (n - 1))) (s : List Int) :
 bord H (ys.drop (fork i (n - 1) - l)) (chn R H (i / 2 ^ l) (ys.take (fork i (n - 1) - l)) 0 s) = fd R H ((dirs i 0 n).drop l) ys s := by
 have hlt : (ys.take (fork i (n - 1) - l)).length = fork i (n - 1) - l := by rw [List.length_take]; omega
 have hld : (ys.drop (fork i (n - 1) - l)).length = ones (i / 2 ^ fork i (n - 1)) := by rw [List.length_drop]; omega
 rw [bord_fd R H, chn_fd, hlt, hld, ← fd_append _ _ _ _ _ _ _ (by rw [List.length_map, List.length_range, hlt]), List.take_append_drop, dirs_zero n i hi, drop_snoc _ (by unfold bitsOf; rw [List.length_map, List.length_range]; exact hl)]
 have e : ((List.range (fork i (n - 1))).map fun t => decide (i / 2 ^ t % 2 = 1)).drop l = (List.range (fork i (n - 1) - l)).map fun t => decide (i / 2 ^ l / 2 ^ (0 + t) % 2 = 1) := by
  apply List.ext_getElem
  ·rw [List.length_drop, List.length_map, List.length_map, List.length_range, List.length_range]
  ·intro t h1 h2
   rw [List.getElem_drop, List.getElem_map, List.getElem_map, List.getElem_range, List.getElem_range, Nat.zero_add, Nat.div_div_eq_div_mul, ← Nat.pow_add]
 unfold bitsOf
 rw [e]
end Go.Proofs.YtielnphmcaecdaaDoor.Mth
namespace Go.Proofs.YtielnphmcaecdaaDoor.Hsh
open Go.RowKit Go.Proofs.YtielnphmcaecdaaDoor.Num Go.Proofs.YtielnphmcaecdaaDoor.Mth Go.Proofs.YtielnphmcaecdaaDoor.PAll Go.Proofs.YtielnphmcaecdaaDoorW.PrintWords Go.Proofs.YtielnphmcaecdaaDoorW.PrintLast
theorem bit_and (n i : Nat) (hn : n < 18446744073709551616) : Go.bits .and .u64 (shr .u64 (n : Int) (i : Int)) 1 = ((n / 2 ^ i % 2 : Nat) : Int) := by
 rw [shr64' _ _ hn]
 have h1 : n / 2 ^ i < 18446744073709551616 := Nat.lt_of_le_of_lt (Nat.div_le_self _ _) hn
 have := and64 (n / 2 ^ i) 1 h1 (by omega)
 rw [Nat.and_one_is_mod] at this
 exact this
def fst (s _ : List Int) : List Int := s
theorem up_fn (F : List Int → List Int → Option (List Int)) (H : List Int → List Int → List Int) (hH : ∀ l r, (H l r).length ≤ 9 + l.length + r.length) (hF : ∀ l r, l.length ≤ 1000000000 → r.length ≤ 1000000000 → F l r = some (H l r)) (m : Nat) (hm : m ≤ 1000000000) (n : Nat) (hn : n < 18446744073709551616) :
 ∀ (l : List (List Int)) (i : Nat) (s : List Int), (∀ x ∈ l, x.length ≤ m) → s.length + (m + 9) * l.length ≤ 1000000000 → up_ F (n : Int) l i s = some (chn H H n l i s) ∧ (chn H H n l i s).length ≤ s.length + (m + 9) * l.length
 | [], i, s, _, _ => ⟨rfl, by show s.length ≤ _; omega⟩
 | x :: l, i, s, h, hs => by
  have h2 := hH x s
  have h4 := hH s x
  have h3 := h x List.mem_cons_self
  rw [List.length_cons, Nat.mul_succ] at hs
  have := Nat.mod_two_eq_zero_or_one (n / 2 ^ i)
  rw [up_, bit_and n i hn, chn, List.length_cons, Nat.mul_succ]
  by_cases e : n / 2 ^ i % 2 = 0
  ·obtain ⟨k1, k2⟩ := up_fn F H hH hF m hm n hn l (i + 1) (H s x) (fun y hy => h y (List.mem_cons_of_mem _ hy)) (by omega)
   rw [if_pos (by omega), if_pos e, hF s x (by omega) (by omega), Option.bind_some]
   exact ⟨k1, by omega⟩
  ·obtain ⟨k1, k2⟩ := up_fn F H hH hF m hm n hn l (i + 1) (H x s) (fun y hy => h y (List.mem_cons_of_mem _ hy)) (by omega)
   rw [if_neg (by omega), if_neg e, hF x s (by omega) (by omega), Option.bind_some]
   exact ⟨k1, by omega⟩
theorem upR_fn (F : List Int → List Int → Option (List Int)) (H : List Int → List Int → List Int) (hH : ∀ l r, (H l r).length ≤ 9 + l.length + r.length) (hF : ∀ l r, l.length ≤ 1000000000 → r.length ≤ 1000000000 → F l r = some (H l r)) (m : Nat) (hm : m ≤ 1000000000) (n : Nat) (hn : n < 18446744073709551616) :
 ∀ (l : List (List Int)) (i : Nat) (s : List Int), (∀ x ∈ l, x.length ≤ m) → s.length + (m + 9) * l.length ≤ 1000000000 → upR_ F (n : Int) l i s = some (chn fst H n l i s) ∧ (chn fst H n l i s).length ≤ s.length + (m + 9) * l.length
 | [], i, s, _, _ => ⟨rfl, by show s.length ≤ _; omega⟩
 | x :: l, i, s, h, hs => by
  have h2 := hH x s
  have h3 := h x List.mem_cons_self
  rw [List.length_cons, Nat.mul_succ] at hs
  have := Nat.mod_two_eq_zero_or_one (n / 2 ^ i)
  rw [upR_, bit_and n i hn, chn, List.length_cons, Nat.mul_succ]
  by_cases e : n / 2 ^ i % 2 = 0
  ·obtain ⟨k1, k2⟩ := upR_fn F H hH hF m hm n hn l (i + 1) s (fun y hy => h y (List.mem_cons_of_mem _ hy)) (by omega)
   rw [if_neg (by omega), if_pos e, Option.bind_some]
   exact ⟨k1, by show (chn fst H n l (i + 1) s).length ≤ _; omega⟩
  ·obtain ⟨k1, k2⟩ := upR_fn F H hH hF m hm n hn l (i + 1) (H x s) (fun y hy => h y (List.mem_cons_of_mem _ hy)) (by omega)
   rw [if_pos (by omega), if_neg e, hF x s (by omega) (by omega), Option.bind_some]
   exact ⟨k1, by omega⟩
theorem two_roots (H : List Int → List Int → List Int) (E : List Int) (L : List (List Int)) {l c s n : Nat} (hs : s = (c + 1) * 2 ^ l) (hsn : s ≤ n) (hn : n ≤ L.length) :
 l ≤ (path (s - 1) 0 n).length ∧
 fd H H ((dirs (s - 1) 0 n).drop l) (((path (s - 1) 0 n).map fun p => mth H E (seg L p.1 p.2)).drop l) (mth H E (seg L (c * 2 ^ l) ((c + 1) * 2 ^ l))) = mth H E (seg L 0 n) ∧
 fd fst H ((dirs (s - 1) 0 n).drop l) (((path (s - 1) 0 n).map fun p => mth H E (seg L p.1 p.2)).drop l) (mth H E (seg L (c * 2 ^ l) ((c + 1) * 2 ^ l))) = mth H E (seg L 0 s) := by
 have hp := Nat.two_pow_pos l
 have hs2 : (c + 1) * 2 ^ l = c * 2 ^ l + 2 ^ l := by rw [Nat.add_mul, Nat.one_mul]
 have A := fold_node (R := H) (H := H) (val := fun p => mth H E (seg L p.1 p.2)) (T := fun b e => mth H E (seg L b e)) (l := l) (c := c) (i := s - 1) (N := n) (by omega) (by omega)
  (fun b e h he _ _ => mth_seg H E (by omega) h) (fun b e h he _ _ => mth_seg H E (by omega) h) n 0 n rfl (Nat.le_refl _) (Nat.zero_le _) (by omega) (Nat.zero_mod _)
 have B := fold_node (R := fst) (H := H) (val := fun p => mth H E (seg L p.1 p.2)) (T := fun b e => mth H E (seg L b s)) (l := l) (c := c) (i := s - 1) (N := n) (by omega) (by omega)
  (fun b e h he _ _ => rfl) (fun b e h he h1 h2 => by
   obtain ⟨κ, hκ⟩ : ∃ κ, psplit (e - b) = 2 ^ κ := ⟨_, rfl⟩
   have g2 := le_psplit (n := e - b) h
   have hk : psplit (s - b) = psplit (e - b) := by
    rw [hκ] at g2 h1 ⊢
    exact psplit_unique (by omega) (by omega)
   have g3 := psplit_pos (e - b)
   show mth H E (seg L b s) = H (mth H E (seg L b (b + psplit (e - b)))) (mth H E (seg L (b + psplit (e - b)) s))
   rw [← hk]
   exact mth_seg H E (by omega) (by omega)) n 0 n rfl (Nat.le_refl _) (Nat.zero_le _) (by omega) (Nat.zero_mod _)
 refine ⟨A.1, A.2, ?_⟩
 rw [← hs]
 exact B.2
theorem verT_eq (F : List Int → List Int → Option (List Int)) (H : List Int → List Int → List Int) (hH : ∀ l r, (H l r).length ≤ 9 + l.length + r.length) (hF : ∀ l r, l.length ≤ 1000000000 → r.length ≤ 1000000000 → F l r = some (H l r)) (m : Nat) (hm : m ≤ 1000000000) (n : Nat) (hn : n < 18446744073709551616)
 (i : Nat) (q : List Int) (ys : List (List Int)) (r1 r2 : List Int) (hy : ∀ x ∈ ys, x.length ≤ m) (hq : q.length + (m + 9) * ys.length ≤ 1000000000) :
 verT F (n : Int) i q ys r1 r2 = some (if ((strOfNums (bord H (ys.drop i) (chn fst H n (ys.take i) 0 q))).toList == (strOfNums r1).toList) = true then vmat (bord H (ys.drop i) (chn H H n (ys.take i) 0 q)) r2 else (1, bord H (ys.drop i) (chn fst H n (ys.take i) 0 q))) := by
 have hl : ys.length = (ys.take i).length + (ys.drop i).length := by rw [← List.length_append, List.take_append_drop]
 rw [hl, Nat.mul_add] at hq
 have h1 : ∀ x ∈ ys.take i, x.length ≤ m := fun x hx => hy x (List.mem_of_mem_take hx)
 have h2 : ∀ x ∈ ys.drop i, x.length ≤ m := fun x hx => hy x (List.mem_of_mem_drop hx)
 obtain ⟨u1, u2⟩ := upR_fn F H hH hF m hm n hn (ys.take i) 0 q h1 (by omega)
 obtain ⟨v1, v2⟩ := up_fn F H hH hF m hm n hn (ys.take i) 0 q h1 (by omega)
 unfold verT
 rw [u1, Option.bind_some, upB_eq F H hH hF m hm (ys.drop i) _ h2 (by omega), Option.bind_some, v1, Option.bind_some, upB_eq F H hH hF m hm (ys.drop i) _ h2 (by omega), Option.bind_some]
 split <;> rfl
theorem append_form (a0 a1 a2 a3 a4 a5 : Int) {b m e : Nat} (hbm : b ≤ m) (hme : m ≤ e) (he : e < 18446744073709551616) (h0 : 0 < m) {xs ys : List (List Int)} {M : Nat} (hM : M ≤ 1000000) (hl : xs.length = (Nds 0 b m).length) (hyl : ys.length = (Nds 0 m e).length) (hxs : ∀ y ∈ xs, y.length ≤ M) (hys : ∀ y ∈ ys, y.length ≤ M) (hxr : ∀ y ∈ xs, Real y) (hyr : ∀ y ∈ ys, Real y) (K : Nat) (hK : 3000000000 ≤ K) :
 ∃ zs V, impl_AppendRange.f (K + 1) a0 a1 a2 a3 a4 a5 (b : Int) (m : Int) xs (m : Int) (e : Int) ys = some ((b : Int), (e : Int), zs, V, true) ∧ zs.length = (Nds 0 b e).length ∧ (∀ z ∈ zs, z.length ≤ (M + 9) * 64) ∧ (∀ z ∈ zs, Real z) ∧
  ∀ (H' : List Int → List Int → List Int) (val : Nat × Nat → List Int), (∀ l r, Real l → H' l r = hash a0 a2 a5 l r) → (∀ h q, b ≤ 2 * q * 2 ^ h → (2 * q + 2) * 2 ^ h ≤ e → val (h + 1, q) = H' (val (h, 2 * q)) (val (h, 2 * q + 1))) → xs = (Nds 0 b m).map val → ys = (Nds 0 m e).map val → zs = (Nds 0 b e).map val := by
 have hx1 := Nds_len 0 b m 64 (by omega)
 have hy1 := Nds_len 0 m e 64 (by omega)
 have hz1 := Nds_len 0 b e 64 (by omega)
 unfold impl_AppendRange.f
 rw [if_pos ⟨⟨by omega, by omega, by omega⟩, by rw [compact_RangeSize.eq b m hbm (by omega) K, hl], by omega, by rw [compact_RangeSize.eq m e hme he K, hyl]⟩, texts_small xs (by omega) hxs (by omega) (by omega), Option.bind_some, texts_small ys (by omega) hys (by omega) (by omega), Option.bind_some, if_pos ⟨rfl, rfl⟩, if_pos rfl]
 cases ys with
 | nil =>
  have hem : e ≤ m := Nat.le_of_not_lt fun h => by
   have := Nds_nonempty (l := 0) h
   rw [← hyl] at this; simp at this
  obtain rfl : m = e := by omega
  refine ⟨xs, [], ?_, hl, fun z hz => by have := hxs z hz; omega, hxr, fun H' val _ _ h _ => h⟩
  unfold rangeApp
  dsimp only
  rw [Option.bind_some]
  dsimp only
  rw [texts_small xs (by omega) hxs (by omega) (by omega), Option.bind_some]
 | cons y l =>
  have hlt : m < e := Nat.lt_of_not_le fun h => by
   rw [Nds_empty h] at hyl; simp at hyl
  obtain ⟨zs, V, q1, q2⟩ := merge_is (hash_le a0 a2 a5) hM (impl_H a0 a1 a2 a3 a4 a5 (k := K + 1) (by omega)) hbm hlt he (by omega) hl.symm (by rw [← hyl]; rfl) hxs (fun z hz => hys z (List.mem_cons_of_mem _ hz)) (hys y (List.mem_cons_self ..)) K
  have hzl := q2.len hbm hlt (by omega) hl.symm (by rw [← hyl]; rfl)
  have hzm := q2.le (hash_le a0 a2 a5) hxs (fun z hz => hys z (List.mem_cons_of_mem _ hz)) (hys y (List.mem_cons_self ..))
  have hto := fun (H' : List Int → List Int → List Int) (hH : ∀ l r, Real l → H' l r = hash a0 a2 a5 l r) => q2.to (hash_real a0 a2 a5) hH hxr (fun z hz => hyr z (List.mem_cons_of_mem _ hz)) (hyr y (List.mem_cons_self ..))
  refine ⟨zs, V, ?_, hzl, hzm, (hto _ (fun _ _ _ => rfl)).2, fun H' val hH hv h1 h2 => (hto H' hH).1.val hbm hlt (by omega) hv h1 h2⟩
  unfold rangeApp
  dsimp only
  rw [Int.toNat_natCast, q1, Option.bind_some, Option.bind_some]
  dsimp only
  rw [texts_small zs (by omega) hzm (by omega) (by omega), Option.bind_some]
theorem zI_any {n : Nat} (hn : n < 18446744073709551616) : ∀ i, i < (Nds 0 0 n).length → zI (n : Int) i = ((zN n i : Nat) : Int) ∧ zN n i ≤ n
 | 0, _ => ⟨rfl, Nat.le_refl _⟩
 | i + 1, h => by
  obtain ⟨h1, h2⟩ := zI_any hn i (by omega)
  have hp := (zN_pos (show i < (Nds 0 0 n).length by omega)).1
  obtain ⟨_, _, s3, s4⟩ := zN_step hp
  refine ⟨?_, Nat.le_trans (Nat.le.intro s3) h2⟩
  rw [zI, h1, show ((zN n i : Nat) : Int) - 1 = ((zN n i : Nat) : Int) - ((1 : Nat) : Int) from rfl, u64sub (by omega) (by omega)]
  exact (u64_and_nat (zN n i) (zN n i - 1) (by omega) (by omega)).trans (by rw [s4])
theorem root_form (a0 a1 a2 a3 a4 a5 : Int) (E : List Int) (K : Nat) (hK : 3000000000 ≤ K) (n : Nat) (h0 : 0 < n) (hn : n < 18446744073709551616) {xs : List (List Int)} {M : Nat} (hM : M ≤ 1000000) (hl : xs.length = (Nds 0 0 n).length) (hxs : ∀ y ∈ xs, y.length ≤ M) :
 ∃ V, impl_RootHash.f (K + 1) a0 a1 a2 a3 a4 a5 0 (n : Int) xs = some (foldR (hash a0 a2 a5) E xs, V, true) ∧ (foldR (hash a0 a2 a5) E xs).length ≤ 200000000 := by
 have hx1 := Nds_len 0 0 n 64 (by omega)
 have hlp := Nds_nonempty (l := 0) h0
 obtain ⟨M1, hM1⟩ : ∃ M1, xs.length = M1 + 1 := ⟨xs.length - 1, by omega⟩
 have hne : ∀ i, i ≤ M1 → xs.drop (M1 - i) ≠ [] := fun i hi h => by
  have := congrArg List.length h
  rw [List.length_drop, List.length_nil] at this; omega
 have hfold : ∀ i, i ≤ M1 → foldR_ (impl_toy_HashChildren.f (K + 1) a0 a1 a2 a3 a4 a5) (xs.drop (M1 - i)) = some (foldR (hash a0 a2 a5) E (xs.drop (M1 - i))) ∧ (foldR (hash a0 a2 a5) E (xs.drop (M1 - i))).length ≤ 200000000 := fun i hi => by
  have hbd : ∀ x ∈ xs.drop (M1 - i), x.length ≤ M := fun x hx => hxs x (List.mem_of_mem_drop hx)
  have hs := sum_le _ _ hbd
  have hl2 : (xs.drop (M1 - i)).length ≤ 128 := by rw [List.length_drop]; omega
  have hs2 : M * (xs.drop (M1 - i)).length ≤ 1000000 * 128 := Nat.mul_le_mul hM hl2
  exact foldR_eq a0 a1 a2 a3 a4 a5 E (K + 1) _ 200000000 (hne i hi) (by omega) (by omega) (by omega)
 have hrs : ∀ i, i ≤ M1 → rseed (impl_toy_HashChildren.f (K + 1) a0 a1 a2 a3 a4 a5) xs M1 i = some (foldR (hash a0 a2 a5) E (xs.drop (M1 - i))) := fun i hi => (rseed_fold hM1 i hi).trans (hfold i hi).1
 have hrO : ∀ i, i ≤ M1 → rsOf (impl_toy_HashChildren.f (K + 1) a0 a1 a2 a3 a4 a5) xs M1 i = foldR (hash a0 a2 a5) E (xs.drop (M1 - i)) := fun i hi => by
  unfold rsOf
  rw [hrs i hi]; rfl
 have htz : ∀ i, i < M1 → bits_TrailingZeros64.f (zI (n : Int) (i + 1)) = some ((tzn (zN n (i + 1)) : Nat) : Int) ∧ tzn (zN n (i + 1)) ≤ 64 := fun i hi => by
  obtain ⟨z1, z2⟩ := zI_any hn (i + 1) (by omega)
  have hp := (zN_pos (show i + 1 < (Nds 0 0 n).length by omega)).1
  rw [z1]
  exact ⟨tz_eq hp (by omega), Nat.le_of_lt (tzn_lt hp (by omega)).1⟩
 have hlv : ∀ i, i < M1 → lvI (n : Int) i = tzn (zN n (i + 1)) := fun i hi => by
  unfold lvI
  rw [(htz i hi).1]; rfl
 have hok : rootOk (impl_toy_HashChildren.f (K + 1) a0 a1 a2 a3 a4 a5) (n : Int) xs M1 = true := by
  unfold rootOk
  simp only [Bool.and_eq_true, decide_eq_true_eq]
  refine ⟨by omega, List.all_eq_true.mpr (fun i hi => ?_), List.all_eq_true.mpr (fun i hi => ?_)⟩
  ·have hi := List.mem_range.mp hi
   rw [hlv i hi, Bool.and_eq_true, decide_eq_true_eq, decide_eq_true_eq]
   exact htz i hi
  ·have hi := List.mem_range.mp hi
   rw [hrO i (by omega), decide_eq_true_eq]
   have := (hfold i (by omega)).2; omega
 have hall := hfold M1 (Nat.le_refl _)
 rw [Nat.sub_self, List.drop_zero] at hall
 refine ⟨rootV (impl_toy_HashChildren.f (K + 1) a0 a1 a2 a3 a4 a5) (n : Int) xs M1, ?_, hall.2⟩
 unfold impl_RootHash.f
 rw [if_pos ⟨rfl, by omega, by rw [show (0 : Int) = ((0 : Nat) : Int) from rfl, compact_RangeSize.eq 0 n (Nat.zero_le _) (by omega) K, hl]⟩, texts_small xs (by omega) hxs (by omega) (by omega), Option.bind_some, if_pos ⟨rfl, by omega⟩, hM1, Nat.add_sub_cancel]
 unfold rootF
 rw [hrs M1 (Nat.le_refl _), Option.bind_some, if_pos hok, Nat.sub_self, List.drop_zero]
theorem foldR_real {H H' : List Int → List Int → List Int} (hR : ∀ l r, Real (H l r)) (hH : ∀ l r, Real l → H' l r = H l r) (E : List Int) (hE : Real E) : ∀ (l : List (List Int)), (∀ x ∈ l, Real x) → foldR H' E l = foldR H E l ∧ Real (foldR H E l)
 | [], _ => ⟨rfl, hE⟩
 | [x], h => ⟨rfl, h x (List.mem_cons_self ..)⟩
 | x :: y :: l, h => by
  obtain ⟨h1, h2⟩ := foldR_real hR hH E hE (y :: l) (fun z hz => h z (List.mem_cons_of_mem _ hz))
  rw [foldR_step (l := y :: l) (by simp), foldR_step (l := y :: l) (by simp), h1]
  exact ⟨hH _ _ (h x (List.mem_cons_self ..)), hR _ _⟩
theorem bord_real {H H' : List Int → List Int → List Int} (hR : ∀ l r, Real (H l r)) (hH : ∀ l r, Real l → H' l r = H l r) : ∀ (l : List (List Int)) (s : List Int), (∀ x ∈ l, Real x) → Real s → bord H' l s = bord H l s ∧ Real (bord H l s)
 | [], s, _, hs => ⟨rfl, hs⟩
 | x :: l, s, h, hs => by
  rw [bord, bord, hH x s (h x (List.mem_cons_self ..))]
  exact bord_real hR hH l _ (fun z hz => h z (List.mem_cons_of_mem _ hz)) (hR _ _)
theorem folded_real {H H' : List Int → List Int → List Int} (hR : ∀ l r, Real (H l r)) (hH : ∀ l r, Real l → H' l r = H l r) (b e : Nat) {l : List (List Int)} (h : ∀ x ∈ l, Real x) : folded H' b e l = folded H b e l ∧ ∀ x ∈ folded H b e l, Real x := by
 unfold folded
 split
 ·obtain ⟨k1, k2⟩ := bord_real hR hH ((l.take e).drop (b + 1)) (l.getD b []) (fun y hy => h y (List.mem_of_mem_take (List.mem_of_mem_drop hy))) (getD_real h b)
  rw [k1]
  refine ⟨rfl, fun x hx => ?_⟩
  rcases List.mem_append.1 hx with h1 | h1
  ·exact h x (List.mem_of_mem_take h1)
  ·rcases List.mem_cons.1 h1 with rfl | h2
   ·exact k2
   ·exact h x (List.mem_of_mem_drop h2)
 ·exact ⟨rfl, h⟩
theorem fd_real {H H' : List Int → List Int → List Int} (hR : ∀ l r, Real (H l r)) (hH : ∀ l r, Real l → H' l r = H l r) : ∀ (ds : List Bool) (xs : List (List Int)) (s : List Int), (∀ x ∈ xs, Real x) → Real s → fd H' H' ds xs s = fd H H ds xs s ∧ fd fst H' ds xs s = fd fst H ds xs s
 | [], xs, s, _, _ => ⟨rfl, rfl⟩
 | _ :: _, [], s, _, _ => ⟨rfl, rfl⟩
 | d :: ds, x :: xs, s, h, hs => by
  have hx := h x (List.mem_cons_self ..)
  have hxs : ∀ y ∈ xs, Real y := fun y hy => h y (List.mem_cons_of_mem _ hy)
  show fd H' H' ds xs (if d then H' x s else H' s x) = fd H H ds xs (if d then H x s else H s x) ∧ fd fst H' ds xs (if d then H' x s else fst s x) = fd fst H ds xs (if d then H x s else fst s x)
  rw [hH x s hx, hH s x hs]
  cases d
  ·exact ⟨(fd_real hR hH ds xs _ hxs (hR _ _)).1, (fd_real hR hH ds xs _ hxs hs).2⟩
  ·exact fd_real hR hH ds xs _ hxs (hR _ _)
theorem vmat_self (c : List Int) : vmat c c = (0, []) := by unfold vmat; rw [if_pos (by simp)]
theorem core_grow (a0 a1 a2 a3 a4 a5 : Int) {H' : List Int → List Int → List Int} (hH : ∀ l r, Real l → H' l r = hash a0 a2 a5 l r) (E : List Int) (L : List (List Int)) (hn : L.length < 18446744073709551616) (l c s : Nat) (hs : s = (c + 1) * 2 ^ l) (hsn : s < L.length) (hlf : l ≤ fork (s - 1) (L.length - 1))
 (ys : List (List Int)) (hYS : ys = ((path (s - 1) 0 L.length).map fun p => mth H' E (seg L p.1 p.2)).drop l) (hyr : ∀ y ∈ ys, Real y) (hym : ∀ y ∈ ys, y.length ≤ 5000000) (hyl : ys.length ≤ 64)
 (q : List Int) (hq : q = mth H' E (seg L (c * 2 ^ l) ((c + 1) * 2 ^ l))) (hqr : Real q) (hqm : q.length ≤ 200000000)
 (hlen : ys.length = fork (s - 1) (L.length - 1) - l + ones ((s - 1) / 2 ^ fork (s - 1) (L.length - 1))) (K : Nat) (hK : 3000000000 ≤ K) :
 verT (impl_toy_HashChildren.f K a0 a1 a2 a3 a4 a5) (((s - 1) / 2 ^ l : Nat) : Int) (fork (s - 1) (L.length - 1) - l) q ys (mth H' E (seg L 0 s)) (mth H' E (seg L 0 L.length)) = some (0, []) := by
 have hp := Nat.two_pow_pos l
 have hs2 : (c + 1) * 2 ^ l = c * 2 ^ l + 2 ^ l := by rw [Nat.add_mul, Nat.one_mul]
 obtain ⟨t0, t1, t2⟩ := two_roots H' E L hs (Nat.le_of_lt hsn) (Nat.le_refl _)
 rw [← hYS, ← hq] at t1 t2
 have hmul : (5000000 + 9) * ys.length ≤ 5000009 * 64 := Nat.mul_le_mul_left _ hyl
 rw [verT_eq _ (hash a0 a2 a5) (hash_le a0 a2 a5) (impl_H a0 a1 a2 a3 a4 a5 (by omega)) 5000000 (by omega) ((s - 1) / 2 ^ l) (Nat.lt_of_le_of_lt (Nat.div_le_self _ _) (by omega)) _ q ys _ _ hym (by omega),
  prog_fd fst (hash a0 a2 a5) (show s - 1 < L.length by omega) hlf ys hlen, prog_fd (hash a0 a2 a5) (hash a0 a2 a5) (show s - 1 < L.length by omega) hlf ys hlen]
 obtain ⟨r1, r2⟩ := fd_real (hash_real a0 a2 a5) hH ((dirs (s - 1) 0 L.length).drop l) ys q hyr hqr
 rw [← r1, ← r2, t1, t2, if_pos (by simp), vmat_self]
theorem verC_grow (a0 a1 a2 a3 a4 a5 : Int) {H' : List Int → List Int → List Int} (hH : ∀ l r, Real l → H' l r = hash a0 a2 a5 l r) (E : List Int) (L : List (List Int)) (hn : L.length < 18446744073709551616) (s : Nat) (hs1 : 1 ≤ s) (hs : s < L.length)
 (x : List (List Int)) (hx : x = (cpath s 0 L.length true).map fun p => mth H' E (seg L p.1 p.2)) (hxm : ∀ y ∈ x, y.length ≤ 5000000) (hxr : ∀ y ∈ x, Real y) (hr : (mth H' E (seg L 0 s)).length ≤ 200000000) (hrr : Real (mth H' E (seg L 0 s))) (K : Nat) (hK : 3000000000 ≤ K) :
 verC K (impl_toy_HashChildren.f K a0 a1 a2 a3 a4 a5) (s : Int) (L.length : Int) x (mth H' E (seg L 0 s)) (mth H' E (seg L 0 L.length)) = some (0, []) := by
 unfold verC
 rw [if_neg (by omega)]
 obtain ⟨o1, o2⟩ := lev_odd (s := s) (by omega)
 obtain ⟨f1, f2⟩ := lev_facts (s := s) (n := L.length) (by omega) (by omega) (by omega)
 obtain ⟨l, hl⟩ : ∃ l, l = lev s (2 * s) := ⟨_, rfl⟩
 rw [← hl] at o1 o2 f1 f2
 obtain ⟨M, hM⟩ : ∃ M, M = s / 2 ^ l := ⟨_, rfl⟩
 rw [← hM] at o1 o2 f2
 have hp := Nat.two_pow_pos l
 have hc : s = (M - 1 + 1) * 2 ^ l := by rw [show M - 1 + 1 = M by omega, Nat.mul_comm]; exact o1
 obtain ⟨p1, p2, p3⟩ := path_node l M s L.length o2 o1 (by omega)
 have hs2 : (M - 1 + 1) * 2 ^ l = (M - 1) * 2 ^ l + 2 ^ l := by rw [Nat.add_mul, Nat.one_mul]
 have hdiv : (s - 1) / 2 ^ l = M - 1 := by
  apply Nat.div_eq_of_lt_le
  ·omega
  ·show s - 1 < (M - 1 + 1) * 2 ^ l; omega
 have hlf2 : l < fork (s - 1) (L.length - 1) := by
  apply Nat.lt_of_not_le; intro h
  have h2 := fork_le.1 h
  rw [hdiv] at h2
  have h3 : M ≤ (L.length - 1) / 2 ^ l := by
   rw [Nat.le_div_iff_mul_le hp, Nat.mul_comm, ← o1]; omega
  omega
 have hlf := Nat.le_of_lt hlf2
 have hpl := path_length L.length (s - 1) (by omega)
 have htz : bits_TrailingZeros64.f (s : Int) = some (l : Int) := by rw [o1]; exact bits_TrailingZeros64.eq l M o2 (by rw [← o1]; omega)
 have hdc : proof_decompInclProof.f K ((s : Int) - 1) (L.length : Int) = some (((fork (s - 1) (L.length - 1) : Nat) : Int), ((ones ((s - 1) / 2 ^ fork (s - 1) (L.length - 1)) : Nat) : Int)) := by
  rw [show (s : Int) - 1 = ((s - 1 : Nat) : Int) by omega, show K = (K - 1) + 1 by omega]
  exact proof_decompInclProof.eq (s - 1) L.length (by omega) (by omega) (K - 1)
 have hplen := path_len (s - 1) 0 L.length
 have hblen := blen_lt64 (n := L.length - 0 - 1) (by omega)
 obtain ⟨YS, hYS⟩ : ∃ YS, YS = ((path (s - 1) 0 L.length).map fun p => mth H' E (seg L p.1 p.2)).drop l := ⟨_, rfl⟩
 obtain ⟨Q0, hQ0⟩ : ∃ Q0, Q0 = mth H' E (seg L ((M - 1) * 2 ^ l) ((M - 1 + 1) * 2 ^ l)) := ⟨_, rfl⟩
 have hYl : YS.length = fork (s - 1) (L.length - 1) - l + ones ((s - 1) / 2 ^ fork (s - 1) (L.length - 1)) := by
  rw [hYS, List.length_drop, List.length_map, hpl]; omega
 have hPP : x = (if M = 1 then [] else [Q0]) ++ YS := by
  rw [hx, p3, ← p1, List.map_append, List.map_drop, ← hYS, hQ0]
  by_cases h : M = 1
  ·rw [if_pos h, if_pos h]; rfl
  ·rw [if_neg h, if_neg h]; rfl
 have hpow : (2 : Int) ^ ((l : Int)).toNat = ((2 ^ l : Nat) : Int) := by rw [Int.toNat_natCast, Int.natCast_pow]; rfl
 have hone : ((s : Int) = 2 ^ ((l : Int)).toNat) ↔ M = 1 := by
  rw [hpow]
  constructor
  ·intro h
   have h2 : 2 ^ l * M = 2 ^ l * 1 := by rw [← o1]; omega
   exact Nat.eq_of_mul_eq_mul_left hp h2
  ·intro h
   rw [h, Nat.mul_one] at o1; omega
 have hmask : ((s : Int) - 1) / 2 ^ ((l : Int)).toNat = (((s - 1) / 2 ^ l : Nat) : Int) := by
  rw [hpow, show (s : Int) - 1 = ((s - 1 : Nat) : Int) by omega, Int.natCast_ediv]
 have hYm : ∀ y ∈ YS, y ∈ x := fun y hy => by rw [hPP]; exact List.mem_append_right _ hy
 have hcore := core_grow a0 a1 a2 a3 a4 a5 hH E L hn l (M - 1) s hc (by omega) hlf YS hYS (fun y hy => hxr y (hYm y hy)) (fun y hy => hxm y (hYm y hy)) (by rw [hYS, List.length_drop, List.length_map]; omega)
 obtain ⟨f, hf⟩ : ∃ f, f = fork (s - 1) (L.length - 1) := ⟨_, rfl⟩
 obtain ⟨w, hw⟩ : ∃ w, w = ones ((s - 1) / 2 ^ fork (s - 1) (L.length - 1)) := ⟨_, rfl⟩
 rw [← hQ0, ← hw, ← hf] at hcore
 rw [← hw, ← hf] at hYl hdc
 rw [← hf] at hlf hlf2 hpl
 have hfw : f + w ≤ 64 := by rw [← hf] at hw; rw [← hw] at hpl; omega
 have hz : ¬ x.length = 0 := by
  rw [hPP, List.length_append, hYl]; omega
 rw [if_neg hz, hdc, Option.bind_some, htz, Option.bind_some]
 dsimp only
 rw [if_pos ⟨by omega, by omega, by omega, by omega, by omega⟩, hmask, show ((f : Int) - (l : Int)).toNat = f - l by omega]
 by_cases h1 : M = 1
 ·rw [if_pos h1, List.nil_append] at hPP
  rw [if_pos (hone.2 h1), if_pos (by rw [hPP, hYl]; omega), hPP]
  have hQ1 : mth H' E (seg L 0 s) = Q0 := by
   rw [hQ0, ← hc, h1, Nat.sub_self, Nat.zero_mul]
  exact hcore _ hQ1 hrr hr hYl K hK
 ·rw [if_neg h1] at hPP
  have hQx : Q0 ∈ x := by rw [hPP]; exact List.mem_cons_self ..
  rw [if_neg (fun h => h1 (hone.1 h)), if_pos (by rw [hPP, List.length_append, hYl, List.length_singleton]; omega), hPP]
  exact hcore Q0 rfl (hxr _ hQx) (by have := hxm _ hQx; omega) hYl K hK
theorem plan_up (i l n m : Nat) (hE : (i / 2 ^ m + 1) * 2 ^ (l + m) ≤ n) (T : Nat × Nat → Prop) (hA : ∀ p ∈ Nds 0 0 (i * 2 ^ l), T p) (hB : ∀ p ∈ Nds 0 ((i + 1) * 2 ^ l) n, T p) : ∀ t, t ≤ m →
 (∀ p ∈ Nds 0 0 (i / 2 ^ t * 2 ^ (l + t)), T p) ∧ (∀ p ∈ Nds 0 ((i / 2 ^ t + 1) * 2 ^ (l + t)) n, T p) ∧ ∀ j, j < t → T (l + j, (sib i j).2)
 | 0, _ => by
  rw [Nat.pow_zero, Nat.div_one, Nat.add_zero]
  exact ⟨hA, hB, fun j hj => absurd hj (Nat.not_lt_zero j)⟩
 | t + 1, ht => by
  obtain ⟨h1, h2, h3⟩ := plan_up i l n m hE T hA hB t (by omega)
  have hbl := Nat.le_trans (blk_le i l (show t + 1 ≤ m from ht)) hE
  have hx : i / 2 ^ (t + 1) = i / 2 ^ t / 2 := by rw [Nat.pow_succ, ← Nat.div_div_eq_div_mul]
  have hs : (sib i t).2 = if i / 2 ^ t % 2 = 0 then i / 2 ^ t + 1 else i / 2 ^ t - 1 := rfl
  rw [hx, show l + (t + 1) = l + t + 1 from rfl] at hbl ⊢
  generalize i / 2 ^ t = x at *
  have hpp := pow_up (l + t)
  have e1 : x / 2 * 2 ^ (l + t + 1) = 2 * (x / 2) * 2 ^ (l + t) := by rw [hpp, Nat.mul_left_comm, Nat.mul_assoc]
  have e2 : (x / 2 + 1) * 2 ^ (l + t + 1) = (2 * (x / 2) + 2) * 2 ^ (l + t) := by rw [hpp, Nat.mul_left_comm, ← Nat.mul_assoc]; rfl
  rw [e1, e2]
  rw [e2] at hbl
  by_cases hev : x % 2 = 0
  ·rw [if_pos hev] at hs
   rw [show 2 * (x / 2) = x by omega] at hbl ⊢
   rw [mNds_first (show (x + 1) % 2 = 1 by omega) hbl] at h2
   refine ⟨h1, fun p hp => h2 p (List.mem_cons_of_mem _ hp), fun j hj => ?_⟩
   rcases Nat.lt_succ_iff_lt_or_eq.mp hj with h | rfl
   ·exact h3 j h
   ·rw [hs]; exact h2 _ (List.mem_cons_self ..)
  ·rw [if_neg hev] at hs
   rw [show 2 * (x / 2) = x - 1 by omega, show x - 1 + 2 = x + 1 by omega] at hbl ⊢
   have hl := mNds_last (l + t) 0 0 (x - 1) (by omega) (Nat.zero_le _)
   rw [show x - 1 + 1 = x by omega, Nat.zero_add] at hl
   rw [hl] at h1
   refine ⟨fun p hp => h1 p (List.mem_append_left _ hp), h2, fun j hj => ?_⟩
   rcases Nat.lt_succ_iff_lt_or_eq.mp hj with h | rfl
   ·exact h3 j h
   ·rw [hs]; exact h1 _ (List.mem_append_right _ (List.mem_singleton.mpr rfl))
theorem plan_in (i l n : Nat) (hi : i < n / 2 ^ l) (T : Nat × Nat → Prop) (hA : ∀ p ∈ Nds 0 0 (i * 2 ^ l), T p) (hB : ∀ p ∈ Nds 0 ((i + 1) * 2 ^ l) n, T p) : ∀ p ∈ ndS i l n ++ (Nds 0 (ndE i l n) n).reverse ++ (Nds 0 0 (ndB i l n)).reverse, T p := by
 have hE := (ndE_le i l n hi).2
 unfold ndE at hE
 obtain ⟨h1, h2, h3⟩ := plan_up i l n (ndM i l n) hE T hA hB (ndM i l n) (Nat.le_refl _)
 intro p hp
 rcases List.mem_append.mp hp with hp | hp
 ·rcases List.mem_append.mp hp with hp | hp
  ·unfold ndS at hp
   obtain ⟨t, ht, rfl⟩ := List.mem_map.mp hp
   exact h3 t (List.mem_range.mp ht)
  ·exact h2 p (List.mem_reverse.mp hp)
 ·exact h1 p (List.mem_reverse.mp hp)
theorem conPlan_in (s n : Nat) (h0 : 0 < s) (hs : s ≤ n) (hn : n < 18446744073709551616) : ∀ p ∈ (conPlan s n).1, p ∈ twoK s n := by
 unfold conPlan
 by_cases h : s = n ∨ s = 0
 ·rw [if_pos h]; intro p hp; cases hp
 rw [if_neg h]
 obtain ⟨o1, o2⟩ := lev_odd (s := s) h0
 obtain ⟨f1, f2⟩ := lev_facts (s := s) (n := n) h0 (by omega) hn
 generalize lev s (2 * s) = l at *
 generalize s / 2 ^ l = M at *
 have hc : s = (M - 1 + 1) * 2 ^ l := by rw [show M - 1 + 1 = M by omega, Nat.mul_comm]; exact o1
 have hl := mNds_last l 0 0 (M - 1) (by omega) (Nat.zero_le _)
 rw [← hc, Nat.zero_add] at hl
 have hin := plan_in (M - 1) l n f2 (fun p => p ∈ twoK s n) (fun p hp => List.mem_append_left _ (by rw [hl]; exact List.mem_append_left _ hp)) (fun p hp => List.mem_append_right _ (by rw [← hc] at hp; exact hp))
 split
 ·exact hin
 ·intro p hp
  rcases List.mem_cons.mp hp with rfl | hp
  ·exact List.mem_append_left _ (by rw [hl]; exact List.mem_append_right _ (List.mem_singleton.mpr rfl))
  ·exact hin p hp
theorem plan_proof (H : List Int → List Int → List Int) (E : List Int) (L : List (List Int)) (hn : L.length < 18446744073709551616) (s : Nat) (h0 : 0 < s) (hs : s ≤ L.length) :
 folded H (conPlan s L.length).2.1 (conPlan s L.length).2.2 ((conPlan s L.length).1.map (nodeH H E L)) = (cpath s 0 L.length true).map fun p => mth H E (seg L p.1 p.2) := by
 unfold conPlan
 by_cases h : s = L.length ∨ s = 0
 ·rw [if_pos h]
  obtain rfl : s = L.length := by omega
  rw [cpath_end]; rfl
 rw [if_neg h]
 obtain ⟨o1, o2⟩ := lev_odd (s := s) h0
 obtain ⟨f1, f2⟩ := lev_facts (s := s) (n := L.length) h0 (by omega) hn
 generalize lev s (2 * s) = l at *
 generalize s / 2 ^ l = M at *
 obtain ⟨p1, p2, p3⟩ := path_node l M s L.length o2 o1 (by omega)
 have hpm : (nParts (M - 1) l L.length).map (prtV H E (nodeH H E L)) = (nParts (M - 1) l L.length).map fun p => mth H E (seg L p.1 p.2) :=
  List.map_congr_left (fun p hp => (part_mth H E L (M - 1) l L.length f2 (Nat.le_refl _) p hp).1)
 rw [p3]
 by_cases h1 : M = 1
 ·rw [if_pos h1, if_pos h1, List.nil_append]
  exact (folded_parts H E (nodeH H E L) (M - 1) l L.length f2).trans hpm
 ·rw [if_neg h1, if_neg h1]
  refine (folded_parts1 H E (nodeH H E L) (M - 1) l L.length f2).trans ?_
  rw [hpm]; rfl
end Go.Proofs.YtielnphmcaecdaaDoor.Hsh
