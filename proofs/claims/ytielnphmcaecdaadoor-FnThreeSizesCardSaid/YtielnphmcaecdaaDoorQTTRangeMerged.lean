-- Written by a program of this session (wip/tools)
import Derived.Test.YtielnphmcaecdaaDoorQTTNds
import Derived.Test.YtielnphmcaecdaaDoorQTTExtRangeO
import Derived.Test.YtielnphmcaecdaaDoorQTTExtRangeN
import Derived.Test.YtielnphmcaecdaaDoorQTTTreeMem
import Derived.Test.YtielnphmcaecdaaDoorQTTPAllx6
import Derived.Test.YtielnphmcaecdaaDoorQTTExtTreeB
import Derived.Test.YtielnphmcaecdaaDoorQTTExtGrow
import Derived.Test.YtielnphmcaecdaaDoorQTTExtRangeA3
import Derived.Deep.RegionHeldLaw
import Derived.Test.YtielnphmcaecdaaDoorQTTExtConMade
import Derived.Test.YtielnphmcaecdaaDoorQTTMergeLaw
import Derived.Test.YtielnphmcaecdaaDoorQTTPAllx8
import Derived.Outline
import Derived.Deep.QuietTactic
import Derived.BigQuiet
import Derived.Deep.RegionWith
import Derived.Deep.RegionLaw
import Derived.IntWalk
import Derived.Test.YtielnphmcaecdaaDoorQTTPAllx9
set_option maxHeartbeats 8000000
set_option maxRecDepth 100000
set_option linter.unusedVariables false
set_option linter.unusedSimpArgs false
namespace Go.Proofs.YtielnphmcaecdaaDoor.Mth
def seg (L : List (List Int)) (b e : Nat) : List (List Int) := (L.take e).drop b
theorem seg_length {L : List (List Int)} {b e : Nat} (h : e ≤ L.length) : (seg L b e).length = e - b := by
 unfold seg; rw [List.length_drop, List.length_take]; omega
theorem seg_take {L : List (List Int)} {b e k : Nat} (h : b + k ≤ e) : (seg L b e).take k = seg L b (b + k) := by
 unfold seg
 rw [List.take_drop, List.take_take, Nat.min_eq_left h]
theorem seg_drop {L : List (List Int)} {b e k : Nat} : (seg L b e).drop k = seg L (b + k) e := by
 unfold seg
 rw [List.drop_drop]
theorem seg_one {L : List (List Int)} {b : Nat} (h : b < L.length) : seg L b (b + 1) = [L[b]] := by
 unfold seg
 rw [List.drop_take, Nat.add_sub_cancel_left, List.drop_eq_getElem_cons h]; rfl
def mth (H : List Int → List Int → List Int) (E : List Int) (L : List (List Int)) : List Int :=
 if _h : L.length ≤ 1 then L.headD E else H (mth H E (L.take (psplit L.length))) (mth H E (L.drop (psplit L.length)))
termination_by L.length
decreasing_by
 ·have := psplit_lt (n := L.length) (by omega); rw [List.length_take]; omega
 ·have := psplit_pos L.length; rw [List.length_drop]; omega
theorem mth_one (H : List Int → List Int → List Int) (E x : List Int) : mth H E [x] = x := by rw [mth, dif_pos (by simp)]; rfl
theorem mth_split (H : List Int → List Int → List Int) (E : List Int) {L : List (List Int)} (h : 2 ≤ L.length) : mth H E L = H (mth H E (L.take (psplit L.length))) (mth H E (L.drop (psplit L.length))) := by
 rw [mth, dif_neg (by omega)]
theorem mth_seg (H : List Int → List Int → List Int) (E : List Int) {L : List (List Int)} {b e : Nat} (he : e ≤ L.length) (h : 2 ≤ e - b) : mth H E (seg L b e) = H (mth H E (seg L b (b + psplit (e - b)))) (mth H E (seg L (b + psplit (e - b)) e)) := by
 have hl := seg_length (b := b) he
 have hp := psplit_lt h
 rw [mth_split H E (by omega), hl, seg_take (by omega), seg_drop]
theorem mth_perfect (H : List Int → List Int → List Int) (E : List Int) {L : List (List Int)} {i j : Nat} (h : (j + 1) * 2 ^ (i + 1) ≤ L.length) :
 mth H E (seg L (j * 2 ^ (i + 1)) ((j + 1) * 2 ^ (i + 1))) = H (mth H E (seg L (2 * j * 2 ^ i) ((2 * j + 1) * 2 ^ i))) (mth H E (seg L ((2 * j + 1) * 2 ^ i) ((2 * j + 1 + 1) * 2 ^ i))) := by
 have hp := Nat.two_pow_pos i
 have e1 : j * 2 ^ (i + 1) = 2 * j * 2 ^ i := by rw [Nat.pow_succ]; ac_rfl
 have e2 : (2 * j + 1) * 2 ^ i = 2 * j * 2 ^ i + 2 ^ i := by rw [Nat.add_mul, Nat.one_mul]
 have e3 : (j + 1) * 2 ^ (i + 1) = (2 * j + 1 + 1) * 2 ^ i := by rw [show 2 * j + 1 + 1 = 2 * (j + 1) by omega, Nat.pow_succ]; ac_rfl
 have e4 : (2 * j + 1 + 1) * 2 ^ i = 2 * j * 2 ^ i + 2 ^ i + 2 ^ i := by rw [Nat.add_mul, e2, Nat.one_mul]
 have e5 : (j + 1) * 2 ^ (i + 1) - j * 2 ^ (i + 1) = 2 ^ (i + 1) := by rw [e1, e3, e4, Nat.pow_succ]; omega
 rw [mth_seg H E h (by rw [e5, Nat.pow_succ]; omega), e5, psplit_pow, e1, ← e2, e3]
theorem Nds_in (e : Nat) : ∀ (d b : Nat), e - b = d → ∀ p ∈ Nds 0 b e, b ≤ p.2 * 2 ^ p.1 ∧ (p.2 + 1) * 2 ^ p.1 ≤ e := by
 intro d
 induction d using Nat.strongRecOn with
 | _ d ih =>
 intro b hd p hp
 by_cases h : b < e
 ·obtain ⟨s1, s2, _⟩ := lev_spec b e h
  have hpos := Nat.two_pow_pos (lev b e)
  rw [Nds_step 0 b e h, Nat.zero_add] at hp
  rcases List.mem_cons.mp hp with rfl | hp
  ·have := Nat.div_add_mod b (2 ^ lev b e)
   rw [s1, Nat.add_zero] at this
   show b ≤ b / 2 ^ lev b e * 2 ^ lev b e ∧ (b / 2 ^ lev b e + 1) * 2 ^ lev b e ≤ e
   rw [Nat.add_mul, Nat.mul_comm (b / _), this]; omega
  ·have := ih (e - (b + 2 ^ lev b e)) (by omega) (b + 2 ^ lev b e) rfl p hp
   omega
 ·rw [Nds_empty (by omega)] at hp
  cases hp
def foldR (H : List Int → List Int → List Int) (E : List Int) : List (List Int) → List Int
 | [] => E
 | [x] => x
 | x :: y :: l => H x (foldR H E (y :: l))
theorem foldR_step {H : List Int → List Int → List Int} {E x : List Int} {l : List (List Int)} (h : l ≠ []) : foldR H E (x :: l) = H x (foldR H E l) := by
 cases l with
 | nil => exact absurd rfl h
 | cons y l => rfl
def nodeH (H : List Int → List Int → List Int) (E : List Int) (L : List (List Int)) (p : Nat × Nat) : List Int := mth H E (seg L (p.2 * 2 ^ p.1) ((p.2 + 1) * 2 ^ p.1))
theorem lev_is' {b e κ : Nat} (h : b < e) (h1 : b % 2 ^ κ = 0) (h2 : b + 2 ^ κ ≤ e) (h3 : e < b + 2 ^ (κ + 1)) : lev b e = κ := by
 obtain ⟨s1, s2, s3⟩ := lev_spec b e h
 rcases Nat.lt_trichotomy (lev b e) κ with hl | hl | hl
 ·have hd : 2 ^ (lev b e + 1) ∣ b := Nat.dvd_trans (Nat.pow_dvd_pow 2 hl) (Nat.dvd_of_mod_eq_zero h1)
  have := s3 (Nat.mod_eq_zero_of_dvd hd)
  have := Nat.pow_le_pow_right (n := 2) (by decide) (show lev b e + 1 ≤ κ from hl)
  omega
 ·exact hl
 ·have := Nat.pow_le_pow_right (n := 2) (by decide) (show κ + 1 ≤ lev b e from hl)
  omega
theorem fold_nodes (H : List Int → List Int → List Int) (E : List Int) (L : List (List Int)) (n : Nat) (hn : n ≤ L.length) : ∀ (d M B : Nat), n - B = d → B % 2 ^ M = 0 → n ≤ B + 2 ^ M → B < n → foldR H E ((Nds 0 B n).map (nodeH H E L)) = mth H E (seg L B n) := by
 intro d
 induction d using Nat.strongRecOn with
 | _ d ih =>
 intro M B hd hB hM hBn
 have hnode : ∀ κ, B % 2 ^ κ = 0 → lev B n = κ → Nds 0 B n = (κ, B / 2 ^ κ) :: Nds 0 (B + 2 ^ κ) n ∧ nodeH H E L (κ, B / 2 ^ κ) = mth H E (seg L B (B + 2 ^ κ)) := by
  intro κ h1 h2
  refine ⟨by have := Nds_step 0 B n hBn; rw [h2, Nat.zero_add] at this; exact this, ?_⟩
  have := Nat.div_add_mod B (2 ^ κ)
  rw [h1, Nat.add_zero] at this
  show mth H E (seg L (B / 2 ^ κ * 2 ^ κ) ((B / 2 ^ κ + 1) * 2 ^ κ)) = _
  rw [Nat.add_mul, Nat.one_mul, Nat.mul_comm (B / _), this]
 by_cases hfull : n = B + 2 ^ M
 ·obtain ⟨e1, e2⟩ := hnode M hB (lev_is' hBn hB (by omega) (by have := Nat.two_pow_pos M; rw [Nat.pow_succ]; omega))
  rw [e1, Nds_empty (by omega), List.map_cons, List.map_nil, foldR, e2, hfull]
 ·by_cases h1 : n - B = 1
  ·have hB0 : B % 2 ^ 0 = 0 := by rw [Nat.pow_zero, Nat.mod_one]
   have hM1 : 0 < M := by
    rcases Nat.eq_zero_or_pos M with h | h
    ·subst h; rw [Nat.pow_zero] at hfull; omega
    ·exact h
   obtain ⟨e1, e2⟩ := hnode 0 hB0 (lev_is' hBn hB0 (by rw [Nat.pow_zero]; omega) (by rw [Nat.zero_add, Nat.pow_one]; omega))
   rw [e1, Nds_empty (by rw [Nat.pow_zero]; omega), List.map_cons, List.map_nil, foldR, e2, Nat.pow_zero, show B + 1 = n by omega]
  ·have h2 : 2 ≤ n - B := by omega
   obtain ⟨κ, hκ⟩ : ∃ κ, psplit (n - B) = 2 ^ κ := ⟨_, rfl⟩
   have hp := Nat.two_pow_pos κ
   have hlt := psplit_lt h2
   have hle := le_psplit h2
   rw [hκ] at hlt hle
   have hpow : 2 ^ (κ + 1) = 2 * 2 ^ κ := by rw [Nat.pow_succ]; omega
   have hκM : κ < M := by
    apply Nat.lt_of_not_le
    intro h
    have := Nat.pow_le_pow_right (n := 2) (by decide) h
    omega
   have hd1 : 2 ^ (κ + 1) ∣ B := Nat.dvd_trans (Nat.pow_dvd_pow 2 hκM) (Nat.dvd_of_mod_eq_zero hB)
   have hd0 : 2 ^ κ ∣ B := Nat.dvd_trans (Nat.pow_dvd_pow 2 (by omega)) hd1
   by_cases hperf : n = B + 2 ^ (κ + 1)
   ·obtain ⟨e1, e2⟩ := hnode (κ + 1) (Nat.mod_eq_zero_of_dvd hd1) (lev_is' hBn (Nat.mod_eq_zero_of_dvd hd1) (by omega) (by rw [Nat.pow_succ 2 (κ + 1)]; omega))
    rw [e1, Nds_empty (by omega), List.map_cons, List.map_nil, foldR, e2, ← hperf]
   ·obtain ⟨e1, e2⟩ := hnode κ (Nat.mod_eq_zero_of_dvd hd0) (lev_is' hBn (Nat.mod_eq_zero_of_dvd hd0) (by omega) (by omega))
    have i1 := ih (n - (B + 2 ^ κ)) (by omega) κ (B + 2 ^ κ) rfl (by rw [Nat.add_mod_right]; exact Nat.mod_eq_zero_of_dvd hd0) (by omega) (by omega)
    rw [e1, List.map_cons, foldR_step (by
     intro h
     have h3 := congrArg List.length h
     rw [List.length_map] at h3
     have := Nds_nonempty (l := 0) (b := B + 2 ^ κ) (e := n) (by omega)
     rw [h3] at this
     exact absurd this (Nat.lt_irrefl 0)), i1, e2, mth_seg H E hn h2, hκ]
end Go.Proofs.YtielnphmcaecdaaDoor.Mth
namespace Go.Proofs.YtielnphmcaecdaaDoor.Mth
open Go.Proofs.YtielnphmcaecdaaDoor.PAll
theorem Nds_snoc (l e : Nat) : Nds l 0 e = Nds (l + 1) 0 (e / 2) ++ (if e % 2 = 1 then [(l, e - 1)] else []) := by
 rcases Nat.eq_zero_or_pos e with h | h
 ·subst h; rw [Nds_empty (Nat.le_refl _), Nds_empty (by omega)]; rfl
 ·rw [Nds_some h, if_neg (show ¬ 0 % 2 = 1 by omega), List.nil_append]
theorem Nds_last (z M : Nat) (hM : M % 2 = 1) : Nds 0 0 (M * 2 ^ z) = Nds 0 0 ((M - 1) * 2 ^ z) ++ [(z, M - 1)] := by
 have a := Nds_shift z 0 M
 have b := Nds_shift z 0 (M - 1)
 rw [Nat.zero_mul] at a b
 rw [a, b, Nds_snoc z M, if_pos hM, Nds_snoc z (M - 1), if_neg (by omega), List.append_nil, show (M - 1) / 2 = M / 2 by omega]
theorem and_pred (M : Nat) (hM : M % 2 = 1) : ∀ z, (2 ^ z * M) &&& (2 ^ z * M - 1) = 2 ^ z * (M - 1)
 | 0 => by
  rw [Nat.pow_zero, Nat.one_mul, Nat.one_mul]
  have h1 : (M &&& (M - 1)) / 2 = (M - 1) / 2 := by
   rw [Nat.and_div_two, show M / 2 = (M - 1) / 2 by omega, Nat.and_self]
  have h2 : (M &&& (M - 1)) % 2 = 0 := by
   have h := Nat.and_mod_two_pow (a := M) (b := M - 1) (n := 1)
   rw [Nat.pow_one, show (M - 1) % 2 = 0 by omega, Nat.and_zero] at h
   exact h
  omega
 | z + 1 => by
  have ih := and_pred M hM z
  have hp := Nat.two_pow_pos z
  have e : 2 ^ (z + 1) * M = 2 * (2 ^ z * M) := by rw [Nat.pow_succ]; ac_rfl
  have e' : 2 ^ (z + 1) * (M - 1) = 2 * (2 ^ z * (M - 1)) := by rw [Nat.pow_succ]; ac_rfl
  have hpos : 0 < 2 ^ z * M := Nat.mul_pos hp (by omega)
  rw [e, e']
  have h1 : (2 * (2 ^ z * M) &&& (2 * (2 ^ z * M) - 1)) / 2 = 2 ^ z * (M - 1) := by
   rw [Nat.and_div_two, show 2 * (2 ^ z * M) / 2 = 2 ^ z * M by omega, show (2 * (2 ^ z * M) - 1) / 2 = 2 ^ z * M - 1 by omega]
   exact ih
  have h2 : (2 * (2 ^ z * M) &&& (2 * (2 ^ z * M) - 1)) % 2 = 0 := by
   have h := Nat.and_mod_two_pow (a := 2 * (2 ^ z * M)) (b := 2 * (2 ^ z * M) - 1) (n := 1)
   rw [Nat.pow_one, show 2 * (2 ^ z * M) % 2 = 0 by omega, Nat.zero_and] at h
   exact h
  omega
theorem tzn_spec {x : Nat} (h : 0 < x) : x = 2 ^ tzn x * (x / 2 ^ tzn x) ∧ x / 2 ^ tzn x % 2 = 1 := by
 obtain ⟨h1, h2, h3⟩ := lev_spec x (2 * x) (by omega)
 have h1 : x % 2 ^ tzn x = 0 := h1
 have e : x = 2 ^ tzn x * (x / 2 ^ tzn x) := by
  have := Nat.div_add_mod x (2 ^ tzn x); omega
 refine ⟨e, ?_⟩
 rcases Nat.mod_two_eq_zero_or_one (x / 2 ^ tzn x) with h4 | h4
 ·exfalso
  obtain ⟨q, hq⟩ : ∃ q, x / 2 ^ tzn x = 2 * q := ⟨x / 2 ^ tzn x / 2, by omega⟩
  rw [hq] at e
  have e2 : x = 2 ^ (tzn x + 1) * q := by
   rw [Nat.pow_succ, Nat.mul_assoc]; exact e
  have h5 : x % 2 ^ (tzn x + 1) = 0 := by
   have := Nat.mul_mod_right (2 ^ (tzn x + 1)) q
   rw [← e2] at this; exact this
  have h6 : 2 * x < x + 2 ^ (tzn x + 1) := h3 h5
  have hq0 : 0 < q := by
   rcases Nat.eq_zero_or_pos q with h | h
   ·rw [h, Nat.mul_zero] at e2; omega
   ·exact h
  have : 2 ^ (tzn x + 1) ≤ 2 ^ (tzn x + 1) * q := Nat.le_mul_of_pos_right _ hq0
  omega
 ·exact h4
theorem odd_succ {M : Nat} (h : M % 2 = 1) : ∃ q, M = q + 1 ∧ (q + 1) % 2 = 1 := ⟨M - 1, by omega, by omega⟩
def zN (n : Nat) : Nat → Nat
 | 0 => n
 | i + 1 => zN n i - 2 ^ tzn (zN n i)
theorem zN_step {n i : Nat} (h : 0 < zN n i) : zN n (i + 1) = 2 ^ tzn (zN n i) * (zN n i / 2 ^ tzn (zN n i) - 1) ∧ Nds 0 0 (zN n i) = Nds 0 0 (zN n (i + 1)) ++ [(tzn (zN n i), zN n i / 2 ^ tzn (zN n i) - 1)] ∧ zN n (i + 1) + 2 ^ tzn (zN n i) = zN n i ∧ (zN n i &&& (zN n i - 1)) = zN n (i + 1) := by
 obtain ⟨e, ho⟩ := tzn_spec h
 obtain ⟨q, hq, hqo⟩ := odd_succ ho
 have e1 : zN n (i + 1) = 2 ^ tzn (zN n i) * q := by
  rw [zN]
  rw [hq, Nat.mul_add, Nat.mul_one] at e
  omega
 have e2 : zN n i = 2 ^ tzn (zN n i) * q + 2 ^ tzn (zN n i) := by rw [hq, Nat.mul_add, Nat.mul_one] at e; exact e
 refine ⟨by rw [hq, Nat.add_sub_cancel]; exact e1, ?_, by omega, ?_⟩
 ·have h1 := Nds_last (tzn (zN n i)) (q + 1) hqo
  rw [Nat.add_sub_cancel, Nat.mul_comm q, ← e1, Nat.mul_comm (q + 1), Nat.mul_add, Nat.mul_one, ← e2] at h1
  rw [hq, Nat.add_sub_cancel]
  exact h1
 ·have h1 := and_pred (q + 1) hqo (tzn (zN n i))
  rw [Nat.add_sub_cancel, ← e1, Nat.mul_add, Nat.mul_one, ← e2] at h1
  exact h1
theorem zN_pos {n i : Nat} (h : i < (Nds 0 0 n).length) : 0 < zN n i ∧ (Nds 0 0 (zN n i)).length + i = (Nds 0 0 n).length := by
 induction i with
 | zero =>
  refine ⟨?_, rfl⟩
  rcases Nat.eq_zero_or_pos n with h0 | h0
  ·subst h0; rw [Nds_empty (Nat.le_refl _)] at h; exact absurd h (Nat.lt_irrefl 0)
  ·exact h0
 | succ i ih =>
  obtain ⟨h1, h2⟩ := ih (by omega)
  have h3 := congrArg List.length (zN_step h1).2.1
  rw [List.length_append, List.length_singleton] at h3
  have h4 : (Nds 0 0 (zN n (i + 1))).length + (i + 1) = (Nds 0 0 n).length := by omega
  refine ⟨?_, h4⟩
  rcases Nat.eq_zero_or_pos (zN n (i + 1)) with h0 | h0
  ·rw [h0, Nds_empty (Nat.le_refl _)] at h4; simp at h4; omega
  ·exact h0
end Go.Proofs.YtielnphmcaecdaaDoor.Mth
namespace Go.Proofs.YtielnphmcaecdaaDoor.PAll
open Go.RowKit Go.Proofs.YtielnphmcaecdaaDoorW.PrintWords Go.Proofs.YtielnphmcaecdaaDoorW.PrintLast Go.Proofs.YtielnphmcaecdaaDoorW.PrintMore
attribute [local go_sem] max2_int min2_int max_two min_two max_three min_three max_four min_four   -- for this text's walks alone
def spec_pathIn.B3 : List Nat := [0, 1, 0, 4, 0, 16, 60, 124, 255, 511]
end Go.Proofs.YtielnphmcaecdaaDoor.PAll
namespace Go.Proofs.YtielnphmcaecdaaDoor.PAll
open Go.RowKit Go.Proofs.YtielnphmcaecdaaDoor.Num Go.Proofs.YtielnphmcaecdaaDoor.Mth Go.Proofs.YtielnphmcaecdaaDoorW.PrintWords Go.Proofs.YtielnphmcaecdaaDoorW.PrintLast
theorem split_loop (n : Nat) (hn : n < 18446744073709551616) (d : Nat) : ∀ (j k : Nat), 2 ^ j < n → blen (n - 1) = j + 1 + d → d < k → spec_split.l0 k (n : Int) ((2 ^ j : Nat) : Int) = some ((psplit n : Nat) : Int) := by
 induction d with
 | zero =>
  intro j k h1 h2 hk
  obtain ⟨k, rfl⟩ : ∃ m, k = m + 1 := ⟨k - 1, by omega⟩
  have h3 : n - 1 < 2 ^ (j + 1) := blen_le.1 (by omega)
  rw [Nat.pow_succ] at h3
  have e : psplit n = 2 ^ j := psplit_unique h1 (by omega)
  rw [spec_split.l0, u64sub (by omega) hn, if_neg (by omega), e]
 | succ d ih =>
  intro j k h1 h2 hk
  obtain ⟨k, rfl⟩ : ∃ m, k = m + 1 := ⟨k - 1, by omega⟩
  have h3 : ¬ n - 1 < 2 ^ (j + 1) := fun h => by have := blen_le.2 h; omega
  have h4 := Nat.pow_succ 2 j
  have e : IntKind.u64.wrap (((2 ^ j : Nat) : Int) * 2) = ((2 ^ (j + 1) : Nat) : Int) := by
   rw [h4]; exact u64mul (a := 2 ^ j) (b := 2) (by omega)
  rw [spec_split.l0, u64sub (by omega) hn, if_pos (by omega), e]
  exact ih (j + 1) k (by omega) (by omega) (by omega)
theorem spec_split.eq (n : Nat) (h2 : 2 ≤ n) (hn : n < 18446744073709551616) (k : Nat) (hk : 64 ≤ k) : spec_split.f k (n : Int) = some ((psplit n : Nat) : Int) := by
 have h1 := blen_pos (n := n - 1) (by omega)
 have h3 := blen_lt64 (n := n - 1) (by omega)
 exact split_loop n hn (blen (n - 1) - 1) 0 k (by simp; omega) (by omega) (by omega)
def prt (p : Nat × Nat) : S53 := ⟨(p.1 : Int), (p.2 : Int)⟩
theorem proof_innerProofSize.eq (i n : Nat) (hi : i < n) (hn : n < 18446744073709551616) (k : Nat) : proof_innerProofSize.f (k + 1) (i : Int) (n : Int) = some ((fork i (n - 1) : Nat) : Int) := by
 have hx : i ^^^ (n - 1) < 18446744073709551616 := Nat.xor_lt_two_pow (n := 64) (by omega) (by omega)
 have e : IntKind.u64.wrap ((n : Int) - 1) = ((n - 1 : Nat) : Int) := u64sub (a := n) (b := 1) (by omega) hn
 unfold proof_innerProofSize.f
 rw [e, xor64 _ _ (by omega) (by omega), bits_Len64.eq _ _ hx]
 rfl
theorem proof_decompInclProof.eq (i n : Nat) (hi : i < n) (hn : n < 18446744073709551616) (k : Nat) : proof_decompInclProof.f (k + 1) (i : Int) (n : Int) = some (((fork i (n - 1) : Nat) : Int), ((ones (i / 2 ^ fork i (n - 1)) : Nat) : Int)) := by
 have hf : fork i (n - 1) ≤ 64 := blen_lt64 (Nat.xor_lt_two_pow (n := 64) (by omega) (by omega))
 have hd := Nat.div_le_self i (2 ^ fork i (n - 1))
 unfold proof_decompInclProof.f
 rw [proof_innerProofSize.eq i n hi hn]
 simp only [Option.bind_some]
 rw [u64in (by omega), if_pos (by omega), shr64' _ _ (by omega), bits_OnesCount64.eq _ (by omega)]
 rfl
end Go.Proofs.YtielnphmcaecdaaDoor.PAll
namespace Go.Proofs.YtielnphmcaecdaaDoor.PAll
open Go.RowKit Go.Proofs.YtielnphmcaecdaaDoor.Mth Go.Proofs.YtielnphmcaecdaaDoorW.PrintWords Go.Proofs.YtielnphmcaecdaaDoorW.PrintLast Go.Proofs.YtielnphmcaecdaaDoorW.PrintMore
theorem Frm.row {base g : Nat} {w w' : World} {tb : Nat} {v : Value} {ss : List SH} (h : Frm base g w w') (hR : Rw w tb v ss) (hb : w.heap.size ≤ base) (hg : v.ownBlock ≠ some g) : Rw w' tb v ss :=
 Kd.R_mono (Kd.R_step (Kd.R_tight rfl hR) (fun k hk hlt => h.block k (by omega) (fun e => hg (by rw [← hk, e])))) (fun _ _ => trivial)
end Go.Proofs.YtielnphmcaecdaaDoor.PAll
namespace Go.Proofs.YtielnphmcaecdaaDoor.Hsh
open Go.RowKit Go.Proofs.YtielnphmcaecdaaDoor.Num Go.Proofs.YtielnphmcaecdaaDoor.Mth Go.Proofs.YtielnphmcaecdaaDoor.PAll Go.Proofs.YtielnphmcaecdaaDoorW.PrintWords Go.Proofs.YtielnphmcaecdaaDoorW.PrintLast
theorem mem_bound {l : List (List Int)} {m : Nat} (h : ∀ j, j < l.length → (l.getD j []).length ≤ m) : ∀ x ∈ l, x.length ≤ m := by
 intro x hx
 obtain ⟨i, hi⟩ := List.getElem?_of_mem hx
 have := h i (List.getElem?_eq_some_iff.1 hi).1
 rw [List.getD_eq_getElem?_getD, hi] at this
 exact this
theorem foldR_eq (a0 a1 a2 a3 a4 a5 : Int) (E : List Int) (K : Nat) : ∀ (l : List (List Int)) (b : Nat), l ≠ [] → (l.map List.length).sum + 9 * l.length ≤ b → b ≤ 1000000000 → 2000000100 ≤ K → foldR_ (impl_toy_HashChildren.f K a0 a1 a2 a3 a4 a5) l = some (foldR (hash a0 a2 a5) E l) ∧ (foldR (hash a0 a2 a5) E l).length ≤ b
 | [], _, h, _, _, _ => absurd rfl h
 | [x], b, _, hb, _, _ => ⟨rfl, by simp at hb; show x.length ≤ b; omega⟩
 | x :: y :: l, b, _, hb, hbb, hK => by
  have hb' : x.length + 9 + (((y :: l).map List.length).sum + 9 * (y :: l).length) ≤ b := by
   rw [List.map_cons, List.sum_cons, List.length_cons] at hb; omega
  obtain ⟨h1, h2⟩ := foldR_eq a0 a1 a2 a3 a4 a5 E K (y :: l) (b - x.length - 9) (by simp) (by omega) (by omega) hK
  have h3 := hash_le a0 a2 a5 x (foldR (hash a0 a2 a5) E (y :: l))
  rw [foldR_, h1, Option.bind_some, impl_hash _ _ _ _ _ _ _ _ (by omega) (by omega) (by omega)]
  exact ⟨rfl, by show (hash a0 a2 a5 x (foldR (hash a0 a2 a5) E (y :: l))).length ≤ b; omega⟩
theorem sum_le (m : Nat) : ∀ (l : List (List Int)), (∀ x ∈ l, x.length ≤ m) → (l.map List.length).sum ≤ m * l.length
 | [], _ => by simp
 | x :: l, h => by
  have h1 := sum_le m l (fun y hy => h y (List.mem_cons_of_mem _ hy))
  have h2 := h x List.mem_cons_self
  rw [List.map_cons, List.sum_cons, List.length_cons, Nat.mul_succ]; omega
theorem tz_eq {x : Nat} (h0 : 0 < x) (hx : x < 18446744073709551616) : bits_TrailingZeros64.f (x : Int) = some ((tzn x : Nat) : Int) := by
 obtain ⟨e, ho⟩ := tzn_spec h0
 have := bits_TrailingZeros64.eq (tzn x) (x / 2 ^ tzn x) ho (by rw [← e]; exact hx)
 rw [← e] at this
 exact this
end Go.Proofs.YtielnphmcaecdaaDoor.Hsh
namespace Go.Proofs.YtielnphmcaecdaaDoor.PAll
open Go.IntWalk Go.RowKit Go.Proofs.YtielnphmcaecdaaDoorW.PrintWords Go.Proofs.YtielnphmcaecdaaDoorW.PrintLast Go.Proofs.YtielnphmcaecdaaDoorW.PrintMore
def TxF (ok : Nat → Prop) (w : World) (s : SH) (b : List Int) : Prop := s.2.1 = b.length ∧ b.length ≤ s.2.2 ∧ Kd.F (Kd.int .u8) w ok s.1 b.length b
theorem TxF.below {ok : Nat → Prop} {w w' : World} {s : SH} {b : List Int} (h : TxF ok w s b) (hb : Below w.heap.size w w') : TxF ok w' s b := ⟨h.1, h.2.1, Kd.F_below h.2.2 hb⟩
theorem TxF.step {ok : Nat → Prop} {w w' : World} {s : SH} {b : List Int} (h : TxF ok w s b) (hm : ∀ k, ok k → k < w.heap.size → w'.heap[k]? = w.heap[k]?) : TxF ok w' s b := ⟨h.1, h.2.1, Kd.F_step h.2.2 hm⟩
theorem TxF.at {ok : Nat → Prop} {w : World} {A : Option Addr} {n c : Nat} {b : List Int} (h : TxF ok w (A, n, c) b) : n = b.length ∧ b.length ≤ c ∧ Kd.C (Kd.int .u8) w A b.length b := ⟨h.1, h.2.1, Kd.F_now h.2.2⟩
end Go.Proofs.YtielnphmcaecdaaDoor.PAll
namespace Go.Proofs.YtielnphmcaecdaaDoor.PAll
open Go.RowKit Go.Proofs.YtielnphmcaecdaaDoor.Num Go.Proofs.YtielnphmcaecdaaDoor.Mth Go.Proofs.YtielnphmcaecdaaDoor.Hsh Go.Proofs.YtielnphmcaecdaaDoorW.PrintWords Go.Proofs.YtielnphmcaecdaaDoorW.PrintLast
def bord (H : List Int → List Int → List Int) : List (List Int) → List Int → List Int
 | [], s => s
 | x :: xs, s => bord H xs (H x s)
theorem bord_append (H : List Int → List Int → List Int) : ∀ l m s, bord H (l ++ m) s = bord H m (bord H l s)
 | [], _, _ => rfl
 | x :: l, m, s => bord_append H l m _
theorem bord_le {H : List Int → List Int → List Int} (hH : ∀ l r, (H l r).length ≤ 9 + l.length + r.length) (m : Nat) : ∀ (l : List (List Int)) (s : List Int), (∀ x ∈ l, x.length ≤ m) → (bord H l s).length ≤ s.length + (m + 9) * l.length
 | [], s, _ => by simp [bord]
 | x :: l, s, h => by
  have h1 := bord_le hH m l (H x s) (fun y hy => h y (List.mem_cons_of_mem _ hy))
  have h2 := hH x s
  have h3 := h x List.mem_cons_self
  rw [bord, List.length_cons, Nat.mul_succ]; omega
theorem upB_eq (F : List Int → List Int → Option (List Int)) (H : List Int → List Int → List Int) (hH : ∀ l r, (H l r).length ≤ 9 + l.length + r.length) (hF : ∀ l r, l.length ≤ 1000000000 → r.length ≤ 1000000000 → F l r = some (H l r)) (m : Nat) (hm : m ≤ 1000000000) :
 ∀ (l : List (List Int)) (s : List Int), (∀ x ∈ l, x.length ≤ m) → s.length + (m + 9) * l.length ≤ 1000000000 → upB_ F l s = some (bord H l s)
 | [], s, _, _ => rfl
 | x :: l, s, h, hs => by
  have h2 := hH x s
  have h3 := h x List.mem_cons_self
  rw [List.length_cons, Nat.mul_succ] at hs
  rw [upB_, hF x s (by omega) (by omega), Option.bind_some]
  exact upB_eq F H hH hF m hm l (H x s) (fun y hy => h y (List.mem_cons_of_mem _ hy)) (by omega)
theorem impl_H (a0 a1 a2 a3 a4 a5 : Int) {k : Nat} (hk : 2000000100 ≤ k) : ∀ l r : List Int, l.length ≤ 1000000000 → r.length ≤ 1000000000 → impl_toy_HashChildren.f k a0 a1 a2 a3 a4 a5 l r = some (hash a0 a2 a5 l r) :=
 fun l r hl hr => impl_hash a0 a1 a2 a3 a4 a5 l r (by omega) (by omega) (by omega)
def folded (H : List Int → List Int → List Int) (b e : Nat) (l : List (List Int)) : List (List Int) := if b < e then l.take b ++ bord H ((l.take e).drop (b + 1)) (l.getD b []) :: l.drop e else l
theorem folded_rehL (H : List Int → List Int → List Int) (b e : Nat) (l : List (List Int)) : folded H b e l = rehL b e l (bord H ((l.take e).drop (b + 1)) (l.getD b [])) := rfl
theorem folded_le {H : List Int → List Int → List Int} (hH : ∀ l r, (H l r).length ≤ 9 + l.length + r.length) {m : Nat} (b e : Nat) {l : List (List Int)} (h : ∀ x ∈ l, x.length ≤ m) : (folded H b e l).length ≤ l.length + 1 ∧ ∀ x ∈ folded H b e l, x.length ≤ m + (m + 9) * l.length := by
 unfold folded
 split
 ·have hb : (l.getD b []).length ≤ m := by
   by_cases hl : b < l.length
   ·rw [List.getD_eq_getElem?_getD, List.getElem?_eq_getElem hl]; exact h _ (List.getElem_mem hl)
   ·rw [List.getD_eq_getElem?_getD, List.getElem?_eq_none (by omega)]; exact Nat.zero_le _
  refine ⟨by simp only [List.length_append, List.length_cons, List.length_take, List.length_drop]; omega, fun x hx => ?_⟩
  rcases List.mem_append.1 hx with h1 | h1
  ·exact Nat.le_trans (h x (List.mem_of_mem_take h1)) (Nat.le_add_right _ _)
  ·rcases List.mem_cons.1 h1 with h2 | h2
   ·subst h2
    have h3 := bord_le hH m ((l.take e).drop (b + 1)) (l.getD b []) (fun y hy => h y (List.mem_of_mem_take (List.mem_of_mem_drop hy)))
    have h4 : ((l.take e).drop (b + 1)).length ≤ l.length := by rw [List.length_drop, List.length_take]; omega
    have := Nat.mul_le_mul_left (m + 9) h4
    omega
   ·exact Nat.le_trans (h x (List.mem_of_mem_drop h2)) (Nat.le_add_right _ _)
 ·exact ⟨by omega, fun x hx => Nat.le_trans (h x hx) (Nat.le_add_right _ _)⟩
theorem texts_mem (l : List (List Int)) (hl : l.length ≤ 2147483647) (hb : ∀ x ∈ l, x.length ≤ 2147483647) {k : Nat} (hk : l.length < k) : impl_texts.f k l = some l :=
 texts_eq l hl (fun j hj => by rw [List.getD_eq_getElem?_getD, List.getElem?_eq_getElem hj]; exact hb _ (List.getElem_mem hj)) hk
theorem hashF_yes (a0 a1 a2 a3 a4 a5 : Int) (n b e m : Nat) (l : List (List Int)) (hn : l.length = n) (hl : l.length ≤ 10000) (hm : (m + 9) * (l.length + 1) ≤ 1000000000) (hb : ∀ x ∈ l, x.length ≤ m) {K : Nat} (hK : 3000000000 ≤ K) :
 hashF K a0 a1 a2 a3 a4 a5 n b e l = some (folded (hash a0 a2 a5) b e l, true) := by
 obtain ⟨f1, f2⟩ := folded_le (hash_le a0 a2 a5) b e hb
 have hml : (m + 9) * l.length ≤ 1000000000 - m - 9 := by rw [Nat.mul_add, Nat.mul_one] at hm; omega
 have hm1 : m + 9 ≤ 1000000000 := by rw [Nat.mul_add, Nat.mul_one] at hm; omega
 unfold hashF
 rw [texts_mem l (by omega) (fun x hx => by have := hb x hx; omega) (by omega), Option.bind_some, if_pos hn]
 by_cases h : b < e
 ·rw [if_pos h]
  have hbs : (l.getD b []).length ≤ m := by
   by_cases hl : b < l.length
   ·rw [List.getD_eq_getElem?_getD, List.getElem?_eq_getElem hl]; exact hb _ (List.getElem_mem hl)
   ·rw [List.getD_eq_getElem?_getD, List.getElem?_eq_none (by omega)]; exact Nat.zero_le _
  have h4 : ((l.take e).drop (b + 1)).length ≤ l.length := by rw [List.length_drop, List.length_take]; omega
  have h5 := Nat.mul_le_mul_left (m + 9) h4
  rw [upB_eq _ _ (hash_le a0 a2 a5) (impl_H a0 a1 a2 a3 a4 a5 (by omega)) m (by omega) _ _ (fun y hy => hb y (List.mem_of_mem_take (List.mem_of_mem_drop hy))) (by omega), Option.bind_some, ← folded_rehL, texts_mem _ (by omega) (fun x hx => by have := f2 x hx; omega) (by omega)]
  rfl
 ·have e1 : ∀ f, rehL b e l f = folded (hash a0 a2 a5) b e l := fun f => by unfold rehL folded; rw [if_neg h, if_neg h]
  rw [if_neg h, Option.bind_some, e1, texts_mem _ (by omega) (fun x hx => by have := f2 x hx; omega) (by omega)]
  rfl
end Go.Proofs.YtielnphmcaecdaaDoor.PAll
namespace Go.Proofs.YtielnphmcaecdaaDoor.Hsh
open Go.RowKit Go.Proofs.YtielnphmcaecdaaDoor.Num Go.Proofs.YtielnphmcaecdaaDoor.Mth Go.Proofs.YtielnphmcaecdaaDoor.PAll Go.Proofs.YtielnphmcaecdaaDoorW.PrintWords Go.Proofs.YtielnphmcaecdaaDoorW.PrintLast
theorem tzn_lt {m : Nat} (h0 : 0 < m) (hm : m < 18446744073709551616) : tzn m < 64 ∧ m / 2 ^ tzn m * 2 ^ tzn m = m ∧ m / 2 ^ tzn m % 2 = 1 := by
 obtain ⟨e, ho⟩ := tzn_spec h0
 refine ⟨Nat.lt_of_not_le fun h => ?_, by rw [Nat.mul_comm]; exact e.symm, ho⟩
 have h2 := Nat.pow_le_pow_right (n := 2) (by decide) h
 have h3 : (2 : Nat) ^ 64 = 18446744073709551616 := rfl
 have h5 : 0 < m / 2 ^ tzn m := by
  generalize m / 2 ^ tzn m = q at ho
  omega
 have h4 : 2 ^ tzn m ≤ m := by
  have h6 := Nat.le_mul_of_pos_right (2 ^ tzn m) h5
  rw [← e] at h6
  exact h6
 omega
theorem pred_div {m h : Nat} (h0 : 0 < m) (hm : m < 18446744073709551616) (hh : tzn m < h) : (m - 1) / 2 ^ h = m / 2 ^ h := by
 obtain ⟨_, e, ho⟩ := tzn_lt h0 hm
 have hp := Nat.two_pow_pos h
 have hd := Nat.div_add_mod m (2 ^ h)
 have hl := Nat.mod_lt m hp
 have hne : m % 2 ^ h ≠ 0 := by
  intro h1
  rw [h1, Nat.add_zero] at hd
  obtain ⟨d, rfl⟩ : ∃ d, h = tzn m + (d + 1) := ⟨h - tzn m - 1, by omega⟩
  have h2 : m / 2 ^ tzn m = 2 ^ (d + 1) * (m / 2 ^ (tzn m + (d + 1))) := by
   have h3 : m = 2 ^ tzn m * (2 ^ (d + 1) * (m / 2 ^ (tzn m + (d + 1)))) := by rw [← Nat.mul_assoc, ← Nat.pow_add]; exact hd.symm
   rw (occs := .pos [1]) [h3]
   exact Nat.mul_div_cancel_left _ (Nat.two_pow_pos _)
  rw [h2, Nat.pow_succ, Nat.mul_comm (2 ^ d) 2, Nat.mul_assoc, Nat.mul_mod_right] at ho
  cases ho
 obtain ⟨r, hr⟩ : ∃ r, m % 2 ^ h = r + 1 := ⟨m % 2 ^ h - 1, by omega⟩
 rw [hr] at hd hl
 have h5 : m - 1 = r + 2 ^ h * (m / 2 ^ h) := by omega
 rw [h5, Nat.add_mul_div_left _ _ hp, Nat.div_eq_of_lt (by omega), Nat.zero_add]
theorem wsub1 {n : Nat} (h0 : 1 ≤ n) (h : n ≤ 64) : IntKind.u64.wrap (wrap64 ((n : Int) - 1)) = ((n - 1 : Nat) : Int) := by
 have : wrap64 ((n : Int) - 1) = ((n - 1 : Nat) : Int) := by unfold wrap64; omega
 rw [this]
 exact u64in (by omega)
theorem lt_fork {h x y : Nat} : h < fork x y ↔ x / 2 ^ h ≠ y / 2 ^ h := by
 have := fork_le (i := x) (n := y) (m := h)
 constructor
 ·intro h1 h2; have := this.mpr h2; omega
 ·intro h1; exact Nat.lt_of_not_le fun h2 => h1 (this.mp h2)
theorem merge_path {b m e : Nat} (hbm : b ≤ m) (hme : m < e) (he : e < 18446744073709551616) (h0 : 0 < m) (k : Nat) :
 ∃ hi : Nat, compact_getMergePath.f (k + 1) (b : Int) (m : Int) (e : Int) = some (((tzn m : Nat) : Int), (hi : Int)) ∧ hi < 64 ∧ ∀ h, tzn m < h → (h ≤ hi ↔ b ≤ m / 2 ^ h * 2 ^ h ∧ (m / 2 ^ h + 1) * 2 ^ h ≤ e) := by
 obtain ⟨ht, _, _⟩ := tzn_lt h0 (by omega)
 have hR : ∀ h, tzn m < h → (h < fork (m - 1) e ↔ (m / 2 ^ h + 1) * 2 ^ h ≤ e) := fun h hh => by
  have hp := Nat.two_pow_pos h
  rw [lt_fork, pred_div h0 (by omega) hh, ← Nat.le_div_iff_mul_le hp]
  have := Nat.div_le_div_right (c := 2 ^ h) (Nat.le_of_lt hme)
  omega
 have hR1 : 1 ≤ fork (m - 1) e := lt_fork.mpr (by rw [Nat.pow_zero, Nat.div_one, Nat.div_one]; omega)
 have hR64 := fork_64 (i := m - 1) (n := e) (by omega) he
 have hx1 : Go.bits .xor .u64 (IntKind.u64.wrap ((m : Int) - 1)) (e : Int) = (((m - 1) ^^^ e : Nat) : Int) := by
  rw [show (m : Int) - 1 = (m : Int) - ((1 : Nat) : Int) from rfl, u64sub (by omega) (by omega), xor64 _ _ (by omega) he]
 have hb1 : bits_Len64.f (k + 1) (((m - 1) ^^^ e : Nat) : Int) = some ((fork (m - 1) e : Nat) : Int) := bits_Len64.eq k _ (Nat.xor_lt_two_pow (n := 64) (by omega) he)
 unfold compact_getMergePath.f
 rw [tz_eq h0 (by omega), Option.bind_some, hx1, hb1, u64in (show tzn m < 18446744073709551616 by omega)]
 by_cases hb : b = 0
 ·subst hb
  refine ⟨fork (m - 1) e - 1, ?_, by omega, fun h hh => ?_⟩
  ·rw [if_pos (show ((0 : Nat) : Int) = 0 from rfl), Option.bind_some]
   by_cases h64 : fork (m - 1) e < 64
   ·rw [if_pos (by omega), wsub1 hR1 hR64]
   ·rw [if_neg (by omega), show fork (m - 1) e = 64 by omega]; rfl
  ·rw [← hR h hh]
   constructor
   ·intro h1; exact ⟨Nat.zero_le _, by omega⟩
   ·intro h1; omega
 ·have hL : ∀ h, (h < fork m (b - 1) ↔ b ≤ m / 2 ^ h * 2 ^ h) := fun h => by
   have hp := Nat.two_pow_pos h
   rw [lt_fork]
   have h1 := Nat.div_le_div_right (c := 2 ^ h) (show b - 1 ≤ m by omega)
   have h2 := Nat.div_lt_iff_lt_mul (x := b - 1) (y := m / 2 ^ h) hp
   omega
  have hL1 : 1 ≤ fork m (b - 1) := lt_fork.mpr (by rw [Nat.pow_zero, Nat.div_one, Nat.div_one]; omega)
  have hL64 := fork_64 (i := m) (n := b - 1) (by omega) (by omega)
  have hx2 : Go.bits .xor .u64 (m : Int) (IntKind.u64.wrap ((b : Int) - 1)) = ((m ^^^ (b - 1) : Nat) : Int) := by
   rw [show (b : Int) - 1 = (b : Int) - ((1 : Nat) : Int) from rfl, u64sub (by omega) (by omega), xor64 _ _ (by omega) (by omega)]
  have hb2 : bits_Len64.f (k + 1) ((m ^^^ (b - 1) : Nat) : Int) = some ((fork m (b - 1) : Nat) : Int) := bits_Len64.eq k _ (Nat.xor_lt_two_pow (n := 64) (by omega) (by omega))
  refine ⟨min (fork m (b - 1)) (fork (m - 1) e) - 1, ?_, by omega, fun h hh => ?_⟩
  ·rw [if_neg (by omega), hx2, hb2, Option.bind_some, Option.bind_some]
   by_cases h1 : fork (m - 1) e < fork m (b - 1)
   ·rw [if_pos (by omega), wsub1 hR1 hR64, Nat.min_eq_right (by omega)]
   ·rw [if_neg (by omega), wsub1 hL1 hL64, Nat.min_eq_left (by omega)]
  ·rw [← hR h hh, ← hL h]; omega
theorem xor_zero_eq {x y : Nat} (h : x ^^^ y = 0) : x = y := by
 apply Nat.eq_of_testBit_eq
 intro i
 have := congrArg (fun z => z.testBit i) h
 simp only [Nat.testBit_xor, Nat.zero_testBit] at this
 cases hx : x.testBit i <;> cases hy : y.testBit i <;> simp_all
theorem merge_path0 {e : Nat} (he : e < 18446744073709551615) (k : Nat) : ∃ hi : Nat, compact_getMergePath.f (k + 1) 0 0 (e : Int) = some ((64 : Int), (hi : Int)) ∧ hi < 64 := by
 have e1 : bits_TrailingZeros64.f 0 = some 64 := rfl
 have e2 : IntKind.u64.wrap ((0 : Int) - 1) = ((18446744073709551615 : Nat) : Int) := by decide
 have hx : 18446744073709551615 ^^^ e < 2 ^ 64 := Nat.xor_lt_two_pow (n := 64) (by omega) (by omega)
 have hne : 18446744073709551615 ^^^ e ≠ 0 := fun h => by have := xor_zero_eq h; omega
 obtain ⟨r, hr⟩ : ∃ r, blen (18446744073709551615 ^^^ e) = r := ⟨_, rfl⟩
 have h1 : 1 ≤ r := by rw [← hr, blen_pos (by omega)]; omega
 have h64 : r ≤ 64 := by rw [← hr]; exact blen_lt64 hx
 unfold compact_getMergePath.f
 rw [e1, Option.bind_some, if_pos rfl, e2, xor64 _ _ (by omega) (by omega), bits_Len64.eq k _ (by exact hx), Option.bind_some, hr]
 by_cases h : r < 64
 ·exact ⟨r - 1, by rw [if_pos (by omega), wsub1 h1 h64]; rfl, by omega⟩
 ·exact ⟨63, by rw [if_neg (by omega)]; rfl, by omega⟩
def hsAt (H : List Int → List Int → List Int) (m low : Nat) (xs ys : List (List Int)) (x : List Int) : Nat → List Int
 | 0 => x
 | t + 1 => if m / 2 ^ (low + t) % 2 = 1 then H (xs.getD (xs.length - 1 - onesB m low t) []) (hsAt H m low xs ys x t) else H (hsAt H m low xs ys x t) (ys.getD (t - onesB m low t) [])
theorem getD_le {M : Nat} {l : List (List Int)} (h : ∀ y ∈ l, y.length ≤ M) (i : Nat) : (l.getD i []).length ≤ M := by
 rw [List.getD_eq_getElem?_getD]
 cases hi : l[i]? with
 | none => simp
 | some y => exact h y (List.mem_of_getElem? hi)
theorem hsAt_le {H : List Int → List Int → List Int} (hH : ∀ l r, (H l r).length ≤ 9 + l.length + r.length) {M : Nat} (m low : Nat) {xs ys : List (List Int)} {x : List Int} (hxs : ∀ y ∈ xs, y.length ≤ M) (hys : ∀ y ∈ ys, y.length ≤ M) (hx : x.length ≤ M) : ∀ t, (hsAt H m low xs ys x t).length ≤ (M + 9) * (t + 1)
 | 0 => by rw [hsAt]; omega
 | t + 1 => by
  have ih := hsAt_le hH m low hxs hys hx t
  have e1 : (M + 9) * (t + 1 + 1) = (M + 9) * (t + 1) + (M + 9) := Nat.mul_succ _ _
  rw [hsAt]
  have h1 := getD_le hxs (xs.length - 1 - onesB m low t)
  have h2 := getD_le hys (t - onesB m low t)
  split
  ·have := hH (xs.getD (xs.length - 1 - onesB m low t) []) (hsAt H m low xs ys x t); omega
  ·have := hH (hsAt H m low xs ys x t) (ys.getD (t - onesB m low t) []); omega
theorem hsAt_small {H : List Int → List Int → List Int} (hH : ∀ l r, (H l r).length ≤ 9 + l.length + r.length) {M : Nat} (hM : M ≤ 1000000) (m low : Nat) {xs ys : List (List Int)} {x : List Int} (hxs : ∀ y ∈ xs, y.length ≤ M) (hys : ∀ y ∈ ys, y.length ≤ M) (hx : x.length ≤ M) {t : Nat} (ht : t ≤ 64) : (hsAt H m low xs ys x t).length ≤ 100000000 := by
 have h1 := hsAt_le hH m low hxs hys hx t
 have h2 : (M + 9) * (t + 1) ≤ 1000009 * 65 := Nat.mul_le_mul (by omega) (by omega)
 omega
theorem hs_step {H : List Int → List Int → List Int} (hH : ∀ l r, (H l r).length ≤ 9 + l.length + r.length) {M : Nat} (hM : M ≤ 1000000) (m low : Nat) {xs ys : List (List Int)} {x : List Int} (hxs : ∀ y ∈ xs, y.length ≤ M) (hys : ∀ y ∈ ys, y.length ≤ M) (hx : x.length ≤ M) {F : List Int → List Int → Option (List Int)} (hF : ∀ l r, l.length ≤ 1000000000 → r.length ≤ 1000000000 → F l r = some (H l r)) {t : Nat} (ht : t < 64) : (m / 2 ^ (low + t) % 2 = 1 → F (xs.getD (xs.length - 1 - onesB m low t) []) (hsAt H m low xs ys x t) = some (hsAt H m low xs ys x (t + 1))) ∧ (m / 2 ^ (low + t) % 2 = 0 → F (hsAt H m low xs ys x t) (ys.getD (t - onesB m low t) []) = some (hsAt H m low xs ys x (t + 1))) := by
 have h0 := hsAt_small hH hM m low hxs hys hx (t := t) (by omega)
 have h1 := getD_le hxs (xs.length - 1 - onesB m low t)
 have h2 := getD_le hys (t - onesB m low t)
 refine ⟨fun h => ?_, fun h => ?_⟩
 ·rw [hF _ _ (by omega) (by omega), hsAt, if_pos h]
 ·rw [hF _ _ (by omega) (by omega), hsAt, if_neg (by omega)]
theorem gseed_hs {H : List Int → List Int → List Int} (hH : ∀ l r, (H l r).length ≤ 9 + l.length + r.length) {M : Nat} (hM : M ≤ 1000000) (m low : Nat) {xs ys : List (List Int)} {x : List Int} (hxs : ∀ y ∈ xs, y.length ≤ M) (hys : ∀ y ∈ ys, y.length ≤ M) (hx : x.length ≤ M) {F : List Int → List Int → Option (List Int)} (hF : ∀ l r, l.length ≤ 1000000000 → r.length ≤ 1000000000 → F l r = some (H l r)) : ∀ t, t ≤ 64 → gseed F m low xs ys x t = some (hsAt H m low xs ys x t)
 | 0, _ => rfl
 | t + 1, ht => by
  obtain ⟨s1, s2⟩ := hs_step hH hM m low hxs hys hx hF (t := t) (by omega)
  rw [gseed, gseed_hs hH hM m low hxs hys hx hF t (by omega), Option.bind_some]
  by_cases h : m / 2 ^ (low + t) % 2 = 1
  ·rw [if_pos h, s1 h]
  ·rw [if_neg h, s2 (by omega)]
theorem gsOf_hs {H : List Int → List Int → List Int} (hH : ∀ l r, (H l r).length ≤ 9 + l.length + r.length) {M : Nat} (hM : M ≤ 1000000) (m low : Nat) {xs ys : List (List Int)} {x : List Int} (hxs : ∀ y ∈ xs, y.length ≤ M) (hys : ∀ y ∈ ys, y.length ≤ M) (hx : x.length ≤ M) {F : List Int → List Int → Option (List Int)} (hF : ∀ l r, l.length ≤ 1000000000 → r.length ≤ 1000000000 → F l r = some (H l r)) {t : Nat} (ht : t ≤ 64) : gsOf F m low xs ys x t = hsAt H m low xs ys x t := by
 unfold gsOf
 rw [gseed_hs hH hM m low hxs hys hx hF t ht]; rfl
theorem ones_onesB (m low : Nat) : ∀ D, ones (m / 2 ^ low % 2 ^ D) = onesB m low D
 | 0 => by rw [Nat.pow_zero, Nat.mod_one, ones_zero]; rfl
 | D + 1 => by
  rw [ones_top, ones_onesB m low D, onesB, Nat.div_div_eq_div_mul, ← Nat.pow_add]; omega
theorem ones_mask {m low D : Nat} (hm : m < 18446744073709551616) (hl : low ≤ 64) (hD : D ≤ 63) : bits_OnesCount64.f (Go.bits .and .u64 ((m : Int) / 2 ^ min low 64) (IntKind.u64.wrap (IntKind.u64.wrap (2 ^ min D 64) - 1))) = some ((onesB m low D : Nat) : Int) := by
 have hp := Nat.two_pow_pos D
 have hp2 := pow_lt64 hD
 have e1 : ((2 : Int) ^ min D 64) = ((2 ^ D : Nat) : Int) := by rw [Nat.min_eq_left (by omega), Int.natCast_pow]; rfl
 have e2 : (m : Int) / 2 ^ min low 64 = ((m / 2 ^ low : Nat) : Int) := by rw [Nat.min_eq_left hl, Int.natCast_ediv, Int.natCast_pow]; rfl
 have hq := Nat.div_le_self m (2 ^ low)
 rw [e1, e2, u64in hp2, show ((2 ^ D : Nat) : Int) - 1 = ((2 ^ D : Nat) : Int) - ((1 : Nat) : Int) from rfl, u64sub (by omega) hp2]
 have e3 := u64_and_nat (m / 2 ^ low) (2 ^ D - 1) (by omega) (by omega)
 rw [Nat.and_two_pow_sub_one_eq_mod] at e3
 refine (congrArg bits_OnesCount64.f e3).trans ?_
 rw [bits_OnesCount64.eq _ (Nat.lt_of_le_of_lt (Nat.mod_le _ _) (by omega)), ones_onesB]
theorem ones_none {m low : Nat} (hm : m < 18446744073709551616) (hl : low ≤ 64) : bits_OnesCount64.f (Go.bits .and .u64 ((m : Int) / 2 ^ min low 64) 0) = some 0 := by
 have e2 : (m : Int) / 2 ^ min low 64 = ((m / 2 ^ low : Nat) : Int) := by rw [Nat.min_eq_left hl, Int.natCast_ediv, Int.natCast_pow]; rfl
 have hq := Nat.div_le_self m (2 ^ low)
 have e3 := u64_and_nat (m / 2 ^ low) 0 (by omega) (by omega)
 rw [e2]
 refine (congrArg bits_OnesCount64.f e3).trans ?_
 rw [Nat.and_zero, bits_OnesCount64.eq 0 (by omega), ones_zero]; rfl
theorem mem_zs {M : Nat} {xs ys : List (List Int)} {s : List Int} {i j : Nat} (hxs : ∀ y ∈ xs, y.length ≤ M) (hys : ∀ y ∈ ys, y.length ≤ M) (hs : s.length ≤ M) : ∀ z ∈ xs.take i ++ [s] ++ ys.drop j, z.length ≤ M := by
 intro z hz
 rcases List.mem_append.mp hz with hz | hz
 ·rcases List.mem_append.mp hz with hz | hz
  ·exact hxs z (List.mem_of_mem_take hz)
  ·rw [List.mem_singleton.mp hz]; exact hs
 ·exact hys z (List.mem_of_mem_drop hz)
end Go.Proofs.YtielnphmcaecdaaDoor.Hsh
namespace Go.Proofs.YtielnphmcaecdaaDoor.Mth
open Go.Proofs.YtielnphmcaecdaaDoor.PAll
theorem mod_pow_le {b h κ : Nat} (hk : h ≤ κ) (hb : b % 2 ^ κ = 0) : b % 2 ^ h = 0 :=
 Nat.mod_eq_zero_of_dvd (Nat.dvd_trans (Nat.pow_dvd_pow 2 hk) (Nat.dvd_of_mod_eq_zero hb))
theorem lev_is2 {b e κ : Nat} (h : b < e) (h1 : b % 2 ^ κ = 0) (h2 : b + 2 ^ κ ≤ e) (h3 : b % 2 ^ (κ + 1) = 0 → e < b + 2 ^ (κ + 1)) : lev b e = κ := by
 obtain ⟨s1, s2, s3⟩ := lev_spec b e h
 generalize lev b e = v at s1 s2 s3 ⊢
 rcases Nat.lt_trichotomy v κ with hv | hv | hv
 ·exfalso
  have := s3 (mod_pow_le hv h1)
  have := Nat.pow_le_pow_right (n := 2) (by decide) (show v + 1 ≤ κ from hv)
  omega
 ·exact hv
 ·exfalso
  have := h3 (mod_pow_le hv s1)
  have := Nat.pow_le_pow_right (n := 2) (by decide) (show κ + 1 ≤ v from hv)
  omega
theorem Nds_split : ∀ (d b e h I : Nat), e - b ≤ d → b ≤ I * 2 ^ h → (I + 1) * 2 ^ h ≤ e → ¬ (b ≤ I / 2 * 2 ^ (h + 1) ∧ (I / 2 + 1) * 2 ^ (h + 1) ≤ e) → Nds 0 b e = Nds 0 b (I * 2 ^ h) ++ (h, I) :: Nds 0 ((I + 1) * 2 ^ h) e := by
 intro d
 induction d with
 | zero =>
  intro b e h I hd h1 h2
  have := Nat.two_pow_pos h
  rw [Nat.succ_mul] at h2
  omega
 | succ d ih =>
  intro b e h I hd h1 h2 h3
  have hp := Nat.two_pow_pos h
  have e1 : (I + 1) * 2 ^ h = I * 2 ^ h + 2 ^ h := Nat.succ_mul _ _
  have hbe : b < e := by omega
  obtain ⟨s1, s2, s3⟩ := lev_spec b e hbe
  obtain ⟨c, c1, c2, c3, c4, c5⟩ := mlev_parts hbe
  rcases Nat.eq_or_lt_of_le h1 with hb | hb
  ·have hl : lev b e = h := by
    refine lev_is2 hbe (by rw [hb]; exact Nat.mul_mod_left _ _) (by omega) (fun hm => Nat.lt_of_not_le fun h4 => h3 ?_)
    obtain ⟨q, hq⟩ : ∃ q, b = 2 ^ (h + 1) * q := ⟨b / 2 ^ (h + 1), by have := Nat.div_add_mod b (2 ^ (h + 1)); omega⟩
    have hI : I = 2 * q := by
     rw [hb, Nat.pow_succ, Nat.mul_assoc, Nat.mul_comm I] at hq
     exact Nat.eq_of_mul_eq_mul_left hp hq
    rw [hI, Nat.mul_div_cancel_left _ (by decide), Nat.succ_mul, Nat.mul_comm q]
    omega
   rw [Nds_step 0 b e hbe, hl, Nat.zero_add, ← hb, Nds_empty (Nat.le_refl _), e1, ← hb, List.nil_append]
   congr 2
   rw [hb, Nat.mul_div_cancel _ hp]
  ·generalize hκ : lev b e = κ at *
   have hpk := Nat.two_pow_pos κ
   have hstep : b + 2 ^ κ ≤ I * 2 ^ h := by
    refine Nat.le_of_not_lt fun hlt => h3 ?_
    have hhk : h < κ := by
     refine Nat.lt_of_not_le fun hk => ?_
     have hm : I * 2 ^ h % 2 ^ κ = 0 := mod_pow_le hk (Nat.mul_mod_left _ _)
     obtain ⟨q, hq⟩ : ∃ q, I * 2 ^ h = 2 ^ κ * q := ⟨I * 2 ^ h / 2 ^ κ, by have := Nat.div_add_mod (I * 2 ^ h) (2 ^ κ); omega⟩
     rw [hq] at hb hlt
     rw [c1, Nat.mul_comm c] at hb hlt
     have u1 := Nat.lt_of_mul_lt_mul_left hb
     rw [← Nat.mul_succ] at hlt
     have u2 := Nat.lt_of_mul_lt_mul_left hlt
     omega
    obtain ⟨j, rfl⟩ : ∃ j, κ = h + 1 + j := ⟨κ - h - 1, by omega⟩
    have hB : b = c * 2 ^ j * 2 ^ (h + 1) := by rw [c1, Nat.pow_add, Nat.mul_assoc, Nat.mul_comm (2 ^ (h + 1))]
    have hE : b + 2 ^ (h + 1 + j) = (c + 1) * 2 ^ j * 2 ^ (h + 1) := by rw [← c3, Nat.pow_add, Nat.mul_assoc, Nat.mul_comm (2 ^ (h + 1))]
    have hpp := pow_up h
    have v1 : c * 2 ^ j ≤ I / 2 := by
     rw [Nat.le_div_iff_mul_le (by decide)]
     rw [hB, hpp, ← Nat.mul_assoc] at hb
     exact Nat.le_of_lt (Nat.lt_of_mul_lt_mul_right hb)
    have v2 : I / 2 + 1 ≤ (c + 1) * 2 ^ j := by
     rw [hE, hpp, ← Nat.mul_assoc] at hlt
     have := Nat.lt_of_mul_lt_mul_right hlt
     omega
    have w1 := Nat.mul_le_mul_right (2 ^ (h + 1)) v1
    have w2 := Nat.mul_le_mul_right (2 ^ (h + 1)) v2
    omega
   have hl2 : lev b (I * 2 ^ h) = κ := lev_is2 hb s1 hstep (fun hm => by have := s3 hm; omega)
   rw [Nds_step 0 b e hbe, Nds_step 0 b (I * 2 ^ h) hb, hκ, hl2, List.cons_append, ih (b + 2 ^ κ) e h I (by omega) hstep h2 (fun h4 => h3 ⟨by omega, h4.2⟩)]
theorem Nds_split_at {b m e : Nat} (hbm : b ≤ m) (hme : m < e) (hB : m = 0 ∨ ¬ (m / 2 ^ lev m e % 2 = 1)) : Nds 0 b e = Nds 0 b m ++ Nds 0 m e := by
 obtain ⟨c, c1, c2, c3, c4, c5⟩ := mlev_parts hme
 have hc : c % 2 = 0 := by
  rw [c2] at hB
  rcases hB with h | h
  ·have hp := Nat.two_pow_pos (lev m e)
   rcases Nat.eq_zero_or_pos c with h0 | h0
   ·omega
   ·have := Nat.le_mul_of_pos_left (2 ^ lev m e) h0
    omega
  ·omega
 have h := Nds_split (e - b) b e (lev m e) c (Nat.le_refl _) (by omega) (by omega) (fun h4 => by
  have h5 := c5 hc
  have h6 := h4.2
  rw [pow_up, ← Nat.mul_assoc, show (c / 2 + 1) * 2 = c + 2 by omega] at h6
  omega)
 rw [h, ← c1]
 congr 1
 rw [Nds_step 0 m e hme, Nat.zero_add, c2, c3]
end Go.Proofs.YtielnphmcaecdaaDoor.Mth
namespace Go.Proofs.YtielnphmcaecdaaDoor.Hsh
open Go.RowKit Go.Proofs.YtielnphmcaecdaaDoor.Num Go.Proofs.YtielnphmcaecdaaDoor.Mth Go.Proofs.YtielnphmcaecdaaDoor.PAll Go.Proofs.YtielnphmcaecdaaDoorW.PrintWords Go.Proofs.YtielnphmcaecdaaDoorW.PrintLast
theorem named_loop (N : List (Nat × Nat)) (xs : List (List Int)) (hl : N.length = xs.length) (hn : N.length ≤ 1000) (z0 z1 : Int) : ∀ (d i k : Nat), i + d = N.length → d < k → spec_Named.l0 k ((List.zipWith vis N xs).take i) (N.map inode) (N.length : Int) (i : Int) z0 z1 xs = some (List.zipWith vis N xs) := by
 intro d
 induction d with
 | zero =>
  intro i k hi hk
  obtain ⟨k, rfl⟩ : ∃ j, k = j + 1 := ⟨k - 1, by omega⟩
  rw [spec_Named.l0, if_neg (by omega), List.take_of_length_le (by rw [List.length_zipWith]; omega)]
 | succ d ih =>
  intro i k hi hk
  obtain ⟨k, rfl⟩ : ∃ j, k = j + 1 := ⟨k - 1, by omega⟩
  have hz : (List.zipWith vis N xs).length = N.length := by rw [List.length_zipWith]; omega
  have e1 : rd_T49 (N.map inode) (i : Int) = inode (N[i]'(by omega)) := by
   show (N.map inode).getD i z49 = _
   rw [List.getD_eq_getElem?_getD, List.getElem?_map, List.getElem?_eq_getElem (by omega)]; rfl
  have e2 : rd_L1 xs (i : Int) = xs[i]'(by omega) := by
   show xs.getD i [] = _
   rw [List.getD_eq_getElem?_getD, List.getElem?_eq_getElem (by omega)]; rfl
  have e3 : (List.zipWith vis N xs).take i ++ [(⟨⟨(rd_T49 (N.map inode) (i : Int)).f0, (rd_T49 (N.map inode) (i : Int)).f1⟩, rd_L1 xs (i : Int)⟩ : S51)] = (List.zipWith vis N xs).take (i + 1) := by
   rw [List.take_add_one, List.getElem?_eq_getElem (by omega), List.getElem_zipWith, e1, e2]; rfl
  rw [spec_Named.l0, if_pos (by omega), if_pos (by omega), if_pos (by rw [List.length_map]; omega), if_pos (by omega), if_pos (by rw [List.length_take]; omega), e3, next64 (by omega)]
  exact ih (i + 1) k (by omega) (by omega)
theorem spec_Named.eq (b e : Nat) (h : b ≤ e) (he : e < 18446744073709551616) (xs : List (List Int)) (hl : (Nds 0 b e).length = xs.length) (K : Nat) (hK : 9000 ≤ K) : spec_Named.f K (b : Int) (e : Int) xs = some (List.zipWith vis (Nds 0 b e) xs) := by
 have hn := Nds_len 0 b e 64 (by omega)
 unfold spec_Named.f
 rw [spec_Nodes.eq b e h he K hK, Option.bind_some, List.length_map]
 have := named_loop (Nds 0 b e) xs hl (by omega) (b : Int) (e : Int) (Nds 0 b e).length 0 K (by omega) (by omega)
 rw [List.take_zero] at this
 exact this
theorem texts_small (l : List (List Int)) {M : Nat} (h1 : l.length ≤ 1000) (h2 : ∀ y ∈ l, y.length ≤ M) (h3 : M ≤ 2147483647) {k : Nat} (hk : 1000 < k) : impl_texts.f k l = some l := texts_eq l (by omega) (fun j hj => by
 rw [List.getD_eq_getElem?_getD, List.getElem?_eq_getElem hj]
 exact Nat.le_trans (h2 _ (List.getElem_mem hj)) h3) (by omega)
theorem fair_eq (b e : Nat) (hb : b < 18446744073709551616) (he : e < 18446744073709551616) (hs : List (List Int)) (hl : hs.length ≤ 2147483647) : ∃ z, (∀ K, 9000 + hs.length ≤ K → laws_rangeFair.f K (b : Int) (e : Int) hs = some z) ∧ (z = true → b ≤ e ∧ hs.length = (Nds 0 b e).length ∧ ∀ x ∈ hs, x.length ≤ 5000) := by
 by_cases hbe : b ≤ e
 case neg =>
  refine ⟨false, fun K hK => ?_, fun h => by cases h⟩
  unfold laws_rangeFair.f spec_ProperRange.f
  rw [if_neg (by omega), Option.bind_some, if_neg (by decide)]
 by_cases hn : hs.length = (Nds 0 b e).length
 case neg =>
  refine ⟨false, fun K hK => ?_, fun h => by cases h⟩
  unfold laws_rangeFair.f spec_ProperRange.f
  rw [if_pos (by omega), spec_Nodes.eq b e hbe he K (by omega), Option.bind_some, List.length_map, Option.bind_some, if_neg (by rw [beq_iff_eq]; omega)]
 obtain ⟨z, h1, h2⟩ := small hs hl
 refine ⟨z, fun K hK => ?_, fun h => ⟨hbe, hn, mem_bound (h2 h).2⟩⟩
 unfold laws_rangeFair.f spec_ProperRange.f
 rw [if_pos (by omega), spec_Nodes.eq b e hbe he K (by omega), Option.bind_some, List.length_map, Option.bind_some, if_pos (by rw [beq_iff_eq]; omega), lift (fun k => laws_logSmall.mono hs k) h1 (by omega), Option.bind_some]
end Go.Proofs.YtielnphmcaecdaaDoor.Hsh
