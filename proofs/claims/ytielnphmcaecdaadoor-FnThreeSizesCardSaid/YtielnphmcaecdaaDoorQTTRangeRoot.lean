-- Written by a program of this session (wip/tools)
import Derived.Test.YtielnphmcaecdaaDoorQTTRangeMerged
import Derived.Test.YtielnphmcaecdaaDoorQTTExtRangeN
import Derived.Test.YtielnphmcaecdaaDoorQTTTreeMem
import Derived.Test.YtielnphmcaecdaaDoorQTTNds
import Derived.Test.YtielnphmcaecdaaDoorQTTExtConMade
import Derived.Test.YtielnphmcaecdaaDoorQTTPAllx11
import Derived.Test.YtielnphmcaecdaaDoorQTTPAllx1
import Derived.Test.YtielnphmcaecdaaDoorQTTExtTreeB
import Derived.Outline
import Derived.Deep.QuietTactic
import Derived.BigQuiet
import Derived.IntWalk
import Derived.Test.YtielnphmcaecdaaDoorQTTMergeLaw
set_option maxHeartbeats 8000000
set_option maxRecDepth 100000
set_option linter.unusedVariables false
set_option linter.unusedSimpArgs false
namespace Go.Proofs.YtielnphmcaecdaaDoor.Hsh
open Go.RowKit Go.Proofs.YtielnphmcaecdaaDoor.Num Go.Proofs.YtielnphmcaecdaaDoor.Mth Go.Proofs.YtielnphmcaecdaaDoor.PAll Go.Proofs.YtielnphmcaecdaaDoorW.PrintWords Go.Proofs.YtielnphmcaecdaaDoorW.PrintLast
theorem even_first {m e : Nat} (hme : m < e) (he : e < 18446744073709551616) (hB : m = 0 ∨ e < (m / 2 ^ tzn m + 1) * 2 ^ tzn m) : m = 0 ∨ ¬ (m / 2 ^ lev m e % 2 = 1) := by
 rcases Nat.eq_zero_or_pos m with h0 | h0
 ·exact .inl h0
 refine .inr fun h => ?_
 obtain ⟨c, c1, c2, c3, c4, _⟩ := mlev_parts hme
 obtain ⟨_, t1, t2⟩ := tzn_lt h0 (by omega)
 have hB := hB.resolve_left (by omega)
 rw [c2] at h
 generalize lev m e = κ at *
 generalize tzn m = low at *
 rcases Nat.lt_trichotomy κ low with h1 | h1 | h1
 ·obtain ⟨d, rfl⟩ : ∃ d, low = κ + (d + 1) := ⟨low - κ - 1, by omega⟩
  have h3 : c = m / 2 ^ (κ + (d + 1)) * 2 ^ d * 2 := by
   have h4 : m / 2 ^ (κ + (d + 1)) * 2 ^ (κ + (d + 1)) = (m / 2 ^ (κ + (d + 1)) * 2 ^ d * 2) * 2 ^ κ := by
    rw [Nat.pow_add, Nat.pow_succ, Nat.mul_comm (2 ^ κ), ← Nat.mul_assoc, ← Nat.mul_assoc]
   rw [h4] at t1
   exact Nat.eq_of_mul_eq_mul_right (Nat.two_pow_pos κ) (c1.symm.trans t1.symm)
  omega
 ·subst h1
  rw [c2] at hB
  omega
 ·obtain ⟨d, rfl⟩ : ∃ d, κ = low + (d + 1) := ⟨κ - low - 1, by omega⟩
  have h3 : m / 2 ^ low = c * 2 ^ d * 2 := by
   have h4 : c * 2 ^ (low + (d + 1)) = (c * 2 ^ d * 2) * 2 ^ low := by
    rw [Nat.pow_add, Nat.pow_succ, Nat.mul_comm (2 ^ low), ← Nat.mul_assoc, ← Nat.mul_assoc]
   rw [h4] at c1
   exact Nat.eq_of_mul_eq_mul_right (Nat.two_pow_pos low) (t1.trans c1)
  omega
def MergeForm (H : List Int → List Int → List Int) (b m e : Nat) (xs : List (List Int)) (x : List Int) (ys zs : List (List Int)) : Prop :=
 (zs = xs ++ x :: ys ∧ Nds 0 b e = Nds 0 b m ++ Nds 0 m e) ∨ ∃ D, 0 < m ∧ (m / 2 ^ tzn m + 1) * 2 ^ tzn m ≤ e ∧ D ≤ 63 ∧ (∀ j, j < D → inR b m e (tzn m) (j + 1)) ∧ ¬ inR b m e (tzn m) (D + 1) ∧ zs = xs.take (xs.length - onesB m (tzn m) D) ++ [hsAt H m (tzn m) xs ys x D] ++ ys.drop (D - onesB m (tzn m) D)
theorem merge_is {H : List Int → List Int → List Int} (hH : ∀ l r, (H l r).length ≤ 9 + l.length + r.length) {M : Nat} (hM : M ≤ 1000000) {F1 : List Int → List Int → Option (List Int)} (hF1 : ∀ l r, l.length ≤ 1000000000 → r.length ≤ 1000000000 → F1 l r = some (H l r))
 {b m e : Nat} (hbm : b ≤ m) (hme : m < e) (he : e < 18446744073709551616) (h00 : m = 0 → e < 18446744073709551615) {xs ys : List (List Int)} {x : List Int} (hl : (Nds 0 b m).length = xs.length) (hyl : (Nds 0 m e).length = ys.length + 1)
 (hxs : ∀ y ∈ xs, y.length ≤ M) (hys : ∀ y ∈ ys, y.length ≤ M) (hx : x.length ≤ M) (k : Nat) :
 ∃ zs V, mergeApp F1 (k + 1) (b : Int) m (e : Int) xs x ys = some (zs, V) ∧ MergeForm H b m e xs x ys zs := by
 have hxl := Nds_len 0 b m 64 (by omega)
 have hyl' := Nds_len 0 m e 64 (by omega)
 rcases Nat.eq_zero_or_pos m with h0 | h0
 ·subst h0
  obtain ⟨hi, h1, h2⟩ := merge_path0 (h00 rfl) k
  obtain rfl : b = 0 := by omega
  refine ⟨xs ++ [x] ++ ys, [], ?_, .inl ⟨by simp, Nds_split_at (Nat.zero_le _) hme (.inl rfl)⟩⟩
  unfold mergeApp
  have h1' : compact_getMergePath.f (k + 1) ((0 : Nat) : Int) ((0 : Nat) : Int) (e : Int) = some (64, (hi : Int)) := h1
  rw [h1', Option.bind_some]
  dsimp only
  have hok : okN 0 64 xs ys = true := by
   unfold okN
   simp only [Bool.and_eq_true, decide_eq_true_eq]
   exact ⟨by omega, by omega, ones_none (m := 0) (low := 64) (by omega) (by omega), by omega, by omega⟩
  rw [if_pos (by omega), if_pos hok]
 obtain ⟨t1, t2, t3⟩ := tzn_lt h0 (by omega)
 obtain ⟨hi, p1, p2, p3⟩ := merge_path hbm hme he h0 k
 unfold MergeForm
 have hsplit := Nds_split_at (e := e) hbm hme
 have hev := even_first hme he
 generalize hlow : tzn m = low at *
 by_cases hA : (m / 2 ^ low + 1) * 2 ^ low ≤ e
 case neg =>
  have hle : hi ≤ low := by
   refine Nat.le_of_not_lt fun h => hA ?_
   have h5 := ((p3 (low + 1) (by omega)).mp h).2
   have e1 : m / 2 ^ (low + 1) = m / 2 ^ low / 2 := half_up m low
   rw [e1] at h5
   generalize m / 2 ^ low = c at *
   obtain ⟨j, rfl⟩ : ∃ j, c = 2 * j + 1 := ⟨c / 2, by omega⟩
   rw [show (2 * j + 1) / 2 = j by omega, pow_up, Nat.mul_left_comm, ← Nat.mul_assoc] at h5
   rw [show 2 * j + 1 + 1 = 2 * (j + 1) by omega]
   exact h5
  refine ⟨xs ++ [x] ++ ys, [], ?_, .inl ⟨by simp, hsplit (hev (.inr (by omega)))⟩⟩
  unfold mergeApp
  rw [p1, Option.bind_some]
  dsimp only
  rcases Nat.lt_or_ge hi low with h1 | h1
  ·have hok : okN m (low : Int) xs ys = true := by
    unfold okN
    simp only [Bool.and_eq_true, decide_eq_true_eq]
    exact ⟨by omega, by omega, by rw [Int.toNat_natCast]; exact ones_none (by omega) (by omega), by omega, by omega⟩
   rw [if_pos (by omega), if_pos hok]
  ·obtain rfl : hi = low := by omega
   have hok : okY m hi 0 (gsOf F1 m hi xs ys x) xs ys = true := by
    unfold okY
    simp only [Bool.and_eq_true, decide_eq_true_eq]
    refine ⟨by omega, ones_mask (by omega) (by omega) (by omega), by omega, by omega, List.all_eq_true.mpr (fun t ht => ?_)⟩
    obtain rfl : t = 0 := by have := List.mem_range.mp ht; omega
    simp only [Bool.and_eq_true, decide_eq_true_eq]
    exact ⟨Nat.zero_le _, Nat.zero_le _, by show x.length ≤ _; omega⟩
   rw [if_neg (by omega), if_pos (by omega), Int.toNat_natCast, Int.sub_self, show (0 : Int).toNat = 0 from rfl, gseed, Option.bind_some, if_pos hok]
   simp only [onesB, Nat.sub_zero, List.take_length, List.drop_zero]
   rfl
 -- the path
 obtain ⟨D, hD⟩ : ∃ D, D = hi - low := ⟨_, rfl⟩
 have hN : Nds 0 m e = (low, m / 2 ^ low) :: Nds 0 ((m / 2 ^ low + 1) * 2 ^ low) e := by
  have h := mNds_first t3 hA
  rw [t2] at h
  exact h
 have hyl2 : ys.length ≤ 128 := by omega
 rw [hN, List.length_cons] at hyl
 have hin : ∀ j, j < D → inR b m e low (j + 1) := fun j hj => (p3 (low + (j + 1)) (by omega)).mp (by omega)
 have hend : ¬ inR b m e low (D + 1) := fun h => by
  have := (p3 (low + (D + 1)) (by omega)).mpr h
  omega
 have hlen := len_at (D := D) hl (show (Nds 0 ((m / 2 ^ low + 1) * 2 ^ low) e).length = ys.length by omega) t2
 have hlt := fun t (ht : t ≤ D) => hlen t ht hin
 obtain ⟨l1, l2⟩ := hlt D (Nat.le_refl _)
 have hle := onesB_le m low D
 have hD64 : D ≤ 63 := by omega
 have hsm : ∀ t, t ≤ D → (hsAt H m low xs ys x t).length ≤ 100000000 := fun t ht => hsAt_small hH hM m low hxs hys hx (by omega)
 refine ⟨xs.take (xs.length - onesB m low D) ++ [hsAt H m low xs ys x D] ++ ys.drop (D - onesB m low D), visA low (fun t => ((m / 2 ^ (low + t) : Nat) : Int)) (hsAt H m low xs ys x) D, ?_, .inr ⟨D, h0, hA, hD64, hin, hend, rfl⟩⟩
 unfold mergeApp
 rw [p1, Option.bind_some]
 dsimp only
 rcases Nat.lt_or_ge hi low with h1 | h1
 ·obtain rfl : D = 0 := by omega
  have hok : okN m (low : Int) xs ys = true := by
   unfold okN
   simp only [Bool.and_eq_true, decide_eq_true_eq]
   exact ⟨by omega, by omega, by rw [Int.toNat_natCast]; exact ones_none (by omega) (by omega), by omega, by omega⟩
  rw [if_pos (by omega), if_pos hok]
  simp only [onesB, Nat.sub_zero, List.take_length, List.drop_zero]
  rfl
 ·have hok : okY m low D (gsOf F1 m low xs ys x) xs ys = true := by
   unfold okY
   simp only [Bool.and_eq_true, decide_eq_true_eq]
   refine ⟨by omega, ones_mask (by omega) (by omega) hD64, by omega, by omega, List.all_eq_true.mpr (fun t ht => ?_)⟩
   have ht := List.mem_range.mp ht
   obtain ⟨a1, a2⟩ := hlt t (by omega)
   have a3 := onesB_le m low t
   have a4 := hsm t (by omega)
   simp only [Bool.and_eq_true, decide_eq_true_eq]
   rw [gsOf_hs hH hM m low hxs hys hx hF1 (by omega)]
   exact ⟨by omega, by omega, by omega⟩
  rw [if_neg (by omega), if_pos (by omega), Int.toNat_natCast, show ((hi : Int) - (low : Int)).toNat = D by omega, gseed_hs hH hM m low hxs hys hx hF1 D (by omega), Option.bind_some, if_pos hok]
  have hv : visA low (fun t => ((m / 2 ^ (low + t) : Nat) : Int)) (gsOf F1 m low xs ys x) D = visA low (fun t => ((m / 2 ^ (low + t) : Nat) : Int)) (hsAt H m low xs ys x) D := by
   unfold visA
   refine List.map_congr_left (fun t ht => ?_)
   rw [gsOf_hs hH hM m low hxs hys hx hF1 (by have := List.mem_range.mp ht; omega)]
  rw [hv]
theorem MergeForm.len {H : List Int → List Int → List Int} {b m e : Nat} (hbm : b ≤ m) (hme : m < e) (hm64 : m < 18446744073709551616) {xs ys zs : List (List Int)} {x : List Int} (hl : (Nds 0 b m).length = xs.length) (hyl : (Nds 0 m e).length = ys.length + 1) (h : MergeForm H b m e xs x ys zs) : zs.length = (Nds 0 b e).length := by
 rcases h with ⟨rfl, h⟩ | ⟨D, h0, hA, hD, hin, hend, rfl⟩
 ·rw [h, List.length_append, List.length_append, List.length_cons]; omega
 ·obtain ⟨t1, t2, t3⟩ := tzn_lt h0 hm64
  generalize tzn m = low at *
  have hN : Nds 0 m e = (low, m / 2 ^ low) :: Nds 0 ((m / 2 ^ low + 1) * 2 ^ low) e := by
   have h := mNds_first t3 hA
   rw [t2] at h
   exact h
  rw [hN, List.length_cons] at hyl
  obtain ⟨l1, l2⟩ := len_at (D := D) hl (show (Nds 0 ((m / 2 ^ low + 1) * 2 ^ low) e).length = ys.length by omega) t2 D (Nat.le_refl _) hin
  have hle := onesB_le m low D
  have hb1 : b ≤ m / 2 ^ (low + D) * 2 ^ (low + D) ∧ (m / 2 ^ (low + D) + 1) * 2 ^ (low + D) ≤ e := by
   cases D with
   | zero => rw [Nat.add_zero, t2]; exact ⟨hbm, hA⟩
   | succ t => exact hin t (by omega)
  unfold inR at hend
  rw [show low + (D + 1) = low + D + 1 from rfl, half_up] at hend
  rw [Nds_split (e - b) b e (low + D) (m / 2 ^ (low + D)) (Nat.le_refl _) hb1.1 hb1.2 hend]
  simp only [List.length_append, List.length_take, List.length_drop, List.length_cons, List.length_nil]
  omega
end Go.Proofs.YtielnphmcaecdaaDoor.Hsh
namespace Go.Proofs.YtielnphmcaecdaaDoor.Mth
def cpath (s b e : Nat) (w : Bool) : List (Nat × Nat) :=
 if s = e then (if w then [] else [(b, e)])
 else if _h : e - b ≤ 1 then []
 else if s ≤ b + psplit (e - b) then cpath s b (b + psplit (e - b)) w ++ [(b + psplit (e - b), e)]
 else cpath s (b + psplit (e - b)) e false ++ [(b, b + psplit (e - b))]
termination_by e - b
decreasing_by
 ·have := psplit_lt (n := e - b) (by omega); omega
 ·have := psplit_lt (n := e - b) (by omega); have := psplit_pos (e - b); omega
theorem cpath_end (s b : Nat) (w : Bool) : cpath s b s w = if w then [] else [(b, s)] := by rw [cpath, if_pos rfl]
theorem cpath_left {s b e : Nat} (h : 2 ≤ e - b) (he : s ≠ e) (hs : s ≤ b + psplit (e - b)) (w : Bool) : cpath s b e w = cpath s b (b + psplit (e - b)) w ++ [(b + psplit (e - b), e)] := by
 rw [cpath, if_neg he, dif_neg (by omega), if_pos hs]
theorem cpath_right {s b e : Nat} (h : 2 ≤ e - b) (he : s ≠ e) (hs : b + psplit (e - b) < s) (w : Bool) : cpath s b e w = cpath s (b + psplit (e - b)) e false ++ [(b, b + psplit (e - b))] := by
 rw [cpath, if_neg he, dif_neg (by omega), if_neg (by omega)]
theorem two_odd {l M κ c : Nat} (hM : M % 2 = 1) (hc : c % 2 = 1) (h : 2 ^ l * M = 2 ^ κ * c) : l = κ := by
 rcases Nat.lt_trichotomy l κ with h1 | h1 | h1
 ·exfalso
  obtain ⟨d, rfl⟩ : ∃ d, κ = l + (d + 1) := ⟨κ - l - 1, by omega⟩
  rw [Nat.pow_add, Nat.mul_assoc] at h
  have := Nat.eq_of_mul_eq_mul_left (Nat.two_pow_pos l) h
  rw [Nat.pow_succ, Nat.mul_assoc, Nat.mul_left_comm] at this
  omega
 ·exact h1
 ·exfalso
  obtain ⟨d, rfl⟩ : ∃ d, l = κ + (d + 1) := ⟨l - κ - 1, by omega⟩
  rw [Nat.pow_add, Nat.mul_assoc] at h
  have := (Nat.eq_of_mul_eq_mul_left (Nat.two_pow_pos κ) h).symm
  rw [Nat.pow_succ, Nat.mul_assoc, Nat.mul_left_comm] at this
  omega
theorem low_le {l M c κ s : Nat} (hs : s = 2 ^ l * M) (h1 : c * 2 ^ κ < s) (h2 : s < (c + 1) * 2 ^ κ) : l < κ := by
 apply Nat.lt_of_not_le; intro h
 obtain ⟨d, rfl⟩ : ∃ d, l = κ + d := ⟨l - κ, by omega⟩
 have e : s = 2 ^ d * M * 2 ^ κ := by rw [hs, Nat.pow_add]; ac_rfl
 rw [e] at h1 h2
 have a := Nat.lt_of_mul_lt_mul_right h1
 have b := Nat.lt_of_mul_lt_mul_right h2
 omega
theorem drop_snoc {α : Type} {l : Nat} {a : List α} (b : List α) (h : l ≤ a.length) : (a ++ b).drop l = a.drop l ++ b := by
 rw [List.drop_append, show l - a.length = 0 by omega, List.drop_zero]
theorem cpath_perfect {l M s : Nat} (hM : M % 2 = 1) (hs : s = 2 ^ l * M) (κ : Nat) : ∀ (b : Nat) (w : Bool), b * 2 ^ κ < s → s ≤ (b + 1) * 2 ^ κ → (s = (b + 1) * 2 ^ κ → b % 2 = 0) →
 cpath s (b * 2 ^ κ) ((b + 1) * 2 ^ κ) w = (if w = true ∧ s = b * 2 ^ κ + 2 ^ l then [] else [(s - 2 ^ l, s)]) ++ (path (s - 1) (b * 2 ^ κ) ((b + 1) * 2 ^ κ)).drop l ∧ l ≤ (path (s - 1) (b * 2 ^ κ) ((b + 1) * 2 ^ κ)).length ∧ l ≤ κ := by
 have hpl := Nat.two_pow_pos l
 induction κ with
 | zero =>
  intro b w h1 h2 h3
  simp only [Nat.pow_zero, Nat.mul_one] at h1 h2 h3 ⊢
  have e : s = b + 1 := by omega
  have hl : l = 0 := two_odd (κ := 0) (c := s) hM (by have := h3 e; omega) (by rw [← hs, Nat.pow_zero, Nat.one_mul])
  subst hl
  rw [← e, cpath_end, path_one (by omega), Nat.pow_zero]
  refine ⟨?_, Nat.le_refl _, Nat.le_refl _⟩
  cases w
  ·rw [if_neg (by simp), if_neg (by simp), show s - 1 = b by omega]; rfl
  ·rw [if_pos rfl, if_pos ⟨rfl, by omega⟩]; rfl
 | succ κ ih =>
  intro b w h1 h2 h3
  have hp := Nat.two_pow_pos κ
  have e1 : b * 2 ^ (κ + 1) = 2 * b * 2 ^ κ := by rw [Nat.pow_succ]; ac_rfl
  have e3 : (2 * b + 1) * 2 ^ κ = 2 * b * 2 ^ κ + 2 ^ κ := by rw [Nat.add_mul, Nat.one_mul]
  have e4 : (b + 1) * 2 ^ (κ + 1) = (2 * b + 1 + 1) * 2 ^ κ := by rw [Nat.pow_succ, show 2 * b + 1 + 1 = 2 * (b + 1) by omega]; ac_rfl
  have e5 : (2 * b + 1 + 1) * 2 ^ κ = 2 * b * 2 ^ κ + 2 ^ κ + 2 ^ κ := by rw [Nat.add_mul, e3, Nat.one_mul]
  have e6 : (b + 1) * 2 ^ (κ + 1) - b * 2 ^ (κ + 1) = 2 ^ (κ + 1) := by rw [Nat.add_mul]; omega
  have h2p : 2 ≤ (b + 1) * 2 ^ (κ + 1) - b * 2 ^ (κ + 1) := by rw [e6, Nat.pow_succ]; omega
  have hsp : psplit ((b + 1) * 2 ^ (κ + 1) - b * 2 ^ (κ + 1)) = 2 ^ κ := by rw [e6, psplit_pow]
  by_cases he : s = (b + 1) * 2 ^ (κ + 1)
  ·have hl : l = κ + 1 := two_odd (c := b + 1) hM (by have := h3 he; omega) (by rw [← hs, he, Nat.mul_comm])
   have hpe := path_perfect (κ + 1) b (s - 1) (by omega) (by omega)
   rw [← he] at hpe ⊢
   rw [cpath_end, hpe]
   have hll : ((sibs (s - 1) (κ + 1)).map lvs).length = κ + 1 := by unfold sibs; simp
   refine ⟨?_, by omega, by omega⟩
   rw [List.drop_of_length_le (by omega), List.append_nil]
   have e7 : s = b * 2 ^ (κ + 1) + 2 ^ l := by rw [hl, he, Nat.add_mul, Nat.one_mul]
   cases w
   ·rw [if_neg (by simp), if_neg (by simp), show s - 2 ^ l = b * 2 ^ (κ + 1) by omega]
   ·rw [if_pos rfl, if_pos ⟨rfl, e7⟩]
  ·have hlt : s < (b + 1) * 2 ^ (κ + 1) := by omega
   have hl := low_le hs h1 hlt
   by_cases hm : s ≤ b * 2 ^ (κ + 1) + 2 ^ κ
   ·obtain ⟨i1, i2, i3⟩ := ih (2 * b) w (by rw [← e1]; exact h1) (by rw [e3, ← e1]; exact hm) (fun _ => by omega)
    rw [e3, ← e1] at i1 i2
    rw [cpath_left h2p he (by rw [hsp]; exact hm), path_left h2p (by rw [hsp]; omega), hsp, i1, drop_snoc _ i2, List.append_assoc]
    exact ⟨rfl, by rw [List.length_append]; omega, by omega⟩
   ·obtain ⟨i1, i2, i3⟩ := ih (2 * b + 1) false (by rw [e3, ← e1]; omega) (by rw [← e4]; exact h2) (fun h => absurd (h.trans e4.symm) he)
    rw [e3, ← e1, ← e4] at i1 i2
    rw [cpath_right h2p he (by rw [hsp]; omega), path_right h2p (by rw [hsp]; omega), hsp, i1, drop_snoc _ i2, List.append_assoc]
    refine ⟨?_, by rw [List.length_append]; omega, by omega⟩
    have : 2 ^ l ≤ 2 ^ κ := Nat.pow_le_pow_right (by decide) (by omega)
    rw [if_neg (by simp), if_neg (by omega)]
theorem cpath_parts {l M s : Nat} (hM : M % 2 = 1) (hs : s = 2 ^ l * M) (n : Nat) : ∀ (d K B : Nat) (w : Bool), n - B = d → B % 2 ^ K = 0 → n < B + 2 ^ K → B < s → s < n →
 cpath s B n w = (if w = true ∧ s = B + 2 ^ l then [] else [(s - 2 ^ l, s)]) ++ (path (s - 1) B n).drop l ∧ l ≤ (path (s - 1) B n).length := by
 have hpl := Nat.two_pow_pos l
 intro d
 induction d using Nat.strongRecOn with
 | _ d ih =>
 intro K B w hd hB hn h1 h2
 have h2p : 2 ≤ n - B := by omega
 obtain ⟨κ, hκ⟩ : ∃ κ, psplit (n - B) = 2 ^ κ := ⟨_, rfl⟩
 have hp := Nat.two_pow_pos κ
 have hlt := psplit_lt h2p
 have hle := le_psplit h2p
 rw [hκ] at hlt hle
 have hpow : 2 ^ (κ + 1) = 2 * 2 ^ κ := by rw [Nat.pow_succ]; omega
 have hκM : κ < K := by
  apply Nat.lt_of_not_le
  intro h
  have := Nat.pow_le_pow_right (n := 2) (by decide) h
  omega
 obtain ⟨β, hβ⟩ := Nat.dvd_trans (Nat.pow_dvd_pow 2 hκM) (Nat.dvd_of_mod_eq_zero hB)
 have hβ1 : B = β * 2 ^ (κ + 1) := by rw [hβ]; ac_rfl
 have hβ2 : B = 2 * β * 2 ^ κ := by rw [hβ1, hpow]; ac_rfl
 have e1 : (β + 1) * 2 ^ (κ + 1) = B + 2 ^ (κ + 1) := by rw [Nat.add_mul, ← hβ1, Nat.one_mul]
 have e3 : (2 * β + 1) * 2 ^ κ = B + 2 ^ κ := by rw [Nat.add_mul, ← hβ2, Nat.one_mul]
 by_cases hperf : n = B + 2 ^ (κ + 1)
 ·obtain ⟨i1, i2, _⟩ := cpath_perfect hM hs (κ + 1) β w (by omega) (by omega) (fun h => by omega)
  rw [e1, ← hβ1, ← hperf] at i1 i2
  exact ⟨i1, i2⟩
 ·by_cases hm : s ≤ B + 2 ^ κ
  ·obtain ⟨i1, i2, i3⟩ := cpath_perfect hM hs κ (2 * β) w (by omega) (by omega) (fun _ => by omega)
   rw [e3, ← hβ2] at i1 i2
   rw [cpath_left h2p (by omega) (by omega), path_left h2p (by omega), hκ, i1, drop_snoc _ i2, List.append_assoc]
   exact ⟨rfl, by rw [List.length_append]; omega⟩
  ·obtain ⟨i1, i2⟩ := ih (n - (B + 2 ^ κ)) (by omega) κ (B + 2 ^ κ) false rfl (by rw [hβ2, Nat.mul_comm (2 * β), Nat.add_mod_right, Nat.mul_mod_right]) (by omega) (by omega) h2
   rw [cpath_right h2p (by omega) (by omega), path_right h2p (by omega), hκ, i1, drop_snoc _ i2, List.append_assoc]
   refine ⟨?_, by rw [List.length_append]; omega⟩
   have hl : l ≤ κ := by
    have h3 : (2 * β + 1) * 2 ^ κ < s := by omega
    have h4 : s < (2 * β + 1 + 1) * 2 ^ κ := by rw [Nat.add_mul (2 * β + 1), e3, Nat.one_mul]; omega
    exact Nat.le_of_lt (low_le hs h3 h4)
   have : 2 ^ l ≤ 2 ^ κ := Nat.pow_le_pow_right (by decide) hl
   rw [if_neg (by simp), if_neg (by omega)]
def upS (i l m : Nat) : List (Nat × Nat) := (List.range m).map fun t => sib i (l + t)
theorem sibs_drop (i l m : Nat) : (sibs i (l + m)).drop l = upS i l m := by
 unfold sibs upS
 rw [← List.map_drop]
 have : (List.range (l + m)).drop l = (List.range m).map (l + ·) := by
  apply List.ext_getElem
  ·simp
  ·intro j h1 h2; simp
 rw [this, List.map_map]; rfl
end Go.Proofs.YtielnphmcaecdaaDoor.Mth
namespace Go.Proofs.YtielnphmcaecdaaDoor.PAll
open Go.RowKit Go.Proofs.YtielnphmcaecdaaDoor.Num Go.Proofs.YtielnphmcaecdaaDoor.Mth Go.Proofs.YtielnphmcaecdaaDoorW.PrintWords Go.Proofs.YtielnphmcaecdaaDoorW.PrintLast
theorem blk_le (i l : Nat) {s m : Nat} (h : s ≤ m) : (i / 2 ^ s + 1) * 2 ^ (l + s) ≤ (i / 2 ^ m + 1) * 2 ^ (l + m) := by
 have e : i / 2 ^ m = i / 2 ^ s / 2 ^ (m - s) := by rw [Nat.div_div_eq_div_mul, ← Nat.pow_add, show s + (m - s) = m by omega]
 have h1 : i / 2 ^ s < (i / 2 ^ s / 2 ^ (m - s) + 1) * 2 ^ (m - s) := (Nat.div_lt_iff_lt_mul (Nat.two_pow_pos _)).1 (Nat.lt_succ_self _)
 rw [e]
 calc (i / 2 ^ s + 1) * 2 ^ (l + s) ≤ ((i / 2 ^ s / 2 ^ (m - s) + 1) * 2 ^ (m - s)) * 2 ^ (l + s) := Nat.mul_le_mul_right _ h1
  _ = (i / 2 ^ s / 2 ^ (m - s) + 1) * 2 ^ (l + m) := by rw [Nat.mul_assoc, ← Nat.pow_add, show m - s + (l + s) = l + m by omega]
def nParts (c l n : Nat) : List (Nat × Nat) := (ndS c l n).map lvs ++ (if ndE c l n < n then [(ndE c l n, n)] else []) ++ (Nds 0 0 (ndB c l n)).reverse.map lvs
theorem path_node (l M s n : Nat) (hM : M % 2 = 1) (hs : s = 2 ^ l * M) (hlt : s < n) : (path (s - 1) 0 n).drop l = nParts (M - 1) l n ∧ l ≤ (path (s - 1) 0 n).length ∧ cpath s 0 n true = (if M = 1 then [] else [lvs (l, M - 1)]) ++ nParts (M - 1) l n := by
 have hp := Nat.two_pow_pos l
 have hMp : 0 < M := by omega
 have hs0 : 0 < s := by rw [hs]; exact Nat.mul_pos hp hMp
 have hdiv : ∀ t, (s - 1) / 2 ^ (l + t) = (M - 1) / 2 ^ t := by
  intro t
  have h0 : (s - 1) / 2 ^ l = M - 1 := by
   rw [hs]
   apply Nat.div_eq_of_lt_le
   ·have : 2 ^ l * M = (M - 1) * 2 ^ l + 2 ^ l := by rw [Nat.mul_comm, ← Nat.succ_mul]; congr 1; omega
    omega
   ·have : 2 ^ l * M = (M - 1 + 1) * 2 ^ l := by rw [Nat.mul_comm]; congr 1; omega
    have : 0 < 2 ^ l * M := Nat.mul_pos hp hMp
    show 2 ^ l * M - 1 < (M - 1).succ * 2 ^ l
    rw [show (M - 1).succ = M - 1 + 1 from rfl]
    omega
  rw [Nat.pow_add, ← Nat.div_div_eq_div_mul, h0]
 have hndiv : ∀ t, n / 2 ^ (l + t) = n / 2 ^ l / 2 ^ t := fun t => by rw [Nat.pow_add, ← Nat.div_div_eq_div_mul]
 have hMn : M - 1 < n / 2 ^ l := by
  have : M ≤ n / 2 ^ l := (Nat.le_div_iff_mul_le hp).2 (by rw [Nat.mul_comm, ← hs]; omega)
  omega
 have hff : fork (s - 1) n = l + fork (M - 1) (n / 2 ^ l) := by
  obtain ⟨j, hj⟩ : ∃ j, fork (M - 1) (n / 2 ^ l) = j + 1 := ⟨_, (Nat.succ_pred_eq_of_pos (fork_pos hMn)).symm⟩
  have a : fork (s - 1) n ≤ l + (j + 1) := fork_le.2 (by rw [hdiv, hndiv]; exact fork_le.1 (by omega))
  have b : ¬ fork (s - 1) n ≤ l + j := fun h => by
   have h1 := fork_le.1 h
   rw [hdiv, hndiv] at h1
   have := fork_le.2 h1
   omega
  omega
 have hm : fork (s - 1) n - 1 = l + ndM (M - 1) l n := by
  have := fork_pos hMn
  unfold ndM; omega
 have hPP := (path_parts (s - 1) n n n 0 (by omega) (by simp) (by have := @Nat.lt_two_pow_self n; omega) (Nat.zero_le _) (by omega)).2
 rw [hm, hdiv] at hPP
 have hC := cpath_parts hM hs n n n 0 true (by omega) (by simp) (by have := @Nat.lt_two_pow_self n; omega) hs0 hlt
 have hpath : (path (s - 1) 0 n).drop l = nParts (M - 1) l n := by
  rw [hPP, List.append_assoc, drop_snoc _ (by rw [List.length_map]; unfold sibs; simp), ← List.map_drop, sibs_drop]
  unfold nParts
  rw [List.append_assoc]
  congr 1
  congr 1
  unfold upS ndS sib
  apply List.map_congr_left
  intro t _
  rw [hdiv]
 refine ⟨hpath, hC.2, ?_⟩
 rw [hC.1, hpath]
 congr 1
 have hse : s = (M - 1 + 1) * 2 ^ l := by rw [hs, Nat.mul_comm, show M - 1 + 1 = M by omega]
 by_cases h1 : M = 1
 ·rw [if_pos h1, if_pos ⟨rfl, by rw [hs, h1]; omega⟩]
 ·rw [if_neg h1, if_neg (by
   rintro ⟨_, h⟩
   rw [Nat.zero_add] at h
   rw [hs] at h
   have : M = 1 := Nat.eq_of_mul_eq_mul_left hp (by rw [h, Nat.mul_one])
   exact h1 this)]
  unfold lvs
  dsimp only
  rw [← hse, show s - 2 ^ l = (M - 1) * 2 ^ l by rw [hse, Nat.add_mul]; omega]
theorem cpath_len (s b e : Nat) (w : Bool) : (cpath s b e w).length ≤ blen (e - b - 1) + 1 := by
 induction hn : e - b using Nat.strongRecOn generalizing b e w with
 | _ d ih =>
 subst hn
 by_cases h1 : s = e
 ·subst h1; rw [cpath_end]; split <;> simp
 ·by_cases h2 : e - b ≤ 1
  ·rw [cpath, if_neg h1, dif_pos h2]; simp
  ·have p1 := psplit_lt (n := e - b) (by omega)
   have p2 := psplit_pos (e - b)
   have p3 := le_psplit (n := e - b) (by omega)
   have hL := blen_pos (n := e - b - 1) (by omega)
   have hp : psplit (e - b) = 2 ^ (blen (e - b - 1) - 1) := rfl
   by_cases h3 : s ≤ b + psplit (e - b)
   ·rw [cpath_left (by omega) h1 h3, List.length_append]
    have := ih (b + psplit (e - b) - b) (by omega) b (b + psplit (e - b)) w rfl
    have h4 : blen (b + psplit (e - b) - b - 1) ≤ blen (e - b - 1) - 1 := blen_le.2 (by omega)
    simp only [List.length_singleton]; omega
   ·rw [cpath_right (by omega) h1 (by omega), List.length_append]
    have := ih (e - (b + psplit (e - b))) (by omega) (b + psplit (e - b)) e false rfl
    have h4 : blen (e - (b + psplit (e - b)) - 1) ≤ blen (e - b - 1) - 1 := blen_le.2 (by omega)
    simp only [List.length_singleton]; omega
theorem spec_proofIn.eq (s : Nat) (b e : Nat) (w : Bool) (hbe : b < e) (hs : b < s) (hse : s ≤ e) (he : e < 18446744073709551616) (k : Nat) (hk : e - b + 66 ≤ k) : spec_proofIn.f k (s : Int) (b : Int) (e : Int) w = some ((cpath s b e w).map prt) := by
 induction hn : e - b using Nat.strongRecOn generalizing b e k w with
 | _ n ih =>
 subst hn
 obtain ⟨k, rfl⟩ : ∃ m, k = m + 1 := ⟨k - 1, by omega⟩
 rw [spec_proofIn.f]
 by_cases h1 : s = e
 ·subst h1
  rw [if_pos rfl, cpath_end]
  cases w
  ·rw [if_neg (by decide), if_neg (by decide)]; rfl
  ·rw [if_pos rfl, if_pos rfl]; rfl
 ·have p1 := psplit_lt (n := e - b) (by omega)
  have p2 := psplit_pos (e - b)
  rw [if_neg (by omega), u64sub (by omega) he, spec_split.eq (e - b) (by omega) (by omega) k (by omega), Option.bind_some, u64add (a := b) (b := psplit (e - b)) (by omega)]
  by_cases h3 : s ≤ b + psplit (e - b)
  ·rw [if_pos (by omega), ih (b + psplit (e - b) - b) (by omega) b (b + psplit (e - b)) w (by omega) hs h3 (by omega) k (by omega) rfl, cpath_left (by omega) h1 h3]
   have hl := cpath_len s b (b + psplit (e - b)) w
   have hl2 := blen_lt64 (n := b + psplit (e - b) - b - 1) (by omega)
   rw [Option.bind_some, Option.bind_some, if_pos (by simp only [List.length_map, List.length_cons, List.length_nil]; omega), List.map_append]
   rfl
  ·rw [if_neg (by omega), ih (e - (b + psplit (e - b))) (by omega) (b + psplit (e - b)) e false (by omega) (by omega) hse he k (by omega) rfl, cpath_right (s := s) (b := b) (e := e) (by omega) h1 (by omega) w]
   have hl := cpath_len s (b + psplit (e - b)) e false
   have hl2 := blen_lt64 (n := e - (b + psplit (e - b)) - 1) (by omega)
   rw [Option.bind_some, Option.bind_some, if_pos (by simp only [List.length_map, List.length_cons, List.length_nil]; omega), List.map_append]
   rfl
theorem spec_ProofParts.eq (s n : Nat) (h0 : 0 < s) (hs : s ≤ n) (hn : n < 18446744073709551616) (k : Nat) (hk : n + 66 ≤ k) : spec_ProofParts.f k (s : Int) (n : Int) = some ((cpath s 0 n true).map prt) := by
 unfold spec_ProofParts.f
 rw [show (0 : Int) = ((0 : Nat) : Int) from rfl, spec_proofIn.eq s 0 n true (by omega) h0 hs hn k (by omega)]
 rfl
end Go.Proofs.YtielnphmcaecdaaDoor.PAll
namespace Go.Proofs.YtielnphmcaecdaaDoor.PAll
open Go.RowKit Go.Proofs.YtielnphmcaecdaaDoorW.PrintWords Go.Proofs.YtielnphmcaecdaaDoorW.PrintLast Go.Proofs.YtielnphmcaecdaaDoorW.PrintMore
attribute [local go_sem] max2_int min2_int max_two min_two max_three min_three max_four min_four   -- for this text's walks alone
def spec_RootOf.B1 : List Nat := [0, 0, 0, 4, 0, 16, 62, 127, 255]
end Go.Proofs.YtielnphmcaecdaaDoor.PAll
namespace Go.Proofs.YtielnphmcaecdaaDoor.Hsh
open Go.RowKit Go.Proofs.YtielnphmcaecdaaDoor.Num Go.Proofs.YtielnphmcaecdaaDoor.Mth Go.Proofs.YtielnphmcaecdaaDoor.PAll Go.Proofs.YtielnphmcaecdaaDoorW.PrintWords Go.Proofs.YtielnphmcaecdaaDoorW.PrintLast
theorem bord_foldR (H : List Int → List Int → List Int) (E : List Int) : ∀ (xs : List (List Int)) (x : List Int), bord H xs.reverse x = foldR H E (xs ++ [x])
 | [], x => rfl
 | y :: ys, x => by
  rw [List.reverse_cons, bord_append, bord_foldR H E ys x]
  show H y _ = _
  rw [List.cons_append, foldR_step (by simp)]
def prtV (H : List Int → List Int → List Int) (E : List Int) (val : Nat × Nat → List Int) (p : Nat × Nat) : List Int := foldR H E ((Nds 0 p.1 p.2).map val)
theorem Nds_one (l c : Nat) : Nds 0 (c * 2 ^ l) ((c + 1) * 2 ^ l) = [(l, c)] := by
 rw [Nds_shift, Nds_step l c (c + 1) (by omega), lev_no (by omega), Nat.pow_zero, Nat.div_one, Nds_empty (by omega)]; rfl
theorem prtV_lvs (H : List Int → List Int → List Int) (E : List Int) (val : Nat × Nat → List Int) (q : Nat × Nat) : prtV H E val (lvs q) = val q := by
 obtain ⟨l, c⟩ := q
 unfold prtV lvs
 dsimp only
 rw [Nds_one]; rfl
theorem map_lvs (H : List Int → List Int → List Int) (E : List Int) (val : Nat × Nat → List Int) (l : List (Nat × Nat)) : (l.map lvs).map (prtV H E val) = l.map val := by
 rw [List.map_map]
 exact List.map_congr_left (fun q _ => prtV_lvs H E val q)
theorem folded_mid (H : List Int → List Int → List Int) (E : List Int) (A G : List (List Int)) (xs : List (List Int)) (hx : xs ≠ []) : folded H A.length (A.length + xs.length) (A ++ xs.reverse ++ G) = A ++ [foldR H E xs] ++ G := by
 have hl : 0 < xs.length := List.length_pos_iff.2 hx
 obtain ⟨ys, y, rfl⟩ : ∃ ys y, xs = ys ++ [y] := ⟨xs.dropLast, xs.getLast hx, (List.dropLast_concat_getLast hx).symm⟩
 unfold folded
 rw [if_pos (by omega)]
 have e0 : (ys ++ [y]).reverse = y :: ys.reverse := by simp
 have e1 : (A ++ (ys ++ [y]).reverse ++ G).take A.length = A := by rw [List.append_assoc, List.take_left]
 have e2 : (A ++ (ys ++ [y]).reverse ++ G).drop (A.length + (ys ++ [y]).length) = G := by
  rw [show A.length + (ys ++ [y]).length = (A ++ (ys ++ [y]).reverse).length by simp, List.drop_left]
 have e3 : ((A ++ (ys ++ [y]).reverse ++ G).take (A.length + (ys ++ [y]).length)).drop (A.length + 1) = ys.reverse := by
  rw [show A.length + (ys ++ [y]).length = (A ++ (ys ++ [y]).reverse).length by simp, List.take_left, e0, ← List.drop_drop, List.drop_left]; rfl
 have e4 : (A ++ (ys ++ [y]).reverse ++ G).getD A.length [] = y := by
  rw [e0, List.append_assoc, List.getD_eq_getElem?_getD, List.getElem?_append_right (Nat.le_refl _), Nat.sub_self]; rfl
 rw [e1, e2, e3, e4, bord_foldR H E]
 simp
theorem folded_none (H : List Int → List Int → List Int) (b : Nat) (l : List (List Int)) : folded H b b l = l := by unfold folded; rw [if_neg (by omega)]
theorem folded_parts (H : List Int → List Int → List Int) (E : List Int) (val : Nat × Nat → List Int) (c l n : Nat) (hi : c < n / 2 ^ l) : folded H (skBegin c l n) (skEnd c l n) ((skIds c l n).map val) = (nParts c l n).map (prtV H E val) := by
 have hE := (ndE_le c l n hi).2
 unfold skIds nParts skBegin skEnd
 rw [List.map_append, List.map_append, List.map_append, List.map_append, map_lvs, map_lvs]
 by_cases h : ndE c l n < n
 ·have hne := Nds_nonempty (l := 0) h
  have hm := folded_mid H E ((ndS c l n).map val) ((Nds 0 0 (ndB c l n)).reverse.map val) ((Nds 0 (ndE c l n) n).map val) (by intro e; have := congrArg List.length e; rw [List.length_map, List.length_nil] at this; omega)
  rw [List.length_map, List.length_map, ndS_len, ← List.map_reverse] at hm
  rw [if_neg (by omega), if_neg (by omega), if_pos h, hm]; rfl
 ·rw [if_neg h, Nds_empty (show n ≤ ndE c l n by omega), if_pos (by rfl), if_pos (by rfl), folded_none]; rfl
theorem folded_parts1 (H : List Int → List Int → List Int) (E : List Int) (val : Nat × Nat → List Int) (c l n : Nat) (hi : c < n / 2 ^ l) : folded H (ndBegin c l n) (ndEnd c l n) ((ndIds c l n).map val) = val (l, c) :: (nParts c l n).map (prtV H E val) := by
 have hE := (ndE_le c l n hi).2
 unfold ndIds nParts ndBegin ndEnd
 rw [List.map_cons, List.map_append, List.map_append, List.map_append, List.map_append, map_lvs, map_lvs]
 by_cases h : ndE c l n < n
 ·have hne := Nds_nonempty (l := 0) h
  have hm := folded_mid H E (val (l, c) :: (ndS c l n).map val) ((Nds 0 0 (ndB c l n)).reverse.map val) ((Nds 0 (ndE c l n) n).map val) (by intro e; have := congrArg List.length e; rw [List.length_map, List.length_nil] at this; omega)
  rw [List.length_cons, List.length_map, List.length_map, ndS_len, ← List.map_reverse] at hm
  rw [if_neg (by omega), if_neg (by omega), if_pos h, Nat.add_comm 1, ← List.cons_append, ← List.cons_append, hm]; rfl
 ·rw [if_neg h, Nds_empty (show n ≤ ndE c l n by omega), if_pos (by rfl), if_pos (by rfl), folded_none]; rfl
theorem prtV_mth (H : List Int → List Int → List Int) (E : List Int) (L : List (List Int)) {b e M : Nat} (he : e ≤ L.length) (hb : b % 2 ^ M = 0) (hM : e ≤ b + 2 ^ M) (hbe : b < e) : prtV H E (nodeH H E L) (b, e) = mth H E (seg L b e) :=
 fold_nodes H E L e he _ M b rfl hb hM hbe
theorem part_mth (H : List Int → List Int → List Int) (E : List Int) (L : List (List Int)) (c l n : Nat) (hi : c < n / 2 ^ l) (hn : n ≤ L.length) : ∀ p ∈ nParts c l n, prtV H E (nodeH H E L) p = mth H E (seg L p.1 p.2) ∧ p.1 < p.2 ∧ p.2 ≤ n := by
 obtain ⟨hE1, hE⟩ := ndE_le c l n hi
 have hB := ndB_lt c l n hi
 have hone : ∀ q : Nat × Nat, (q.2 + 1) * 2 ^ q.1 ≤ n → prtV H E (nodeH H E L) (lvs q) = mth H E (seg L (lvs q).1 (lvs q).2) ∧ (lvs q).1 < (lvs q).2 ∧ (lvs q).2 ≤ n := by
  intro q hq
  rw [prtV_lvs]
  refine ⟨rfl, ?_, hq⟩
  unfold lvs
  dsimp only
  have := Nat.two_pow_pos q.1
  rw [Nat.add_mul, Nat.one_mul]; omega
 intro p hp
 unfold nParts at hp
 rcases List.mem_append.1 hp with hp | hp
 ·rcases List.mem_append.1 hp with hp | hp
  ·obtain ⟨q, hq, rfl⟩ := List.mem_map.1 hp
   refine hone q ?_
   unfold ndS at hq
   obtain ⟨t, ht, rfl⟩ := List.mem_map.1 hq
   have ht := List.mem_range.1 ht
   have h1 := blk_le c l (show t + 1 ≤ ndM c l n from ht)
   have h2 : (c / 2 ^ ndM c l n + 1) * 2 ^ (l + ndM c l n) ≤ n := hE
   have hx : c / 2 ^ (t + 1) = c / 2 ^ t / 2 := by rw [Nat.pow_succ, ← Nat.div_div_eq_div_mul]
   have e2 : (c / 2 ^ (t + 1) + 1) * 2 ^ (l + (t + 1)) = (2 * (c / 2 ^ t / 2) + 2) * 2 ^ (l + t) := by
    rw [hx, ← Nat.add_assoc, Nat.pow_succ, show 2 * (c / 2 ^ t / 2) + 2 = 2 * (c / 2 ^ t / 2 + 1) by omega]; ac_rfl
   have h3 : (sib c t).2 + 1 ≤ 2 * (c / 2 ^ t / 2) + 2 := by
    unfold sib; dsimp only; split <;> omega
   have h4 := Nat.mul_le_mul_right (2 ^ (l + t)) h3
   show ((sib c t).2 + 1) * 2 ^ (l + t) ≤ n
   omega
  ·split at hp
   ·rename_i hlt
    have e := List.mem_singleton.1 hp
    subst e
    refine ⟨prtV_mth H E L (M := l + ndM c l n) hn ?_ ?_ hlt, hlt, Nat.le_refl _⟩
    ·rw [hE1, Nat.mul_mod_left]
    ·have h1 : n < (n / 2 ^ (l + ndM c l n) + 1) * 2 ^ (l + ndM c l n) := (Nat.div_lt_iff_lt_mul (Nat.two_pow_pos (l + ndM c l n))).1 (Nat.lt_succ_self _)
     rw [Nat.add_mul, Nat.one_mul, ← hE1] at h1; omega
   ·cases hp
 ·obtain ⟨q, hq, rfl⟩ := List.mem_map.1 hp
  have := Nds_in (ndB c l n) _ 0 rfl q (List.mem_reverse.1 hq)
  exact hone q (by omega)
end Go.Proofs.YtielnphmcaecdaaDoor.Hsh
namespace Go.Proofs.YtielnphmcaecdaaDoor.Mth
open Go.Proofs.YtielnphmcaecdaaDoor.PAll
theorem Nds_disj : ∀ (d b e : Nat), e - b ≤ d → ∀ p ∈ Nds 0 b e, ∀ q ∈ Nds 0 b e, p.2 * 2 ^ p.1 < (q.2 + 1) * 2 ^ q.1 → q.2 * 2 ^ q.1 < (p.2 + 1) * 2 ^ p.1 → p = q := by
 intro d
 induction d with
 | zero => intro b e h p hp; rw [Nds_empty (by omega)] at hp; cases hp
 | succ d ih =>
  intro b e h p hp q hq h1 h2
  by_cases hb : b < e
  ·obtain ⟨c, c1, c2, c3, c4, _⟩ := mlev_parts hb
   have hpp := Nat.two_pow_pos (lev b e)
   rw [Nds_step 0 b e hb, Nat.zero_add, c2] at hp hq
   rcases List.mem_cons.mp hp with rfl | hp
   ·rcases List.mem_cons.mp hq with rfl | hq
    ·rfl
    ·have := (mNds_range _ _ _ (Nat.le_refl _) q hq).1
     dsimp only at h1 h2
     omega
   ·rcases List.mem_cons.mp hq with rfl | hq
    ·have := (mNds_range _ _ _ (Nat.le_refl _) p hp).1
     dsimp only at h1 h2
     omega
    ·exact ih _ _ (by omega) p hp q hq h1 h2
  ·rw [Nds_empty (by omega)] at hp; cases hp
theorem Nds_nodup : ∀ (d b e : Nat), e - b ≤ d → (Nds 0 b e).Nodup := by
 intro d
 induction d with
 | zero => intro b e h; rw [Nds_empty (by omega)]; exact List.nodup_nil
 | succ d ih =>
  intro b e h
  by_cases hb : b < e
  ·obtain ⟨c, c1, c2, c3, c4, _⟩ := mlev_parts hb
   have hpp := Nat.two_pow_pos (lev b e)
   rw [Nds_step 0 b e hb, Nat.zero_add, c2]
   refine List.nodup_cons.mpr ⟨fun hm => ?_, ih _ _ (by omega)⟩
   have := (mNds_range _ _ _ (Nat.le_refl _) _ hm).1
   dsimp only at this
   omega
  ·rw [Nds_empty (by omega)]; exact List.nodup_nil
def twoK (s n : Nat) : List (Nat × Nat) := Nds 0 0 s ++ Nds 0 s n
theorem twoK_disj {s n : Nat} {p q : Nat × Nat} (hp : p ∈ twoK s n) (hq : q ∈ twoK s n) (h1 : p.2 * 2 ^ p.1 < (q.2 + 1) * 2 ^ q.1) (h2 : q.2 * 2 ^ q.1 < (p.2 + 1) * 2 ^ p.1) : p = q := by
 rcases List.mem_append.mp hp with hp | hp
 ·rcases List.mem_append.mp hq with hq | hq
  ·exact Nds_disj _ _ _ (Nat.le_refl _) p hp q hq h1 h2
  ·have := (mNds_range _ _ _ (Nat.le_refl _) p hp).2
   have := (mNds_range _ _ _ (Nat.le_refl _) q hq).1
   omega
 ·rcases List.mem_append.mp hq with hq | hq
  ·have := (mNds_range _ _ _ (Nat.le_refl _) q hq).2
   have := (mNds_range _ _ _ (Nat.le_refl _) p hp).1
   omega
  ·exact Nds_disj _ _ _ (Nat.le_refl _) p hp q hq h1 h2
theorem twoK_nodup (s n : Nat) : (twoK s n).Nodup := by
 refine List.nodup_append.mpr ⟨Nds_nodup _ _ _ (Nat.le_refl _), Nds_nodup _ _ _ (Nat.le_refl _), fun p hp q hq e => ?_⟩
 subst e
 have h1 := (mNds_range _ _ _ (Nat.le_refl _) p hp).2
 have h2 := (mNds_range _ _ _ (Nat.le_refl _) p hq).1
 have := Nat.two_pow_pos p.1
 rw [Nat.succ_mul] at h1
 omega
def knV (K : List (Nat × Nat)) (vs : List (List Int)) (p : Nat × Nat) : Option (List Int) := ((K.zip vs).find? (fun x => decide (x.1 = p))).map (fun x => x.2)
theorem knV_at : ∀ (K : List (Nat × Nat)) (vs : List (List Int)) (i : Nat), K.Nodup → K.length = vs.length → (h : i < K.length) → knV K vs K[i] = some (vs.getD i [])
 | [], _, i, _, _, h => by simp at h
 | p :: K, [], i, _, hl, h => by simp at hl
 | p :: K, v :: vs, 0, hn, hl, h => by
  unfold knV
  rw [List.zip_cons_cons, List.find?_cons_of_pos (by simp)]; rfl
 | p :: K, v :: vs, i + 1, hn, hl, h => by
  have hn' := List.nodup_cons.mp hn
  have hi : i < K.length := by simp at h; omega
  have ih := knV_at K vs i hn'.2 (by simpa using hl) hi
  unfold knV at ih ⊢
  have hne : ¬ p = K[i] := fun e => hn'.1 (e ▸ List.getElem_mem hi)
  rw [List.zip_cons_cons, List.getElem_cons_succ, List.find?_cons_of_neg (by simpa using hne)]
  exact ih
theorem knV_none {K : List (Nat × Nat)} {vs : List (List Int)} {p : Nat × Nat} (h : p ∉ K) : knV K vs p = none := by
 unfold knV
 rw [List.find?_eq_none.mpr]; rfl
 intro x hx
 have h1 : x.1 ∈ K := (List.of_mem_zip (a := x.1) (b := x.2) hx).1
 simp only [decide_eq_true_eq]
 exact fun e => h (e ▸ h1)
def tok (l c : Nat) : List Int := [-1, (l : Int), (c : Int)]
def Real (x : List Int) : Prop := x.head? ≠ some (-1)
def tokH (H : List Int → List Int → List Int) (K : List (Nat × Nat)) (vs : List (List Int)) (x y : List Int) : List Int :=
 if x.head? = some (-1) then (knV K vs ((x.getD 1 0).toNat + 1, (x.getD 2 0).toNat / 2)).getD (tok ((x.getD 1 0).toNat + 1) ((x.getD 2 0).toNat / 2)) else H x y
theorem tokH_real {H : List Int → List Int → List Int} {K : List (Nat × Nat)} {vs : List (List Int)} {x : List Int} (h : Real x) (y : List Int) : tokH H K vs x y = H x y := by
 unfold tokH
 rw [if_neg h]
theorem tokH_tok {H : List Int → List Int → List Int} {K : List (Nat × Nat)} {vs : List (List Int)} (l c : Nat) (y : List Int) : tokH H K vs (tok l c) y = (knV K vs (l + 1, c / 2)).getD (tok (l + 1) (c / 2)) := by
 unfold tokH tok
 rw [if_pos (show [-1, (l : Int), (c : Int)].head? = some (-1) from rfl)]
 show (knV K vs (((l : Int)).toNat + 1, ((c : Int)).toNat / 2)).getD [-1, (((l : Int).toNat + 1 : Nat) : Int), (((c : Int).toNat / 2 : Nat) : Int)] = _
 rw [Int.toNat_natCast, Int.toNat_natCast]
def tokL (K : List (Nat × Nat)) (vs : List (List Int)) (n : Nat) : List (List Int) := (List.range n).map fun i => (knV K vs (0, i)).getD (tok 0 i)
theorem tokL_len (K : List (Nat × Nat)) (vs : List (List Int)) (n : Nat) : (tokL K vs n).length = n := by unfold tokL; simp
end Go.Proofs.YtielnphmcaecdaaDoor.Mth
namespace Go.Proofs.YtielnphmcaecdaaDoor.Hsh
open Go.Proofs.YtielnphmcaecdaaDoor.PAll Go.Proofs.YtielnphmcaecdaaDoor.Mth
theorem tok_node (H : List Int → List Int → List Int) (E : List Int) {s n : Nat} (hsn : s ≤ n) (vs : List (List Int)) {κ C : Nat} (hk : (κ, C) ∈ twoK s n) (hC : (C + 1) * 2 ^ κ ≤ n) : ∀ l c, l ≤ κ → C * 2 ^ κ ≤ c * 2 ^ l → (c + 1) * 2 ^ l ≤ (C + 1) * 2 ^ κ → nodeH (tokH H (twoK s n) vs) E (tokL (twoK s n) vs n) (l, c) = (knV (twoK s n) vs (l, c)).getD (tok l c) := by
 have hnot : ∀ l c, l < κ → C * 2 ^ κ ≤ c * 2 ^ l → (c + 1) * 2 ^ l ≤ (C + 1) * 2 ^ κ → knV (twoK s n) vs (l, c) = none := by
  intro l c hl h1 h2
  refine knV_none fun hm => ?_
  have hp := Nat.two_pow_pos l
  have e : (κ, C) = (l, c) := twoK_disj hk hm (by show C * 2 ^ κ < (c + 1) * 2 ^ l; rw [Nat.succ_mul]; omega) (by show c * 2 ^ l < (C + 1) * 2 ^ κ; rw [Nat.succ_mul] at h2; omega)
  have := congrArg Prod.fst e
  dsimp only at this
  omega
 intro l
 induction l with
 | zero =>
  intro c _ h1 h2
  rw [Nat.pow_zero, Nat.mul_one] at h1 h2
  show mth _ _ (seg _ (c * 2 ^ 0) ((c + 1) * 2 ^ 0)) = _
  rw [Nat.pow_zero, Nat.mul_one, Nat.mul_one, seg_one (by rw [tokL_len]; omega), mth_one]
  unfold tokL
  rw [List.getElem_map, List.getElem_range]
 | succ l ih =>
  intro c hl h1 h2
  have e1 : c * 2 ^ (l + 1) = 2 * c * 2 ^ l := by rw [pow_up, Nat.mul_left_comm, Nat.mul_assoc]
  have e2 : (c + 1) * 2 ^ (l + 1) = (2 * c + 1 + 1) * 2 ^ l := by rw [pow_up, Nat.mul_left_comm, ← Nat.mul_assoc]; rfl
  have hp := Nat.two_pow_pos l
  have m1 : (2 * c + 1) * 2 ^ l = 2 * c * 2 ^ l + 2 ^ l := Nat.succ_mul _ _
  have m2 : (2 * c + 1 + 1) * 2 ^ l = (2 * c + 1) * 2 ^ l + 2 ^ l := Nat.succ_mul _ _
  rw [e1] at h1
  rw [e2] at h2
  have i1 := ih (2 * c) (by omega) h1 (by omega)
  have i2 := hnot l (2 * c) (by omega) h1 (by omega)
  rw [i2, Option.getD_none] at i1
  show mth _ _ (seg _ (c * 2 ^ (l + 1)) ((c + 1) * 2 ^ (l + 1))) = _
  have hperf := mth_perfect (tokH H (twoK s n) vs) E (L := tokL (twoK s n) vs n) (i := l) (j := c) (by rw [tokL_len, e2]; omega)
  rw [hperf]
  have i1 : mth (tokH H (twoK s n) vs) E (seg (tokL (twoK s n) vs n) (2 * c * 2 ^ l) ((2 * c + 1) * 2 ^ l)) = tok l (2 * c) := i1
  rw [i1, tokH_tok, show 2 * c / 2 = c by omega]
theorem tok_known (H : List Int → List Int → List Int) (E : List Int) {s n : Nat} (hsn : s ≤ n) (vs : List (List Int)) (hl : (twoK s n).length = vs.length) {i : Nat} (hi : i < (twoK s n).length) : nodeH (tokH H (twoK s n) vs) E (tokL (twoK s n) vs n) (twoK s n)[i] = vs.getD i [] := by
 have hm := List.getElem_mem hi
 have hr : ((twoK s n)[i].2 + 1) * 2 ^ (twoK s n)[i].1 ≤ n := by
  rcases List.mem_append.mp hm with h | h
  ·exact Nat.le_trans (mNds_range _ _ _ (Nat.le_refl _) _ h).2 hsn
  ·exact (mNds_range _ _ _ (Nat.le_refl _) _ h).2
 have h := tok_node H E hsn vs (κ := (twoK s n)[i].1) (C := (twoK s n)[i].2) hm hr (twoK s n)[i].1 (twoK s n)[i].2 (Nat.le_refl _) (Nat.le_refl _) (Nat.le_refl _)
 have hk := knV_at (twoK s n) vs i (twoK_nodup s n) hl hi
 have h : nodeH (tokH H (twoK s n) vs) E (tokL (twoK s n) vs n) (twoK s n)[i] = (knV (twoK s n) vs (twoK s n)[i]).getD (tok (twoK s n)[i].1 (twoK s n)[i].2) := h
 rw [h, hk]; rfl
end Go.Proofs.YtielnphmcaecdaaDoor.Hsh
namespace Go.Proofs.YtielnphmcaecdaaDoor.Hsh
open Go.RowKit Go.Proofs.YtielnphmcaecdaaDoor.Num Go.Proofs.YtielnphmcaecdaaDoor.Mth Go.Proofs.YtielnphmcaecdaaDoor.PAll Go.Proofs.YtielnphmcaecdaaDoorW.PrintWords Go.Proofs.YtielnphmcaecdaaDoorW.PrintLast
theorem take_snoc {xs A : List (List Int)} {y : List Int} {n : Nat} (hn : n ≤ xs.length) (h : xs.take n = A ++ [y]) : xs.take (n - 1) = A ∧ xs.getD (n - 1) [] = y := by
 have hl := congrArg List.length h
 rw [List.length_take, List.length_append, List.length_singleton] at hl
 constructor
 ·have h2 : xs.take (n - 1) = (xs.take n).take (n - 1) := by rw [List.take_take]; congr 1; omega
  rw [h2, h, List.take_append_of_le_length (by omega), List.take_of_length_le (by omega)]
 ·have h3 : (xs.take n)[n - 1]? = xs[n - 1]? := by rw [List.getElem?_take]; rw [if_pos (by omega)]
  rw [List.getD_eq_getElem?_getD, ← h3, h, List.getElem?_append_right (by omega), show n - 1 - A.length = 0 by omega]; rfl
theorem drop_cons_at {ys A : List (List Int)} {y : List Int} {n : Nat} (h : ys.drop n = y :: A) : ys.drop (n + 1) = A ∧ ys.getD n [] = y := by
 constructor
 ·rw [← List.tail_drop, h]; rfl
 ·have h3 : (ys.drop n)[0]? = ys[n]? := by rw [List.getElem?_drop, Nat.add_zero]
  rw [List.getD_eq_getElem?_getD, ← h3, h]; rfl
theorem path_vals {H : List Int → List Int → List Int} {val : Nat × Nat → List Int} {b m e low D : Nat} {xs ys : List (List Int)} {x : List Int} (hv : ∀ h q, b ≤ 2 * q * 2 ^ h → (2 * q + 2) * 2 ^ h ≤ e → val (h + 1, q) = H (val (h, 2 * q)) (val (h, 2 * q + 1)))
 (hxs : xs = (Nds 0 b m).map val) (hx : x = val (low, m / 2 ^ low)) (hys : ys = (Nds 0 ((m / 2 ^ low + 1) * 2 ^ low) e).map val) (hm : m / 2 ^ low * 2 ^ low = m) (hin : ∀ j, j < D → inR b m e low (j + 1)) :
 ∀ t, t ≤ D → xs.take (xs.length - onesB m low t) = (Nds 0 b (m / 2 ^ (low + t) * 2 ^ (low + t))).map val ∧ ys.drop (t - onesB m low t) = (Nds 0 ((m / 2 ^ (low + t) + 1) * 2 ^ (low + t)) e).map val ∧ hsAt H m low xs ys x t = val (low + t, m / 2 ^ (low + t))
 | 0, _ => by
  rw [Nat.add_zero, hm, onesB, Nat.sub_zero, List.take_length, List.drop_zero]
  exact ⟨hxs, hys, hx⟩
 | t + 1, ht => by
  obtain ⟨i1, i2, i3⟩ := path_vals hv hxs hx hys hm hin t (by omega)
  obtain ⟨r1, r2⟩ := hin t (by omega)
  have hle := onesB_le m low t
  have e1 : low + (t + 1) = low + t + 1 := rfl
  rw [e1, half_up] at r1 r2 ⊢
  rw [onesB, hsAt]
  generalize low + t = h at *
  have hp := pow_up h
  generalize m / 2 ^ h = I at *
  rcases Nat.mod_two_eq_zero_or_one I with hb | hb
  ·obtain ⟨q, rfl⟩ : ∃ q, I = 2 * q := ⟨I / 2, by omega⟩
   rw [hb]
   rw [show 2 * q / 2 = q by omega, hp] at r1 r2 ⊢
   have ee : q * (2 * 2 ^ h) = 2 * q * 2 ^ h := by rw [Nat.mul_left_comm, Nat.mul_assoc]
   have e2 : (q + 1) * (2 * 2 ^ h) = (2 * q + 1 + 1) * 2 ^ h := by rw [Nat.mul_left_comm, ← Nat.mul_assoc]; rfl
   rw [ee] at r1 ⊢
   rw [e2] at r2 ⊢
   rw [mNds_first (show (2 * q + 1) % 2 = 1 by omega) r2, List.map_cons] at i2
   obtain ⟨j1, j2⟩ := drop_cons_at i2
   rw [if_neg (by omega), Nat.add_zero, show t + 1 - onesB m low t = t - onesB m low t + 1 by omega]
   exact ⟨i1, j1, by rw [i3, j2, hv h q r1 r2]⟩
  ·obtain ⟨q, rfl⟩ : ∃ q, I = 2 * q + 1 := ⟨I / 2, by omega⟩
   rw [hb]
   rw [show (2 * q + 1) / 2 = q by omega, hp] at r1 r2 ⊢
   have ee : q * (2 * 2 ^ h) = 2 * q * 2 ^ h := by rw [Nat.mul_left_comm, Nat.mul_assoc]
   have e2 : (q + 1) * (2 * 2 ^ h) = (2 * q + 1 + 1) * 2 ^ h := by rw [Nat.mul_left_comm, ← Nat.mul_assoc]; rfl
   rw [ee] at r1 ⊢
   rw [e2] at r2 ⊢
   rw [mNds_last h 0 b (2 * q) (by omega) r1, List.map_append, List.map_singleton, Nat.zero_add] at i1
   obtain ⟨j1, j2⟩ := take_snoc (Nat.sub_le _ _) i1
   rw [if_pos rfl, show xs.length - (onesB m low t + 1) = xs.length - onesB m low t - 1 by omega, show xs.length - 1 - onesB m low t = xs.length - onesB m low t - 1 by omega, show t + 1 - (onesB m low t + 1) = t - onesB m low t by omega]
   exact ⟨j1, i2, by rw [i3, j2, hv h q r1 r2]⟩
theorem MergeForm.val {H : List Int → List Int → List Int} {val : Nat × Nat → List Int} {b m e : Nat} (hbm : b ≤ m) (hme : m < e) (hm64 : m < 18446744073709551616) {xs ys zs : List (List Int)} {x : List Int} (hv : ∀ h q, b ≤ 2 * q * 2 ^ h → (2 * q + 2) * 2 ^ h ≤ e → val (h + 1, q) = H (val (h, 2 * q)) (val (h, 2 * q + 1))) (hxs : xs = (Nds 0 b m).map val) (hys : x :: ys = (Nds 0 m e).map val) (h : MergeForm H b m e xs x ys zs) : zs = (Nds 0 b e).map val := by
 rcases h with ⟨rfl, h⟩ | ⟨D, h0, hA, hD, hin, hend, rfl⟩
 ·rw [h, List.map_append, ← hxs, ← hys]
 ·obtain ⟨t1, t2, t3⟩ := tzn_lt h0 hm64
  generalize tzn m = low at *
  have hN : Nds 0 m e = (low, m / 2 ^ low) :: Nds 0 ((m / 2 ^ low + 1) * 2 ^ low) e := by
   have h := mNds_first t3 hA
   rw [t2] at h
   exact h
  rw [hN, List.map_cons] at hys
  obtain ⟨hx, hy⟩ := List.cons.inj hys
  obtain ⟨l1, l2, l3⟩ := path_vals hv hxs hx hy t2 hin D (Nat.le_refl _)
  have hb1 : b ≤ m / 2 ^ (low + D) * 2 ^ (low + D) ∧ (m / 2 ^ (low + D) + 1) * 2 ^ (low + D) ≤ e := by
   cases D with
   | zero => rw [Nat.add_zero, t2]; exact ⟨hbm, hA⟩
   | succ t => exact hin t (by omega)
  unfold inR at hend
  rw [show low + (D + 1) = low + D + 1 from rfl, half_up] at hend
  rw [Nds_split (e - b) b e (low + D) (m / 2 ^ (low + D)) (Nat.le_refl _) hb1.1 hb1.2 hend, l1, l2, l3, List.map_append, List.map_cons, List.append_assoc]; rfl
theorem getD_real {l : List (List Int)} (h : ∀ x ∈ l, Real x) (i : Nat) : Real (l.getD i []) := by
 rw [List.getD_eq_getElem?_getD]
 cases hi : l[i]? with
 | none => show Real []; unfold Real; simp
 | some y => exact h y (List.mem_of_getElem? hi)
theorem byt_nonneg (w : Int) (n : Nat) : byt w n ≠ -1 := by unfold byt; omega
theorem wrd_real (w : Int) : ∀ n, Real (wrd w n)
 | 0 => by unfold Real wrd; simp
 | n + 1 => by unfold Real wrd; simp only [List.head?_cons, ne_eq, Option.some.injEq]; exact byt_nonneg w n
theorem hash_real (a0 a2 a5 : Int) (l r : List Int) : Real (hash a0 a2 a5 l r) := by
 unfold hash
 split
 ·exact wrd_real _ _
 ·unfold Real; simp
theorem hsAt_real {H H' : List Int → List Int → List Int} (hR : ∀ l r, Real (H l r)) (hH : ∀ l r, Real l → H' l r = H l r) (m low : Nat) {xs ys : List (List Int)} {x : List Int} (hxs : ∀ y ∈ xs, Real y) (hys : ∀ y ∈ ys, Real y) (hx : Real x) : ∀ t, hsAt H' m low xs ys x t = hsAt H m low xs ys x t ∧ Real (hsAt H m low xs ys x t)
 | 0 => ⟨rfl, hx⟩
 | t + 1 => by
  obtain ⟨h1, h2⟩ := hsAt_real hR hH m low hxs hys hx t
  rw [hsAt, hsAt, h1]
  split
  ·exact ⟨hH _ _ (getD_real hxs _), hR _ _⟩
  ·exact ⟨hH _ _ h2, hR _ _⟩
theorem MergeForm.to {H H' : List Int → List Int → List Int} (hR : ∀ l r, Real (H l r)) (hH : ∀ l r, Real l → H' l r = H l r) {b m e : Nat} {xs ys zs : List (List Int)} {x : List Int} (hxs : ∀ y ∈ xs, Real y) (hys : ∀ y ∈ ys, Real y) (hx : Real x) (h : MergeForm H b m e xs x ys zs) : MergeForm H' b m e xs x ys zs ∧ ∀ z ∈ zs, Real z := by
 rcases h with ⟨rfl, h⟩ | ⟨D, h0, hA, hD, hin, hend, rfl⟩
 ·refine ⟨.inl ⟨rfl, h⟩, fun z hz => ?_⟩
  rcases List.mem_append.mp hz with hz | hz
  ·exact hxs z hz
  ·rcases List.mem_cons.mp hz with rfl | hz
   ·exact hx
   ·exact hys z hz
 ·obtain ⟨k1, k2⟩ := hsAt_real hR hH m (tzn m) hxs hys hx D
  refine ⟨.inr ⟨D, h0, hA, hD, hin, hend, by rw [k1]⟩, fun z hz => ?_⟩
  rcases List.mem_append.mp hz with hz | hz
  ·rcases List.mem_append.mp hz with hz | hz
   ·exact hxs z (List.mem_of_mem_take hz)
   ·rw [List.mem_singleton.mp hz]; exact k2
  ·exact hys z (List.mem_of_mem_drop hz)
theorem MergeForm.le {H : List Int → List Int → List Int} (hH : ∀ l r, (H l r).length ≤ 9 + l.length + r.length) {M : Nat} {b m e : Nat} {xs ys zs : List (List Int)} {x : List Int} (hxs : ∀ y ∈ xs, y.length ≤ M) (hys : ∀ y ∈ ys, y.length ≤ M) (hx : x.length ≤ M) (h : MergeForm H b m e xs x ys zs) : ∀ z ∈ zs, z.length ≤ (M + 9) * 64 := by
 rcases h with ⟨rfl, h⟩ | ⟨D, h0, hA, hD, hin, hend, rfl⟩
 ·intro z hz
  rcases List.mem_append.mp hz with hz | hz
  ·have := hxs z hz; omega
  ·rcases List.mem_cons.mp hz with rfl | hz
   ·omega
   ·have := hys z hz; omega
 ·have h1 := hsAt_le hH m (tzn m) hxs hys hx D
  have h2 := Nat.mul_le_mul_left (M + 9) (show D + 1 ≤ 64 by omega)
  exact mem_zs (fun y hy => by have := hxs y hy; omega) (fun y hy => by have := hys y hy; omega) (by omega)
theorem rseed_fold {F : List Int → List Int → Option (List Int)} {xs : List (List Int)} {M : Nat} (hM : xs.length = M + 1) : ∀ i, i ≤ M → rseed F xs M i = foldR_ F (xs.drop (M - i))
 | 0, _ => by
  rw [rseed, Nat.sub_zero, List.drop_eq_getElem_cons (by omega), List.drop_of_length_le (by omega), foldR_, List.getD_eq_getElem?_getD, List.getElem?_eq_getElem (by omega)]; rfl
 | i + 1, hi => by
  rw [rseed, rseed_fold hM i (by omega)]
  have hne : xs.drop (M - i) ≠ [] := by
   intro h
   have := congrArg List.length h
   rw [List.length_drop, List.length_nil] at this; omega
  have hd : xs.drop (M - (i + 1)) = xs.getD (M - 1 - i) [] :: xs.drop (M - i) := by
   rw [show M - (i + 1) = M - 1 - i by omega, List.drop_eq_getElem_cons (show M - 1 - i < xs.length by omega), List.getD_eq_getElem?_getD, List.getElem?_eq_getElem (show M - 1 - i < xs.length by omega), show M - 1 - i + 1 = M - i by omega]; rfl
  rw [hd, foldR_cons hne]
end Go.Proofs.YtielnphmcaecdaaDoor.Hsh
