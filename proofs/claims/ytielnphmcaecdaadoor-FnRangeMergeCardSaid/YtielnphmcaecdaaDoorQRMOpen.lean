-- Written by a program of this session (wip/tools)
import Derived.Test.YtielnphmcaecdaaDoorQRMFoldFns
import Derived.Test.YtielnphmcaecdaaDoorQRMPAllm0
import Derived.Test.YtielnphmcaecdaaDoorQRMPAllx9
import Derived.Test.YtielnphmcaecdaaDoorQRMExtVisits
import Derived.Test.YtielnphmcaecdaaDoorQRMPAllm1
import Derived.Test.YtielnphmcaecdaaDoorQRMV0
import Derived.Deep.Slices
import Derived.Lib.SmallJoins
namespace Go.Proofs.YtielnphmcaecdaaDoor.Hsh
open Go.RowKit Go.Proofs.YtielnphmcaecdaaDoor.Num Go.Proofs.YtielnphmcaecdaaDoor.Mth Go.Proofs.YtielnphmcaecdaaDoor.PAll Go.Proofs.YtielnphmcaecdaaDoorW.PrintWords Go.Proofs.YtielnphmcaecdaaDoorW.PrintLast
set_option linter.unusedVariables false
set_option linter.unusedSimpArgs false
theorem tzn_lt {m : Nat} (h0 : 0 < m) (hm : m < 18446744073709551616) : tzn m < 64 ∧ m / 2 ^ tzn m * 2 ^ tzn m = m ∧ m / 2 ^ tzn m % 2 = 1 := by
  obtain ⟨e, ho⟩ := tzn_spec h0
  refine ⟨Nat.lt_of_not_le fun h => ?_, by rw [Nat.mul_comm]; exact e.symm, ho⟩
  have h2 := Nat.pow_le_pow_right (n := 2) (by decide) h
  have h3 : (2 : Nat) ^ 64 = 18446744073709551616 := rfl
  have h5 : 0 < m / 2 ^ tzn m := by
    generalize m / 2 ^ tzn m = q at ho
    omega
  have h4 : 2 ^ tzn m ≤ m := by
    have h6 := Nat.le_mul_of_pos_right (2 ^ tzn m) h5
    rw [← e] at h6
    exact h6
  omega
theorem pred_div {m h : Nat} (h0 : 0 < m) (hm : m < 18446744073709551616) (hh : tzn m < h) : (m - 1) / 2 ^ h = m / 2 ^ h := by
  obtain ⟨_, e, ho⟩ := tzn_lt h0 hm
  have hp := Nat.two_pow_pos h
  have hd := Nat.div_add_mod m (2 ^ h)
  have hl := Nat.mod_lt m hp
  have hne : m % 2 ^ h ≠ 0 := by
    intro h1
    rw [h1, Nat.add_zero] at hd
    obtain ⟨d, rfl⟩ : ∃ d, h = tzn m + (d + 1) := ⟨h - tzn m - 1, by omega⟩
    have h2 : m / 2 ^ tzn m = 2 ^ (d + 1) * (m / 2 ^ (tzn m + (d + 1))) := by
      have h3 : m = 2 ^ tzn m * (2 ^ (d + 1) * (m / 2 ^ (tzn m + (d + 1)))) := by rw [← Nat.mul_assoc, ← Nat.pow_add]; exact hd.symm
      rw (occs := .pos [1]) [h3]
      exact Nat.mul_div_cancel_left _ (Nat.two_pow_pos _)
    rw [h2, Nat.pow_succ, Nat.mul_comm (2 ^ d) 2, Nat.mul_assoc, Nat.mul_mod_right] at ho
    cases ho
  obtain ⟨r, hr⟩ : ∃ r, m % 2 ^ h = r + 1 := ⟨m % 2 ^ h - 1, by omega⟩
  rw [hr] at hd hl
  have h5 : m - 1 = r + 2 ^ h * (m / 2 ^ h) := by omega
  rw [h5, Nat.add_mul_div_left _ _ hp, Nat.div_eq_of_lt (by omega), Nat.zero_add]
theorem wsub1 {n : Nat} (h0 : 1 ≤ n) (h : n ≤ 64) : IntKind.u64.wrap (wrap64 ((n : Int) - 1)) = ((n - 1 : Nat) : Int) := by
  have : wrap64 ((n : Int) - 1) = ((n - 1 : Nat) : Int) := by unfold wrap64; omega
  rw [this]
  exact u64in (by omega)
theorem lt_fork {h x y : Nat} : h < fork x y ↔ x / 2 ^ h ≠ y / 2 ^ h := by
  have := fork_le (i := x) (n := y) (m := h)
  constructor
  · intro h1 h2; have := this.mpr h2; omega
  · intro h1; exact Nat.lt_of_not_le fun h2 => h1 (this.mp h2)
theorem merge_path {b m e : Nat} (hbm : b ≤ m) (hme : m < e) (he : e < 18446744073709551616) (h0 : 0 < m) (k : Nat) :
    ∃ hi : Nat, compact_getMergePath.f (k + 1) (b : Int) (m : Int) (e : Int) = some (((tzn m : Nat) : Int), (hi : Int)) ∧ hi < 64 ∧ ∀ h, tzn m < h → (h ≤ hi ↔ b ≤ m / 2 ^ h * 2 ^ h ∧ (m / 2 ^ h + 1) * 2 ^ h ≤ e) := by
  obtain ⟨ht, _, _⟩ := tzn_lt h0 (by omega)
  have hR : ∀ h, tzn m < h → (h < fork (m - 1) e ↔ (m / 2 ^ h + 1) * 2 ^ h ≤ e) := fun h hh => by
    have hp := Nat.two_pow_pos h
    rw [lt_fork, pred_div h0 (by omega) hh, ← Nat.le_div_iff_mul_le hp]
    have := Nat.div_le_div_right (c := 2 ^ h) (Nat.le_of_lt hme)
    omega
  have hR1 : 1 ≤ fork (m - 1) e := lt_fork.mpr (by rw [Nat.pow_zero, Nat.div_one, Nat.div_one]; omega)
  have hR64 := fork_64 (i := m - 1) (n := e) (by omega) he
  have hx1 : Go.bits .xor .u64 (IntKind.u64.wrap ((m : Int) - 1)) (e : Int) = (((m - 1) ^^^ e : Nat) : Int) := by
    rw [show (m : Int) - 1 = (m : Int) - ((1 : Nat) : Int) from rfl, u64sub (by omega) (by omega), xor64 _ _ (by omega) he]
  have hb1 : bits_Len64.f (k + 1) (((m - 1) ^^^ e : Nat) : Int) = some ((fork (m - 1) e : Nat) : Int) := bits_Len64.eq k _ (Nat.xor_lt_two_pow (n := 64) (by omega) he)
  unfold compact_getMergePath.f
  rw [tz_eq h0 (by omega), Option.bind_some, hx1, hb1, u64in (show tzn m < 18446744073709551616 by omega)]
  by_cases hb : b = 0
  · subst hb
    refine ⟨fork (m - 1) e - 1, ?_, by omega, fun h hh => ?_⟩
    · rw [if_pos (show ((0 : Nat) : Int) = 0 from rfl), Option.bind_some]
      by_cases h64 : fork (m - 1) e < 64
      · rw [if_pos (by omega), wsub1 hR1 hR64]
      · rw [if_neg (by omega), show fork (m - 1) e = 64 by omega]; rfl
    · rw [← hR h hh]
      constructor
      · intro h1; exact ⟨Nat.zero_le _, by omega⟩
      · intro h1; omega
  · have hL : ∀ h, (h < fork m (b - 1) ↔ b ≤ m / 2 ^ h * 2 ^ h) := fun h => by
      have hp := Nat.two_pow_pos h
      rw [lt_fork]
      have h1 := Nat.div_le_div_right (c := 2 ^ h) (show b - 1 ≤ m by omega)
      have h2 := Nat.div_lt_iff_lt_mul (x := b - 1) (y := m / 2 ^ h) hp
      omega
    have hL1 : 1 ≤ fork m (b - 1) := lt_fork.mpr (by rw [Nat.pow_zero, Nat.div_one, Nat.div_one]; omega)
    have hL64 := fork_64 (i := m) (n := b - 1) (by omega) (by omega)
    have hx2 : Go.bits .xor .u64 (m : Int) (IntKind.u64.wrap ((b : Int) - 1)) = ((m ^^^ (b - 1) : Nat) : Int) := by
      rw [show (b : Int) - 1 = (b : Int) - ((1 : Nat) : Int) from rfl, u64sub (by omega) (by omega), xor64 _ _ (by omega) (by omega)]
    have hb2 : bits_Len64.f (k + 1) ((m ^^^ (b - 1) : Nat) : Int) = some ((fork m (b - 1) : Nat) : Int) := bits_Len64.eq k _ (Nat.xor_lt_two_pow (n := 64) (by omega) (by omega))
    refine ⟨min (fork m (b - 1)) (fork (m - 1) e) - 1, ?_, by omega, fun h hh => ?_⟩
    · rw [if_neg (by omega), hx2, hb2, Option.bind_some, Option.bind_some]
      by_cases h1 : fork (m - 1) e < fork m (b - 1)
      · rw [if_pos (by omega), wsub1 hR1 hR64, Nat.min_eq_right (by omega)]
      · rw [if_neg (by omega), wsub1 hL1 hL64, Nat.min_eq_left (by omega)]
    · rw [← hR h hh, ← hL h]; omega
theorem xor_zero_eq {x y : Nat} (h : x ^^^ y = 0) : x = y := by
  apply Nat.eq_of_testBit_eq
  intro i
  have := congrArg (fun z => z.testBit i) h
  simp only [Nat.testBit_xor, Nat.zero_testBit] at this
  cases hx : x.testBit i <;> cases hy : y.testBit i <;> simp_all
theorem merge_path0 {e : Nat} (he : e < 18446744073709551615) (k : Nat) : ∃ hi : Nat, compact_getMergePath.f (k + 1) 0 0 (e : Int) = some ((64 : Int), (hi : Int)) ∧ hi < 64 := by
  have e1 : bits_TrailingZeros64.f 0 = some 64 := rfl
  have e2 : IntKind.u64.wrap ((0 : Int) - 1) = ((18446744073709551615 : Nat) : Int) := by decide
  have hx : 18446744073709551615 ^^^ e < 2 ^ 64 := Nat.xor_lt_two_pow (n := 64) (by omega) (by omega)
  have hne : 18446744073709551615 ^^^ e ≠ 0 := fun h => by have := xor_zero_eq h; omega
  obtain ⟨r, hr⟩ : ∃ r, blen (18446744073709551615 ^^^ e) = r := ⟨_, rfl⟩
  have h1 : 1 ≤ r := by rw [← hr, blen_pos (by omega)]; omega
  have h64 : r ≤ 64 := by rw [← hr]; exact blen_lt64 hx
  unfold compact_getMergePath.f
  rw [e1, Option.bind_some, if_pos rfl, e2, xor64 _ _ (by omega) (by omega), bits_Len64.eq k _ (by exact hx), Option.bind_some, hr]
  by_cases h : r < 64
  · exact ⟨r - 1, by rw [if_pos (by omega), wsub1 h1 h64]; rfl, by omega⟩
  · exact ⟨63, by rw [if_neg (by omega)]; rfl, by omega⟩
def hsAt (H : List Int → List Int → List Int) (m low : Nat) (xs ys : List (List Int)) (x : List Int) : Nat → List Int
  | 0 => x
  | t + 1 => if m / 2 ^ (low + t) % 2 = 1 then H (xs.getD (xs.length - 1 - onesB m low t) []) (hsAt H m low xs ys x t) else H (hsAt H m low xs ys x t) (ys.getD (t - onesB m low t) [])
theorem getD_le {M : Nat} {l : List (List Int)} (h : ∀ y ∈ l, y.length ≤ M) (i : Nat) : (l.getD i []).length ≤ M := by
  rw [List.getD_eq_getElem?_getD]
  cases hi : l[i]? with
  | none => simp
  | some y => exact h y (List.mem_of_getElem? hi)
theorem hsAt_le {H : List Int → List Int → List Int} (hH : ∀ l r, (H l r).length ≤ 9 + l.length + r.length) {M : Nat} (m low : Nat) {xs ys : List (List Int)} {x : List Int} (hxs : ∀ y ∈ xs, y.length ≤ M) (hys : ∀ y ∈ ys, y.length ≤ M) (hx : x.length ≤ M) : ∀ t, (hsAt H m low xs ys x t).length ≤ (M + 9) * (t + 1)
  | 0 => by rw [hsAt]; omega
  | t + 1 => by
    have ih := hsAt_le hH m low hxs hys hx t
    have e1 : (M + 9) * (t + 1 + 1) = (M + 9) * (t + 1) + (M + 9) := Nat.mul_succ _ _
    rw [hsAt]
    have h1 := getD_le hxs (xs.length - 1 - onesB m low t)
    have h2 := getD_le hys (t - onesB m low t)
    split
    · have := hH (xs.getD (xs.length - 1 - onesB m low t) []) (hsAt H m low xs ys x t); omega
    · have := hH (hsAt H m low xs ys x t) (ys.getD (t - onesB m low t) []); omega
theorem hsAt_small {H : List Int → List Int → List Int} (hH : ∀ l r, (H l r).length ≤ 9 + l.length + r.length) {M : Nat} (hM : M ≤ 1000000) (m low : Nat) {xs ys : List (List Int)} {x : List Int} (hxs : ∀ y ∈ xs, y.length ≤ M) (hys : ∀ y ∈ ys, y.length ≤ M) (hx : x.length ≤ M) {t : Nat} (ht : t ≤ 64) : (hsAt H m low xs ys x t).length ≤ 100000000 := by
  have h1 := hsAt_le hH m low hxs hys hx t
  have h2 : (M + 9) * (t + 1) ≤ 1000009 * 65 := Nat.mul_le_mul (by omega) (by omega)
  omega
theorem hs_step {H : List Int → List Int → List Int} (hH : ∀ l r, (H l r).length ≤ 9 + l.length + r.length) {M : Nat} (hM : M ≤ 1000000) (m low : Nat) {xs ys : List (List Int)} {x : List Int} (hxs : ∀ y ∈ xs, y.length ≤ M) (hys : ∀ y ∈ ys, y.length ≤ M) (hx : x.length ≤ M) {F : List Int → List Int → Option (List Int)} (hF : ∀ l r, l.length ≤ 1000000000 → r.length ≤ 1000000000 → F l r = some (H l r)) {t : Nat} (ht : t < 64) : (m / 2 ^ (low + t) % 2 = 1 → F (xs.getD (xs.length - 1 - onesB m low t) []) (hsAt H m low xs ys x t) = some (hsAt H m low xs ys x (t + 1))) ∧ (m / 2 ^ (low + t) % 2 = 0 → F (hsAt H m low xs ys x t) (ys.getD (t - onesB m low t) []) = some (hsAt H m low xs ys x (t + 1))) := by
  have h0 := hsAt_small hH hM m low hxs hys hx (t := t) (by omega)
  have h1 := getD_le hxs (xs.length - 1 - onesB m low t)
  have h2 := getD_le hys (t - onesB m low t)
  refine ⟨fun h => ?_, fun h => ?_⟩
  · rw [hF _ _ (by omega) (by omega), hsAt, if_pos h]
  · rw [hF _ _ (by omega) (by omega), hsAt, if_neg (by omega)]
theorem gseed_hs {H : List Int → List Int → List Int} (hH : ∀ l r, (H l r).length ≤ 9 + l.length + r.length) {M : Nat} (hM : M ≤ 1000000) (m low : Nat) {xs ys : List (List Int)} {x : List Int} (hxs : ∀ y ∈ xs, y.length ≤ M) (hys : ∀ y ∈ ys, y.length ≤ M) (hx : x.length ≤ M) {F : List Int → List Int → Option (List Int)} (hF : ∀ l r, l.length ≤ 1000000000 → r.length ≤ 1000000000 → F l r = some (H l r)) : ∀ t, t ≤ 64 → gseed F m low xs ys x t = some (hsAt H m low xs ys x t)
  | 0, _ => rfl
  | t + 1, ht => by
    obtain ⟨s1, s2⟩ := hs_step hH hM m low hxs hys hx hF (t := t) (by omega)
    rw [gseed, gseed_hs hH hM m low hxs hys hx hF t (by omega), Option.bind_some]
    by_cases h : m / 2 ^ (low + t) % 2 = 1
    · rw [if_pos h, s1 h]
    · rw [if_neg h, s2 (by omega)]
theorem gsOf_hs {H : List Int → List Int → List Int} (hH : ∀ l r, (H l r).length ≤ 9 + l.length + r.length) {M : Nat} (hM : M ≤ 1000000) (m low : Nat) {xs ys : List (List Int)} {x : List Int} (hxs : ∀ y ∈ xs, y.length ≤ M) (hys : ∀ y ∈ ys, y.length ≤ M) (hx : x.length ≤ M) {F : List Int → List Int → Option (List Int)} (hF : ∀ l r, l.length ≤ 1000000000 → r.length ≤ 1000000000 → F l r = some (H l r)) {t : Nat} (ht : t ≤ 64) : gsOf F m low xs ys x t = hsAt H m low xs ys x t := by
  unfold gsOf
  rw [gseed_hs hH hM m low hxs hys hx hF t ht]; rfl
theorem ones_onesB (m low : Nat) : ∀ D, ones (m / 2 ^ low % 2 ^ D) = onesB m low D
  | 0 => by rw [Nat.pow_zero, Nat.mod_one, ones_zero]; rfl
  | D + 1 => by
    rw [ones_top, ones_onesB m low D, onesB, Nat.div_div_eq_div_mul, ← Nat.pow_add]; omega
theorem ones_mask {m low D : Nat} (hm : m < 18446744073709551616) (hl : low ≤ 64) (hD : D ≤ 63) : bits_OnesCount64.f (Go.bits .and .u64 ((m : Int) / 2 ^ min low 64) (IntKind.u64.wrap (IntKind.u64.wrap (2 ^ min D 64) - 1))) = some ((onesB m low D : Nat) : Int) := by
  have hp := Nat.two_pow_pos D
  have hp2 := pow_lt64 hD
  have e1 : ((2 : Int) ^ min D 64) = ((2 ^ D : Nat) : Int) := by rw [Nat.min_eq_left (by omega), Int.natCast_pow]; rfl
  have e2 : (m : Int) / 2 ^ min low 64 = ((m / 2 ^ low : Nat) : Int) := by rw [Nat.min_eq_left hl, Int.natCast_ediv, Int.natCast_pow]; rfl
  have hq := Nat.div_le_self m (2 ^ low)
  rw [e1, e2, u64in hp2, show ((2 ^ D : Nat) : Int) - 1 = ((2 ^ D : Nat) : Int) - ((1 : Nat) : Int) from rfl, u64sub (by omega) hp2]
  have e3 := u64_and_nat (m / 2 ^ low) (2 ^ D - 1) (by omega) (by omega)
  rw [Nat.and_two_pow_sub_one_eq_mod] at e3
  refine (congrArg bits_OnesCount64.f e3).trans ?_
  rw [bits_OnesCount64.eq _ (Nat.lt_of_le_of_lt (Nat.mod_le _ _) (by omega)), ones_onesB]
theorem ones_none {m low : Nat} (hm : m < 18446744073709551616) (hl : low ≤ 64) : bits_OnesCount64.f (Go.bits .and .u64 ((m : Int) / 2 ^ min low 64) 0) = some 0 := by
  have e2 : (m : Int) / 2 ^ min low 64 = ((m / 2 ^ low : Nat) : Int) := by rw [Nat.min_eq_left hl, Int.natCast_ediv, Int.natCast_pow]; rfl
  have hq := Nat.div_le_self m (2 ^ low)
  have e3 := u64_and_nat (m / 2 ^ low) 0 (by omega) (by omega)
  rw [e2]
  refine (congrArg bits_OnesCount64.f e3).trans ?_
  rw [Nat.and_zero, bits_OnesCount64.eq 0 (by omega), ones_zero]; rfl
end Go.Proofs.YtielnphmcaecdaaDoor.Hsh
namespace Go.Proofs.YtielnphmcaecdaaDoor.Hsh
open Go.RowKit Go.Proofs.YtielnphmcaecdaaDoor.Num Go.Proofs.YtielnphmcaecdaaDoor.Mth Go.Proofs.YtielnphmcaecdaaDoor.PAll Go.Proofs.YtielnphmcaecdaaDoorW.PrintWords Go.Proofs.YtielnphmcaecdaaDoorW.PrintLast
set_option linter.unusedVariables false
set_option linter.unusedSimpArgs false
theorem map_f1 : ∀ (L : List (Nat × Nat)) (xs : List (List Int)), L.length = xs.length → (List.zipWith vis L xs).map (fun v => v.f1) = xs
  | [], [], _ => rfl
  | p :: L, x :: xs, h => by
    rw [List.zipWith_cons_cons, List.map_cons, map_f1 L xs (by simpa using h)]; rfl
theorem no_merge {F : List Int → List Int → Option (List Int)} {b m e : Nat} {xs ys : List (List Int)} {x : List Int} (hme : m < e) (hl : (Nds 0 b m).length = xs.length) (hyl : (Nds 0 m e).length = ys.length + 1) (hno : ∀ L p, Nds 0 b m = L ++ [p] → ¬ (p.1 = lev m e ∧ p.2 % 2 = 0)) :
    ∃ q, mergedAll F (List.zipWith vis (Nds 0 b m) xs).reverse (List.zipWith vis (Nds 0 m e) (x :: ys)) = some (q, []) ∧ q.reverse.map (fun v => v.f1) = xs ++ [x] ++ ys := by
  obtain ⟨p, l, e1, hc, hp⟩ := chain_Nds hme
  rw [e1, List.length_cons] at hyl
  rw [e1, List.zipWith_cons_cons, mergedAll_cons, goOn_end (pushUp_no (fun a s h => ?_)) hc]
  · refine ⟨_, rfl, ?_⟩
    rw [List.reverse_append, List.reverse_reverse, List.reverse_cons, List.reverse_reverse, List.map_append, List.map_append, map_f1 _ _ hl, map_f1 _ _ (by omega)]
    rfl
  · generalize hL : Nds 0 b m = L at h hl
    rcases List.eq_nil_or_concat L with h0 | ⟨L', p', h0⟩
    · subst h0; cases xs <;> cases h
    rw [List.concat_eq_append] at h0
    subst h0
    have hy : xs.take xs.length = xs := List.take_length
    rw [List.length_append, List.length_singleton] at hl
    rw [← hl] at hy
    rw [← hy, zip_last rfl (by omega)] at h
    obtain ⟨rfl, _⟩ := List.cons.inj h
    intro hcc
    have h3 := vis_pair.mp hcc
    exact hno L' p' hL ⟨by rw [h3.1, hp], h3.2⟩
theorem even_case {b m e : Nat} (hbm : b ≤ m) (hme : m < e) (he : e < 18446744073709551616) (hB : m = 0 ∨ e < (m / 2 ^ tzn m + 1) * 2 ^ tzn m) : ∀ L p, Nds 0 b m = L ++ [p] → ¬ (p.1 = lev m e ∧ p.2 % 2 = 0) := by
  intro L p hL
  rcases Nat.eq_zero_or_pos m with h0 | h0
  · subst h0
    rw [Nds_empty (by omega)] at hL
    cases L <;> cases hL
  obtain ⟨c, c1, c2, c3, c4, _⟩ := mlev_parts hme
  obtain ⟨_, t1, t2⟩ := tzn_lt h0 (by omega)
  have hB := hB.resolve_left (by omega)
  refine left_no (h := lev m e) (I := c) (.inl ?_) (by rw [← c1]; exact hL)
  rcases Nat.mod_two_eq_zero_or_one c with h | h
  · exact h
  exfalso
  generalize lev m e = κ at *
  generalize tzn m = low at *
  rcases Nat.lt_trichotomy κ low with h1 | h1 | h1
  · obtain ⟨d, rfl⟩ : ∃ d, low = κ + (d + 1) := ⟨low - κ - 1, by omega⟩
    have h3 : c = m / 2 ^ (κ + (d + 1)) * 2 ^ d * 2 := by
      have h4 : m / 2 ^ (κ + (d + 1)) * 2 ^ (κ + (d + 1)) = (m / 2 ^ (κ + (d + 1)) * 2 ^ d * 2) * 2 ^ κ := by
        rw [Nat.pow_add, Nat.pow_succ, Nat.mul_comm (2 ^ κ), ← Nat.mul_assoc, ← Nat.mul_assoc]
      rw [h4] at t1
      exact Nat.eq_of_mul_eq_mul_right (Nat.two_pow_pos κ) (c1.symm.trans t1.symm)
    omega
  · subst h1
    rw [c2] at hB
    omega
  · obtain ⟨d, rfl⟩ : ∃ d, κ = low + (d + 1) := ⟨κ - low - 1, by omega⟩
    have h3 : m / 2 ^ low = c * 2 ^ d * 2 := by
      have h4 : c * 2 ^ (low + (d + 1)) = (c * 2 ^ d * 2) * 2 ^ low := by
        rw [Nat.pow_add, Nat.pow_succ, Nat.mul_comm (2 ^ low), ← Nat.mul_assoc, ← Nat.mul_assoc]
      rw [h4] at c1
      exact Nat.eq_of_mul_eq_mul_right (Nat.two_pow_pos low) (t1.trans c1)
    omega
theorem mem_zs {M : Nat} {xs ys : List (List Int)} {s : List Int} {i j : Nat} (hxs : ∀ y ∈ xs, y.length ≤ M) (hys : ∀ y ∈ ys, y.length ≤ M) (hs : s.length ≤ M) : ∀ z ∈ xs.take i ++ [s] ++ ys.drop j, z.length ≤ M := by
  intro z hz
  rcases List.mem_append.mp hz with hz | hz
  · rcases List.mem_append.mp hz with hz | hz
    · exact hxs z (List.mem_of_mem_take hz)
    · rw [List.mem_singleton.mp hz]; exact hs
  · exact hys z (List.mem_of_mem_drop hz)
theorem merge_eq {H : List Int → List Int → List Int} (hH : ∀ l r, (H l r).length ≤ 9 + l.length + r.length) {M : Nat} (hM : M ≤ 1000000) {F1 F2 : List Int → List Int → Option (List Int)} (hF1 : ∀ l r, l.length ≤ 1000000000 → r.length ≤ 1000000000 → F1 l r = some (H l r)) (hF2 : ∀ l r, l.length ≤ 1000000000 → r.length ≤ 1000000000 → F2 l r = some (H l r))
    {b m e : Nat} (hbm : b ≤ m) (hme : m < e) (he : e < 18446744073709551616) (h00 : m = 0 → e < 18446744073709551615) {xs ys : List (List Int)} {x : List Int} (hl : (Nds 0 b m).length = xs.length) (hyl : (Nds 0 m e).length = ys.length + 1)
    (hxs : ∀ y ∈ xs, y.length ≤ M) (hys : ∀ y ∈ ys, y.length ≤ M) (hx : x.length ≤ M) (k : Nat) :
    ∃ zs V q, mergeApp F1 (k + 1) (b : Int) m (e : Int) xs x ys = some (zs, V) ∧ mergedAll F2 (List.zipWith vis (Nds 0 b m) xs).reverse (List.zipWith vis (Nds 0 m e) (x :: ys)) = some (q, V) ∧ q.reverse.map (fun v => v.f1) = zs ∧ zs.length ≤ 257 ∧ ∀ z ∈ zs, z.length ≤ 100000000 := by
  have hxl := Nds_len 0 b m 64 (by omega)
  have hyl' := Nds_len 0 m e 64 (by omega)
  have big : ∀ {l : List (List Int)}, (∀ y ∈ l, y.length ≤ M) → ∀ y ∈ l, y.length ≤ 100000000 := fun h y hy => Nat.le_trans (h y hy) (by omega)
  have hlz : ∀ z ∈ xs ++ [x] ++ ys, z.length ≤ 100000000 := by
    have h := mem_zs (i := xs.length) (j := 0) (big hxs) (big hys) (s := x) (by omega)
    rw [List.take_length, List.drop_zero] at h
    exact h
  rcases Nat.eq_zero_or_pos m with h0 | h0
  · subst h0
    obtain ⟨hi, h1, h2⟩ := merge_path0 (h00 rfl) k
    obtain ⟨q, q1, q2⟩ := no_merge (F := F2) (x := x) (ys := ys) hme hl hyl (even_case hbm hme he (.inl rfl))
    obtain rfl : b = 0 := by omega
    refine ⟨xs ++ [x] ++ ys, [], q, ?_, q1, q2, by simp; omega, hlz⟩
    unfold mergeApp
    have h1' : compact_getMergePath.f (k + 1) ((0 : Nat) : Int) ((0 : Nat) : Int) (e : Int) = some (64, (hi : Int)) := h1
    rw [h1', Option.bind_some]
    dsimp only
    have hok : okN 0 64 xs ys = true := by
      unfold okN
      simp only [Bool.and_eq_true, decide_eq_true_eq]
      exact ⟨by omega, by omega, ones_none (m := 0) (low := 64) (by omega) (by omega), by omega, by omega⟩
    rw [if_pos (by omega), if_pos hok]
  obtain ⟨t1, t2, t3⟩ := tzn_lt h0 (by omega)
  obtain ⟨hi, p1, p2, p3⟩ := merge_path hbm hme he h0 k
  generalize hlow : tzn m = low at *
  -- no merges
  by_cases hA : (m / 2 ^ low + 1) * 2 ^ low ≤ e
  case neg =>
    obtain ⟨q, q1, q2⟩ := no_merge (F := F2) (x := x) (ys := ys) hme hl hyl (even_case hbm hme he (.inr (by rw [hlow]; omega)))
    have hle : hi ≤ low := by
      refine Nat.le_of_not_lt fun h => hA ?_
      have h5 := ((p3 (low + 1) (by omega)).mp h).2
      have e1 : m / 2 ^ (low + 1) = m / 2 ^ low / 2 := half_up m low
      rw [e1] at h5
      generalize m / 2 ^ low = c at *
      obtain ⟨j, rfl⟩ : ∃ j, c = 2 * j + 1 := ⟨c / 2, by omega⟩
      rw [show (2 * j + 1) / 2 = j by omega, pow_up, Nat.mul_left_comm, ← Nat.mul_assoc] at h5
      rw [show 2 * j + 1 + 1 = 2 * (j + 1) by omega]
      exact h5
    refine ⟨xs ++ [x] ++ ys, [], q, ?_, q1, q2, by simp; omega, hlz⟩
    unfold mergeApp
    rw [p1, Option.bind_some]
    dsimp only
    rcases Nat.lt_or_ge hi low with h1 | h1
    · have hok : okN m (low : Int) xs ys = true := by
        unfold okN
        simp only [Bool.and_eq_true, decide_eq_true_eq]
        exact ⟨by omega, by omega, by rw [Int.toNat_natCast]; exact ones_none (by omega) (by omega), by omega, by omega⟩
      rw [if_pos (by omega), if_pos hok]
    · obtain rfl : hi = low := by omega
      have hok : okY m hi 0 (gsOf F1 m hi xs ys x) xs ys = true := by
        unfold okY
        simp only [Bool.and_eq_true, decide_eq_true_eq]
        refine ⟨by omega, ones_mask (by omega) (by omega) (by omega), by omega, by omega, List.all_eq_true.mpr (fun t ht => ?_)⟩
        obtain rfl : t = 0 := by have := List.mem_range.mp ht; omega
        simp only [Bool.and_eq_true, decide_eq_true_eq]
        exact ⟨Nat.zero_le _, Nat.zero_le _, by show x.length ≤ _; omega⟩
      rw [if_neg (by omega), if_pos (by omega), Int.toNat_natCast, Int.sub_self, show (0 : Int).toNat = 0 from rfl, gseed, Option.bind_some, if_pos hok]
      simp only [onesB, Nat.sub_zero, List.take_length, List.drop_zero]
      rfl
  -- the path
  obtain ⟨D, hD⟩ : ∃ D, D = hi - low := ⟨_, rfl⟩
  have hN : Nds 0 m e = (low, m / 2 ^ low) :: Nds 0 ((m / 2 ^ low + 1) * 2 ^ low) e := by
    have h := mNds_first t3 hA
    rw [t2] at h
    exact h
  have hyl2 : ys.length ≤ 128 := by omega
  rw [hN, List.length_cons] at hyl
  have hin : ∀ j, j < D → inR b m e low (j + 1) := fun j hj => (p3 (low + (j + 1)) (by omega)).mp (by omega)
  have hend : ¬ inR b m e low (D + 1) := fun h => by
    have := (p3 (low + (D + 1)) (by omega)).mpr h
    omega
  have hgo := go_path (F := F2) (gs := hsAt H m low xs ys x) (by omega) (by omega) hl (by omega) t2 hin hend hbm hA (fun t ht => hs_step hH hM m low hxs hys hx hF2 (by omega)) D 0 (by omega)
  have hst0 : stAt b m low xs 0 = (List.zipWith vis (Nds 0 b m) xs).reverse := by
    unfold stAt
    rw [Nat.add_zero, t2, onesB, Nat.sub_zero, List.take_length]
  have hrs0 : rsAt m e low ys 0 = List.zipWith vis (Nds 0 ((m / 2 ^ low + 1) * 2 ^ low) e) ys := by
    unfold rsAt
    simp only [Nat.add_zero, Nat.zero_sub, List.drop_zero]
  rw [hst0, hrs0, Nat.add_zero] at hgo
  have hlen := len_at (D := D) hl (show (Nds 0 ((m / 2 ^ low + 1) * 2 ^ low) e).length = ys.length by omega) t2
  have hlt := fun t (ht : t ≤ D) => hlen t ht hin
  obtain ⟨l1, l2⟩ := hlt D (Nat.le_refl _)
  have hle := onesB_le m low D
  have hD64 : D ≤ 63 := by omega
  have hsm : ∀ t, t ≤ D → (hsAt H m low xs ys x t).length ≤ 100000000 := fun t ht => hsAt_small hH hM m low hxs hys hx (by omega)
  refine ⟨xs.take (xs.length - onesB m low D) ++ [hsAt H m low xs ys x D] ++ ys.drop (D - onesB m low D), visA low (fun t => ((m / 2 ^ (low + t) : Nat) : Int)) (hsAt H m low xs ys x) D, _, ?_, by rw [hN, List.zipWith_cons_cons, mergedAll_cons]; refine hgo.trans ?_; congr 2; unfold visA; refine List.map_congr_left (fun i _ => ?_); show vis (low + (0 + i + 1), m / 2 ^ (low + (0 + i + 1))) (hsAt H m low xs ys x (0 + i + 1)) = _; rw [Nat.zero_add]; rfl, ?_, ?_, mem_zs (big hxs) (big hys) (hsm D (Nat.le_refl _))⟩
  · unfold mergeApp
    rw [p1, Option.bind_some]
    dsimp only
    rcases Nat.lt_or_ge hi low with h1 | h1
    · obtain rfl : D = 0 := by omega
      have hok : okN m (low : Int) xs ys = true := by
        unfold okN
        simp only [Bool.and_eq_true, decide_eq_true_eq]
        exact ⟨by omega, by omega, by rw [Int.toNat_natCast]; exact ones_none (by omega) (by omega), by omega, by omega⟩
      rw [if_pos (by omega), if_pos hok]
      simp only [onesB, Nat.sub_zero, List.take_length, List.drop_zero]
      rfl
    · have hok : okY m low D (gsOf F1 m low xs ys x) xs ys = true := by
        unfold okY
        simp only [Bool.and_eq_true, decide_eq_true_eq]
        refine ⟨by omega, ones_mask (by omega) (by omega) hD64, by omega, by omega, List.all_eq_true.mpr (fun t ht => ?_)⟩
        have ht := List.mem_range.mp ht
        obtain ⟨a1, a2⟩ := hlt t (by omega)
        have a3 := onesB_le m low t
        have a4 := hsm t (by omega)
        simp only [Bool.and_eq_true, decide_eq_true_eq]
        rw [gsOf_hs hH hM m low hxs hys hx hF1 (by omega)]
        exact ⟨by omega, by omega, by omega⟩
      rw [if_neg (by omega), if_pos (by omega), Int.toNat_natCast, show ((hi : Int) - (low : Int)).toNat = D by omega, gseed_hs hH hM m low hxs hys hx hF1 D (by omega), Option.bind_some, if_pos hok]
      have hv : visA low (fun t => ((m / 2 ^ (low + t) : Nat) : Int)) (gsOf F1 m low xs ys x) D = visA low (fun t => ((m / 2 ^ (low + t) : Nat) : Int)) (hsAt H m low xs ys x) D := by
        unfold visA
        refine List.map_congr_left (fun t ht => ?_)
        rw [gsOf_hs hH hM m low hxs hys hx hF1 (by have := List.mem_range.mp ht; omega)]
      rw [hv]
  · rw [List.reverse_append, List.reverse_reverse, List.reverse_cons]
    unfold stAt rsAt
    rw [List.reverse_reverse, List.map_append, List.map_append, map_f1 _ _ (by rw [List.length_take]; omega), map_f1 _ _ (by rw [List.length_drop]; omega)]
    rfl
  · simp only [List.length_append, List.length_take, List.length_drop, List.length_singleton]
    omega
end Go.Proofs.YtielnphmcaecdaaDoor.Hsh
namespace Go.Proofs.YtielnphmcaecdaaDoor.Hsh
open Go.RowKit Go.Proofs.YtielnphmcaecdaaDoor.Num Go.Proofs.YtielnphmcaecdaaDoor.Mth Go.Proofs.YtielnphmcaecdaaDoor.PAll Go.Proofs.YtielnphmcaecdaaDoorW.PrintWords Go.Proofs.YtielnphmcaecdaaDoorW.PrintLast
set_option linter.unusedVariables false
set_option linter.unusedSimpArgs false
theorem named_loop (N : List (Nat × Nat)) (xs : List (List Int)) (hl : N.length = xs.length) (hn : N.length ≤ 1000) (z0 z1 : Int) : ∀ (d i k : Nat), i + d = N.length → d < k → spec_Named.l0 k ((List.zipWith vis N xs).take i) (N.map inode) (N.length : Int) (i : Int) z0 z1 xs = some (List.zipWith vis N xs) := by
  intro d
  induction d with
  | zero =>
    intro i k hi hk
    obtain ⟨k, rfl⟩ : ∃ j, k = j + 1 := ⟨k - 1, by omega⟩
    rw [spec_Named.l0, if_neg (by omega), List.take_of_length_le (by rw [List.length_zipWith]; omega)]
  | succ d ih =>
    intro i k hi hk
    obtain ⟨k, rfl⟩ : ∃ j, k = j + 1 := ⟨k - 1, by omega⟩
    have hz : (List.zipWith vis N xs).length = N.length := by rw [List.length_zipWith]; omega
    have e1 : rd_T49 (N.map inode) (i : Int) = inode (N[i]'(by omega)) := by
      show (N.map inode).getD i z49 = _
      rw [List.getD_eq_getElem?_getD, List.getElem?_map, List.getElem?_eq_getElem (by omega)]; rfl
    have e2 : rd_L1 xs (i : Int) = xs[i]'(by omega) := by
      show xs.getD i [] = _
      rw [List.getD_eq_getElem?_getD, List.getElem?_eq_getElem (by omega)]; rfl
    have e3 : (List.zipWith vis N xs).take i ++ [(⟨⟨(rd_T49 (N.map inode) (i : Int)).f0, (rd_T49 (N.map inode) (i : Int)).f1⟩, rd_L1 xs (i : Int)⟩ : S51)] = (List.zipWith vis N xs).take (i + 1) := by
      rw [List.take_add_one, List.getElem?_eq_getElem (by omega), List.getElem_zipWith, e1, e2]; rfl
    rw [spec_Named.l0, if_pos (by omega), if_pos (by omega), if_pos (by rw [List.length_map]; omega), if_pos (by omega), if_pos (by rw [List.length_take]; omega), e3, next64 (by omega)]
    exact ih (i + 1) k (by omega) (by omega)
theorem spec_Named.eq (b e : Nat) (h : b ≤ e) (he : e < 18446744073709551616) (xs : List (List Int)) (hl : (Nds 0 b e).length = xs.length) (K : Nat) (hK : 9000 ≤ K) : spec_Named.f K (b : Int) (e : Int) xs = some (List.zipWith vis (Nds 0 b e) xs) := by
  have hn := Nds_len 0 b e 64 (by omega)
  unfold spec_Named.f
  rw [spec_Nodes.eq b e h he K hK, Option.bind_some, List.length_map]
  have := named_loop (Nds 0 b e) xs hl (by omega) (b : Int) (e : Int) (Nds 0 b e).length 0 K (by omega) (by omega)
  rw [List.take_zero] at this
  exact this
theorem hashes_loop (T : List S51) (hn : T.length ≤ 1000000) : ∀ (d i k : Nat), i + d = T.length → d < k → spec_hashes.l0 k ((T.map (fun v => v.f1)).take i) T (T.length : Int) (i : Int) = some (T.map (fun v => v.f1)) := by
  intro d
  induction d with
  | zero =>
    intro i k hi hk
    obtain ⟨k, rfl⟩ : ∃ j, k = j + 1 := ⟨k - 1, by omega⟩
    rw [spec_hashes.l0, if_neg (by omega), List.take_of_length_le (by rw [List.length_map]; omega)]
  | succ d ih =>
    intro i k hi hk
    obtain ⟨k, rfl⟩ : ∃ j, k = j + 1 := ⟨k - 1, by omega⟩
    have e3 : (T.map (fun v => v.f1)).take i ++ [(rd_T51 T (i : Int)).f1] = (T.map (fun v => v.f1)).take (i + 1) := by
      rw [List.take_add_one, List.getElem?_map, List.getElem?_eq_getElem (by omega)]
      show _ ++ [(T.getD i z51).f1] = _
      rw [List.getD_eq_getElem?_getD, List.getElem?_eq_getElem (by omega)]; rfl
    rw [spec_hashes.l0, if_pos (by omega), if_pos (by omega), if_pos (by omega), if_pos (by rw [List.length_take]; omega), e3, next64 (by omega)]
    exact ih (i + 1) k (by omega) (by omega)
theorem spec_hashes.eq (T : List S51) (hn : T.length ≤ 1000000) (K : Nat) (hK : T.length < K) : spec_hashes.f K T = some (T.map (fun v => v.f1)) := by
  have := hashes_loop T hn T.length 0 K (by omega) hK
  rw [List.take_zero] at this
  exact this
theorem merged_loop (a0 a1 a2 a3 a4 a5 b m : Int) (hs : List (List Int)) (m2 e : Int) (hs2 : List (List Int)) (K0 : Nat) (hK0 : 3000000 ≤ K0) (T : List S51) (hn : T.length ≤ 1000) : ∀ (d i : Nat) (al seen q made : List S51), i + d = T.length → al.length + seen.length ≤ 1000 + i →
    mergedAll (spec_HashChildren.f K0 a0 a1 a2 a3 a4 a5) al.reverse (T.drop i) = some (q, made) →
    spec_Merged.l0 (K0 + d + 1) al seen T (T.length : Int) (i : Int) a0 a1 a2 a3 a4 a5 b m hs m2 e hs2 = some (b, e, q.reverse.map (fun v => v.f1), seen ++ made) := by
  intro d
  induction d with
  | zero =>
    intro i al seen q made hi hb h
    rw [List.drop_of_length_le (by omega), mergedAll] at h
    have h := Option.some.inj h
    simp only [Prod.mk.injEq] at h
    obtain ⟨rfl, rfl⟩ := h
    rw [spec_Merged.l0, if_neg (by omega), spec_hashes.eq al (by omega) _ (by omega), Option.bind_some, List.reverse_reverse, List.append_nil]
  | succ d ih =>
    intro i al seen q made hi hb h
    have hd : T.drop i = rd_T51 T (i : Int) :: T.drop (i + 1) := by
      rw [List.drop_eq_getElem_cons (by omega)]
      congr 1
      show _ = T.getD i z51
      rw [List.getD_eq_getElem?_getD, List.getElem?_eq_getElem (by omega)]; rfl
    rw [hd, mergedAll] at h
    obtain ⟨r, hr, h⟩ := Option.bind_eq_some_iff.mp h
    obtain ⟨q', hq, h⟩ := Option.bind_eq_some_iff.mp h
    have h := Option.some.inj h
    simp only [Prod.mk.injEq] at h
    obtain ⟨rfl, rfl⟩ := h
    have hlen := pushUp_len _ _ r hr
    rw [List.length_reverse] at hlen
    have hp : spec_pushed.f K0 a0 a1 a2 a3 a4 a5 al (rd_T51 T (i : Int)).f0.f0 (rd_T51 T (i : Int)).f0.f1 (rd_T51 T (i : Int)).f1 = some (r.1.reverse ++ [r.2.1], r.2.2) := by
      unfold spec_pushed.f
      rw [if_pos (by omega)]
      have hr' : pushUp (spec_HashChildren.f K0 a0 a1 a2 a3 a4 a5) al.reverse ⟨⟨(rd_T51 T (i : Int)).f0.f0, (rd_T51 T (i : Int)).f0.f1⟩, (rd_T51 T (i : Int)).f1⟩ = some r := hr
      rw [hr', Option.bind_some]
    have hp' := lift (fun k => spec_pushed.mono a0 a1 a2 a3 a4 a5 al (rd_T51 T (i : Int)).f0.f0 (rd_T51 T (i : Int)).f0.f1 (rd_T51 T (i : Int)).f1 k) hp (show K0 ≤ K0 + d + 1 by omega)
    rw [show K0 + (d + 1) + 1 = (K0 + d + 1) + 1 by omega, spec_Merged.l0, if_pos (by omega), if_pos (by omega), if_pos (by omega), hp', Option.bind_some]
    dsimp only
    rw [if_pos (by omega), next64 (by omega), ih (i + 1) (r.1.reverse ++ [r.2.1]) (seen ++ r.2.2) q'.1 q'.2 (by omega) (by simp only [List.length_append, List.length_reverse, List.length_singleton]; omega) (by rw [List.reverse_append, List.reverse_reverse]; exact hq), List.append_assoc]
theorem texts_small (l : List (List Int)) {M : Nat} (h1 : l.length ≤ 1000) (h2 : ∀ y ∈ l, y.length ≤ M) (h3 : M ≤ 2147483647) {k : Nat} (hk : 1000 < k) : impl_texts.f k l = some l := texts_eq l (by omega) (fun j hj => by
  rw [List.getD_eq_getElem?_getD, List.getElem?_eq_getElem hj]
  exact Nat.le_trans (h2 _ (List.getElem_mem hj)) h3) (by omega)
theorem append_merged (a0 a1 a2 a3 a4 a5 : Int) {b m e : Nat} (hbm : b ≤ m) (hme : m ≤ e) (he : e < 18446744073709551616) (h00 : m = 0 → e < 18446744073709551615) {xs ys : List (List Int)} {M : Nat} (hM : M ≤ 1000000) (hl : xs.length = (Nds 0 b m).length) (hyl : ys.length = (Nds 0 m e).length) (hxs : ∀ y ∈ xs, y.length ≤ M) (hys : ∀ y ∈ ys, y.length ≤ M) (K : Nat) (hK : 3000000000 ≤ K) :
    ∃ zs V, impl_AppendRange.f (K + 1) a0 a1 a2 a3 a4 a5 (b : Int) (m : Int) xs (m : Int) (e : Int) ys = some ((b : Int), (e : Int), zs, V, true) ∧ spec_Merged.f (K + 1) a0 a1 a2 a3 a4 a5 (b : Int) (m : Int) xs (m : Int) (e : Int) ys = some ((b : Int), (e : Int), zs, V) ∧ zs.length ≤ 257 ∧ ∀ z ∈ zs, z.length ≤ 100000000 := by
  have hx1 := Nds_len 0 b m 64 (by omega)
  have hy1 := Nds_len 0 m e 64 (by omega)
  have hcore : ∃ zs V q, rangeApp (impl_toy_HashChildren.f (K + 1) a0 a1 a2 a3 a4 a5) (K + 1) (b : Int) (m : Int) (e : Int) xs ys = some ((e : Int), zs, V) ∧ mergedAll (spec_HashChildren.f (K - ys.length) a0 a1 a2 a3 a4 a5) (List.zipWith vis (Nds 0 b m) xs).reverse (List.zipWith vis (Nds 0 m e) ys) = some (q, V) ∧ q.reverse.map (fun v => v.f1) = zs ∧ zs.length ≤ 257 ∧ ∀ z ∈ zs, z.length ≤ 100000000 := by
    cases ys with
    | nil =>
      have hem : e ≤ m := Nat.le_of_not_lt fun h => by
        have := Nds_nonempty (l := 0) h
        rw [← hyl] at this; simp at this
      obtain rfl : m = e := by omega
      refine ⟨xs, [], (List.zipWith vis (Nds 0 b m) xs).reverse, rfl, ?_, ?_, by omega, fun z hz => Nat.le_trans (hxs z hz) (by omega)⟩
      · rw [Nds_empty (Nat.le_refl _)]; rfl
      · rw [List.reverse_reverse, map_f1 _ _ hl.symm]
    | cons y l =>
      have hlt : m < e := Nat.lt_of_not_le fun h => by
        rw [Nds_empty h] at hyl; simp at hyl
      obtain ⟨zs, V, q, q1, q2, q3, q4, q5⟩ := merge_eq (hash_le a0 a2 a5) hM (impl_H a0 a1 a2 a3 a4 a5 (k := K + 1) (by omega)) (spec_H a0 a1 a2 a3 a4 a5 (k := K - (y :: l).length) (by omega)) hbm hlt he h00 hl.symm (by rw [← hyl]; rfl) hxs (fun z hz => hys z (List.mem_cons_of_mem _ hz)) (hys y (List.mem_cons_self ..)) K
      refine ⟨zs, V, q, ?_, q2, q3, q4, q5⟩
      unfold rangeApp
      dsimp only
      rw [Int.toNat_natCast, q1, Option.bind_some]
  obtain ⟨zs, V, q, c1, c2, c3, c4, c5⟩ := hcore
  refine ⟨zs, V, ?_, ?_, c4, c5⟩
  · unfold impl_AppendRange.f
    rw [if_pos ⟨⟨by omega, by omega, by omega⟩, by rw [compact_RangeSize.eq b m hbm (by omega) K, hl], by omega, by rw [compact_RangeSize.eq m e hme he K, hyl]⟩, texts_small xs (by omega) hxs (by omega) (by omega), Option.bind_some, texts_small ys (by omega) hys (by omega) (by omega), Option.bind_some, if_pos ⟨rfl, rfl⟩, if_pos rfl, c1, Option.bind_some]
    dsimp only
    rw [texts_small zs (by omega) c5 (by omega) (by omega), Option.bind_some]
  · unfold spec_Merged.f
    rw [spec_Named.eq b m hbm (by omega) xs hl.symm _ (by omega), Option.bind_some, spec_Named.eq m e hme he ys hyl.symm _ (by omega), Option.bind_some]
    have hz : (List.zipWith vis (Nds 0 m e) ys).length = ys.length := by rw [List.length_zipWith]; omega
    have h := merged_loop a0 a1 a2 a3 a4 a5 (b : Int) (m : Int) xs (m : Int) (e : Int) ys (K - ys.length) (by omega) (List.zipWith vis (Nds 0 m e) ys) (by omega) ys.length 0 (List.zipWith vis (Nds 0 b m) xs) [] q V (by omega) (by simp only [List.length_zipWith, List.length_nil]; omega) (by rw [List.drop_zero]; exact c2)
    rw [show K - ys.length + ys.length + 1 = K + 1 by omega, c3, List.nil_append] at h
    exact h
theorem append_apart (a0 a1 a2 a3 a4 a5 : Int) {b m m2 e : Nat} (hbm : b ≤ m) (hm : m < 18446744073709551616) (hme : m2 ≤ e) (he : e < 18446744073709551616) (hne : m2 ≠ m) {xs ys : List (List Int)} {M : Nat} (hM : M ≤ 1000000) (hl : xs.length = (Nds 0 b m).length) (hyl : ys.length = (Nds 0 m2 e).length) (hxs : ∀ y ∈ xs, y.length ≤ M) (hys : ∀ y ∈ ys, y.length ≤ M) (K : Nat) (hK : 3000000000 ≤ K) :
    impl_AppendRange.f (K + 1) a0 a1 a2 a3 a4 a5 (b : Int) (m : Int) xs (m2 : Int) (e : Int) ys = some (0, 0, [], [], false) := by
  have hx1 := Nds_len 0 b m 64 (by omega)
  have hy1 := Nds_len 0 m2 e 64 (by omega)
  unfold impl_AppendRange.f
  rw [if_pos ⟨⟨by omega, by omega, by omega⟩, by rw [compact_RangeSize.eq b m hbm (by omega) K, hl], by omega, by rw [compact_RangeSize.eq m2 e hme he K, hyl]⟩, texts_small xs (by omega) hxs (by omega) (by omega), Option.bind_some, texts_small ys (by omega) hys (by omega) (by omega), Option.bind_some, if_pos ⟨rfl, rfl⟩, if_neg (by omega)]
theorem fair_eq (b e : Nat) (hb : b < 18446744073709551616) (he : e < 18446744073709551616) (hs : List (List Int)) (hl : hs.length ≤ 2147483647) : ∃ z, (∀ K, 9000 + hs.length ≤ K → laws_rangeFair.f K (b : Int) (e : Int) hs = some z) ∧ (z = true → b ≤ e ∧ hs.length = (Nds 0 b e).length ∧ ∀ x ∈ hs, x.length ≤ 5000) := by
  by_cases hbe : b ≤ e
  case neg =>
    refine ⟨false, fun K hK => ?_, fun h => by cases h⟩
    unfold laws_rangeFair.f spec_ProperRange.f
    rw [if_neg (by omega), Option.bind_some, if_neg (by decide)]
  by_cases hn : hs.length = (Nds 0 b e).length
  case neg =>
    refine ⟨false, fun K hK => ?_, fun h => by cases h⟩
    unfold laws_rangeFair.f spec_ProperRange.f
    rw [if_pos (by omega), spec_Nodes.eq b e hbe he K (by omega), Option.bind_some, List.length_map, Option.bind_some, if_neg (by rw [beq_iff_eq]; omega)]
  obtain ⟨z, h1, h2⟩ := small hs hl
  refine ⟨z, fun K hK => ?_, fun h => ⟨hbe, hn, mem_bound (h2 h).2⟩⟩
  unfold laws_rangeFair.f spec_ProperRange.f
  rw [if_pos (by omega), spec_Nodes.eq b e hbe he K (by omega), Option.bind_some, List.length_map, Option.bind_some, if_pos (by rw [beq_iff_eq]; omega), lift (fun k => laws_logSmall.mono hs k) h1 (by omega), Option.bind_some]
end Go.Proofs.YtielnphmcaecdaaDoor.Hsh
namespace Go.Proofs.YtielnphmcaecdaaDoor.Pure
open Go.RowKit Go.Proofs.YtielnphmcaecdaaDoor.Num Go.Proofs.YtielnphmcaecdaaDoor.Mth Go.Proofs.YtielnphmcaecdaaDoor.Hsh Go.Proofs.YtielnphmcaecdaaDoor.PAll Go.Proofs.YtielnphmcaecdaaDoorW.PrintWords Go.Proofs.YtielnphmcaecdaaDoorW.PrintLast
set_option linter.unusedVariables false
set_option linter.unusedSimpArgs false
theorem FnRangeMerge (x0 : S24) (x1 : S34) (x2 : S34) (w0 : ((Lit.int .i64 x0.f0).wf = true) ∧ ((Lit.int .i64 x0.f1).wf = true) ∧ ((Lit.int .i64 x0.f2).wf = true) ∧ ((Lit.int .u64 x0.f3).wf = true) ∧ ((Lit.int .u64 x0.f4).wf = true) ∧ ((Lit.int .u64 x0.f5).wf = true)) (w1 : ((Lit.int .u64 x1.f0).wf = true) ∧ ((Lit.int .u64 x1.f1).wf = true) ∧ (x1.f2.length ≤ maxLen ∧ ∀ x1_f2' ∈ x1.f2, x1_f2'.length ≤ maxLen ∧ ∀ x1_f2'' ∈ x1_f2', (Lit.int .u8 x1_f2'').wf = true)) (w2 : ((Lit.int .u64 x2.f0).wf = true) ∧ ((Lit.int .u64 x2.f1).wf = true) ∧ (x2.f2.length ≤ maxLen ∧ ∀ x2_f2' ∈ x2.f2, x2_f2'.length ≤ maxLen ∧ ∀ x2_f2'' ∈ x2_f2', (Lit.int .u8 x2_f2'').wf = true)) : ∃ k, laws_FnRangeMerge.f k x0.f0 x0.f1 x0.f2 x0.f3 x0.f4 x0.f5 x1.f0 x1.f1 x1.f2 x2.f0 x2.f1 x2.f2 = some true := by
  obtain ⟨a0, b1, b2, b3, a4, a5⟩ := x0
  obtain ⟨z1, z2, xs⟩ := x1
  obtain ⟨z3, z4, ys⟩ := x2
  obtain ⟨b, rfl, hb⟩ := wf_u64 w1.1
  obtain ⟨m, rfl, hm⟩ := wf_u64 w1.2.1
  obtain ⟨m2, rfl, hm2⟩ := wf_u64 w2.1
  obtain ⟨e, rfl, he⟩ := wf_u64 w2.2.1
  show ∃ k, laws_FnRangeMerge.f k a0 b1 b2 b3 a4 a5 (b : Int) (m : Int) xs (m2 : Int) (e : Int) ys = some true
  obtain ⟨y1, k1, h1, f1⟩ := fits xs
  obtain ⟨y2, k2, h2, f2⟩ := fits ys
  obtain ⟨K, hK⟩ : ∃ K, K = k1 + k2 + xs.length + ys.length + 4000000000 := ⟨_, rfl⟩
  have g1 : laws_zzFits7.f (K + 3) (b : Int) (m : Int) xs = some y1 := by
    unfold laws_zzFits7.f
    rw [lift (fun k => laws_zzFits2.mono xs k) h1 (by omega), Option.bind_some]
    cases y1 <;> rfl
  have g2 : laws_zzFits7.f (K + 3) (m2 : Int) (e : Int) ys = some y2 := by
    unfold laws_zzFits7.f
    rw [lift (fun k => laws_zzFits2.mono ys k) h2 (by omega), Option.bind_some]
    cases y2 <;> rfl
  refine ⟨K + 3, ?_⟩
  unfold laws_FnRangeMerge.f
  rw [g1, Option.bind_some]
  cases y1 with
  | false => rw [if_neg (by decide), laws_FnRangeMerge.j0, if_pos rfl]
  | true =>
  rw [if_pos rfl, g2, Option.bind_some]
  cases y2 with
  | false => rw [show (!false) = true from rfl, laws_FnRangeMerge.j0, if_pos rfl]
  | true =>
  rw [show (!true) = false from rfl, laws_FnRangeMerge.j0, if_neg (by decide)]
  obtain ⟨t1, r1, q1⟩ := fair_eq b m hb hm xs (f1 rfl).1
  obtain ⟨t2, r2, q2⟩ := fair_eq m2 e hm2 he ys (f2 rfl).1
  rw [r1 _ (by omega), Option.bind_some]
  cases t1 with
  | false => rw [if_neg (by decide), laws_FnRangeMerge.j1, if_pos rfl]
  | true =>
  rw [if_pos rfl, r2 _ (by omega), Option.bind_some]
  cases t2 with
  | false => rw [if_neg (by decide), laws_FnRangeMerge.j1, if_pos rfl]
  | true =>
  obtain ⟨u1, u2, u3⟩ := q1 rfl
  obtain ⟨v1, v2, v3⟩ := q2 rfl
  rw [if_pos rfl]
  have hmain : (m = 0 → e < 18446744073709551615) → laws_FnRangeMerge.j1 (K + 2) false a0 b1 b2 b3 a4 a5 (b : Int) (m : Int) xs (m2 : Int) (e : Int) ys = some true := by
    intro h00
    rw [laws_FnRangeMerge.j1, if_neg (by decide)]
    by_cases hne : m2 = m
    · subst hne
      obtain ⟨zs, V, c1, c2, _, _⟩ := append_merged a0 b1 b2 b3 a4 a5 u1 v1 he h00 (M := 5000) (by omega) u2 v2 u3 v3 K (by omega)
      rw [c1, Option.bind_some]
      dsimp only
      rw [if_pos rfl, c2, Option.bind_some]
      dsimp only
      unfold spec_SameRange.f spec_Same.f spec_SameVisits.f
      rw [if_pos rfl, if_pos rfl, if_pos rfl, Option.bind_some, Option.bind_some, sameL_self, if_pos rfl, sameV_self, Option.bind_some]
    · rw [append_apart a0 b1 b2 b3 a4 a5 u1 hm v1 he hne (M := 5000) (by omega) u2 v2 u3 v3 K (by omega), Option.bind_some]
      dsimp only
      rw [if_neg (by omega)]; rfl
  by_cases h0 : m = 0
  · rw [if_pos (by omega)]
    by_cases h64 : e = 18446744073709551615
    · rw [show ((e : Int) == 18446744073709551615) = true by rw [beq_iff_eq]; omega, laws_FnRangeMerge.j1, if_pos rfl]
    · rw [show ((e : Int) == 18446744073709551615) = false by rw [beq_eq_false_iff_ne]; omega]
      exact hmain (fun _ => by omega)
  · rw [if_neg (by omega)]
    exact hmain (fun h => absurd h h0)
end Go.Proofs.YtielnphmcaecdaaDoor.Pure
namespace Go.Proofs.YtielnphmcaecdaaDoorW.PrintWords
open Go.RowKit Go.ChangeShapes Go.WideShapes
structure Opens {α : Type} (P : Program) (d : Kd α) (t : TypeId) (wf : α → Prop) : Prop where
  cells : P.cellsOf t = d.sz
  opens : ∀ {H : Type} {enc : TypeId × Value → H} {w : World} {base : Nat} {spare : Nat → Bool} {held : Bool} {n : Nat} {cs : List Value} {y : DataW H × List MemPlace},
    DataW.trod enc P w base spare held n t cs = some y → ∃ x, d.K w x cs ∧ wf x
theorem Opens.int {P : Program} {k : IntKind} {t : TypeId} (ht : P.underlying t = some (.int k)) (hc : P.cellsOf t = 1) : Opens P (Kd.int k) t (fun x => (Lit.int k x).wf = true) where
  cells := hc
  opens := fun h => by
    obtain ⟨n, rfl, _, hw⟩ := DataW.trod_int ht h
    exact ⟨n, rfl, hw⟩
theorem cells_of {w : World} {base : Nat} {a : Addr} {m : Nat} {cs : List Value} (h : w.cells? base a m = some cs) : cs.length = m ∧ ∀ i u, cs[i]? = some u → w.cell? (a.add i) = some u := by
  obtain ⟨_, h1, h2⟩ := World.cells?_some h
  exact ⟨h1, fun i u hu => (h2 i (by have := (List.getElem?_eq_some_iff.1 hu).1; omega)).trans hu⟩
theorem Opens.slice {α : Type} {P : Program} {d : Kd α} {t e : TypeId} {wf : α → Prop} (hd : Opens P d e wf) (ht : P.underlying t = some (.slice e)) (hc : P.cellsOf t = 1) :
    Opens P (Kd.slice e d) t (fun xs => xs.length ≤ maxLen ∧ ∀ x ∈ xs, wf x) where
  cells := hc
  opens := fun {H enc w base spare held n cs y} h => by
    rcases Deep.open_slice ht h with ⟨rfl, _⟩ | ⟨a, len, cap, m, n', D, Pl, rfl, _, hl, hm, hmm, _, hi⟩
    · exact ⟨[], ⟨none, 0, rfl, Nat.le_refl _, rfl, by simp, fun h => absurd h (by simp)⟩, by simp, fun x hx => by simp at hx⟩
    · have hle : len ≤ m := by rw [hmm]; split <;> omega
      have hx : ∀ i, i < len → ∃ x : α, wf x ∧ ∃ cs', d.K w x cs' ∧ w.cells? base (a.add (i * P.cellsOf e)) (P.cellsOf e) = some cs' := fun i h2 => by
        obtain ⟨cs', h3, h4⟩ := hi i (by omega)
        obtain ⟨x, h5, h6⟩ := hd.opens h4
        exact ⟨x, h6, cs', h5, h3⟩
      have hlist : ∀ j, j ≤ len → ∃ xs : List α, xs.length = j ∧ (∀ x ∈ xs, wf x) ∧ ∀ (i : Nat) p, xs[i]? = some p → ∃ cs', d.K w p cs' ∧ w.cells? base (a.add (i * P.cellsOf e)) (P.cellsOf e) = some cs' := by
        intro j
        induction j with
        | zero => exact fun _ => ⟨[], rfl, fun x hx => by simp at hx, fun i p hp => by simp at hp⟩
        | succ j ih =>
          intro hj
          obtain ⟨xs, h1, h2, h3⟩ := ih (by omega)
          obtain ⟨x, h4, cs', h5, h6⟩ := hx j (by omega)
          refine ⟨xs ++ [x], by simp [h1], fun z hz => ?_, fun i p hp => ?_⟩
          · rcases List.mem_append.1 hz with h7 | h7
            · exact h2 z h7
            · rw [List.mem_singleton.1 h7]; exact h4
          · by_cases hij : i < xs.length
            · rw [List.getElem?_append_left hij] at hp
              exact h3 i p hp
            · rw [List.getElem?_append_right (by omega)] at hp
              have : i = j := by
                have := (List.getElem?_eq_some_iff.1 hp).1
                simp at this; omega
              subst this
              rw [h1, Nat.sub_self] at hp
              simp at hp
              subst hp
              exact ⟨cs', h5, h6⟩
      obtain ⟨xs, h1, h2, h3⟩ := hlist len (Nat.le_refl _)
      subst h1
      refine ⟨xs, ⟨some a, cap, rfl, hl, rfl, by unfold maxLen at hm; omega, fun _ => ⟨a, rfl, fun j p hp => ?_⟩⟩, by omega, h2⟩
      obtain ⟨cs', h4, h5⟩ := h3 j p hp
      obtain ⟨h6, h7⟩ := cells_of h5
      refine ⟨cs', d.K_len h4, h4, fun i u hu => ?_⟩
      have := h7 i u hu
      rwa [Deep.add_add, hd.cells] at this
structure OpensFs {α : Type} (P : Program) (d : Kd α) (fs : List Field) (off : Nat) (wf : α → Prop) : Prop where
  opens : ∀ {H : Type} {enc : TypeId × Value → H} {w : World} {base : Nat} {spare : Nat → Bool} {held : Bool} {n : Nat} {cs : List Value},
    (∀ f ∈ fs, ∃ y, DataW.trod enc P w base spare held n f.type ((cs.drop f.offset).take (P.cellsOf f.type)) = some y) → ∃ x, d.K w x ((cs.drop off).take d.sz) ∧ wf x
theorem OpensFs.last {α : Type} {P : Program} {d : Kd α} {f : Field} {off : Nat} {wf : α → Prop} (h : Opens P d f.type wf) (ho : f.offset = off) : OpensFs P d [f] off wf where
  opens := fun hf => by
    obtain ⟨y, hy⟩ := hf f (by simp)
    rw [h.cells, ho] at hy
    exact h.opens hy
theorem OpensFs.cons {α β : Type} {P : Program} {d : Kd α} {d' : Kd β} {f : Field} {fs : List Field} {off : Nat} {wf : α → Prop} {wf' : β → Prop} (h : Opens P d f.type wf) (ho : f.offset = off) (h' : OpensFs P d' fs (off + d.sz) wf') :
    OpensFs P (Kd.pair d d') (f :: fs) off (fun x => wf x.1 ∧ wf' x.2) where
  opens := fun {H enc w base spare held n cs} hf => by
    obtain ⟨y, hy⟩ := hf f (by simp)
    rw [h.cells, ho] at hy
    obtain ⟨x, h1, h2⟩ := h.opens hy
    obtain ⟨x', h3, h4⟩ := h'.opens (cs := cs) fun g hg => hf g (by simp [hg])
    exact ⟨(x, x'), ⟨_, _, by rw [show (Kd.pair d d').sz = d.sz + d'.sz from rfl, List.take_add, List.drop_drop], h1, h3⟩, h2, h4⟩
theorem Opens.struct {α β : Type} {P : Program} {d : Kd α} {t : TypeId} {fs : Array Field} {wf : α → Prop} (ht : P.underlying t = some (.struct fs)) (h : OpensFs P d fs.toList 0 wf) (hc : P.cellsOf t = d.sz) (f : β → α) (g : α → β) (hfg : ∀ a, f (g a) = a) :
    Opens P (Kd.iso d f) t (fun x => wf (f x)) where
  cells := hc
  opens := fun {H enc w base spare held n cs y} hy => by
    obtain ⟨xs, m, _, _, hl, hn, hi⟩ := DataW.trod_struct ht hy
    obtain ⟨x, h1, h2⟩ := h.opens (cs := cs) (enc := enc) (n := m) fun f0 hf0 => by
      obtain ⟨i, hlt, rfl⟩ := List.mem_iff_getElem.1 hf0
      rw [Array.length_toList] at hlt
      have h3 := hi i fs[i] (Array.getElem?_eq_getElem hlt)
      have h4 : i < xs.length := by rw [hn]; exact hlt
      rw [List.getElem?_eq_getElem h4] at h3
      exact ⟨_, by simpa using h3⟩
    rw [List.drop_zero, List.take_of_length_le (by rw [hl, hc]; exact Nat.le_refl _)] at h1
    exact ⟨g x, by show d.K w (f (g x)) cs; rw [hfg]; exact h1, by rw [hfg]; exact h2⟩
section
variable {H : Type} {enc : TypeId × Value → H} {P : Program} {w : World} {base : Nat} {spare : Nat → Bool} {held : Bool} {r : Reach} {b0 : Nat} {t : TypeId} {v : Value} {dat : DataW H} {p : List MemPlace}
theorem Opens.arg_struct {α : Type} {d : Kd α} {fs : Array Field} {wf : α → Prop} (h : Opens P d t wf) (ht : P.underlying t = some (.struct fs)) (hv : Value.okWide P w r b0 t v) (hT : DataW.Trod enc P w base spare held t v dat p) :
    ∃ (x : α) (cs : List Value), v = .agg cs.toArray ∧ d.K w x cs ∧ wf x := by
  obtain ⟨cs, rfl, _⟩ := okWide_struct ht hv
  obtain ⟨fuel, hf⟩ := hT
  obtain ⟨x, h1, h2⟩ := h.opens hf
  exact ⟨x, cs.toList, by simp, h1, h2⟩
end
end Go.Proofs.YtielnphmcaecdaaDoorW.PrintWords
