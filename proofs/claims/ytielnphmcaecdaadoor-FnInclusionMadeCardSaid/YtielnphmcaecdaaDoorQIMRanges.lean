-- Written by a program of this session (wip/tools)
import Derived.Test.YtielnphmcaecdaaDoorQIMPAllx3
import Derived.Test.YtielnphmcaecdaaDoorQIMPAllx4
import Derived.Test.YtielnphmcaecdaaDoorQIMPAllx7
import Derived.Test.YtielnphmcaecdaaDoorQIMBits
import Derived.Test.YtielnphmcaecdaaDoorQIMNds
namespace Go.Proofs.YtielnphmcaecdaaDoor.PAll
open Go.RowKit Go.Proofs.YtielnphmcaecdaaDoor.Num Go.Proofs.YtielnphmcaecdaaDoor.Mth Go.Proofs.YtielnphmcaecdaaDoorW.PrintWords Go.Proofs.YtielnphmcaecdaaDoorW.PrintLast
theorem tz_pow (l : Nat) (h : l < 64) : tzTab.getD (2 ^ l * 285870213051353865 % 18446744073709551616 / 288230376151711744) 0 = (l : Int) := by
  revert l; decide +kernel
theorem bits_TrailingZeros64.eq (l M : Nat) (hM : M % 2 = 1) (hx : 2 ^ l * M < 18446744073709551616) : bits_TrailingZeros64.f ((2 ^ l * M : Nat) : Int) = some ((l : Nat) : Int) := by
  have hp := Nat.two_pow_pos l
  have hl : l < 64 := by
    rcases Nat.lt_or_ge l 64 with h | h
    · exact h
    · have h1 : 2 ^ 64 ≤ 2 ^ l := Nat.pow_le_pow_right (by decide) h
      have h2 : 2 ^ l * 1 ≤ 2 ^ l * M := Nat.mul_le_mul_left _ (by omega)
      omega
  have hlt : 2 ^ l < 18446744073709551616 := pow_lt64 (by omega)
  have hpos : 0 < 2 ^ l * M := Nat.mul_pos hp (by omega)
  have h64 : (18446744073709551616 : Nat) = 2 ^ l * 2 ^ (64 - l) := by rw [← Nat.pow_add, show l + (64 - l) = 64 by omega]
  have hML : M < 2 ^ (64 - l) := by
    rw [h64] at hx
    exact Nat.lt_of_mul_lt_mul_left hx
  have hneg : IntKind.u64.wrap (-((2 ^ l * M : Nat) : Int)) = ((18446744073709551616 - 2 ^ l * M : Nat) : Int) := by rw [u64w]; omega
  have hand : (2 ^ l * M) &&& (18446744073709551616 - 2 ^ l * M) = 2 ^ l := by
    rw [h64, ← Nat.mul_sub, and_mul_pow, and_neg_odd _ _ hM hML, Nat.mul_one]
  have hi : tzIdx ((2 ^ l * M : Nat) : Int) = ((2 ^ l * 285870213051353865 % 18446744073709551616 / 288230376151711744 : Nat) : Int) := by
    unfold tzIdx
    rw [hneg, and64 _ _ hx (by omega), hand]
    have e1 : ((2 ^ l : Nat) : Int) * 285870213051353865 = ((2 ^ l * 285870213051353865 : Nat) : Int) := by rw [Int.natCast_mul]; rfl
    rw [e1, u64n]
    exact ndiv _ 288230376151711744
  unfold bits_TrailingZeros64.f
  rw [if_neg (by omega), hi, Int.toNat_natCast, tz_pow l hl]
def masks (b e : Nat) : Nat × Nat := if b = 0 then (0, e) else (negm (fork (b - 1) e - 1) b, e % 2 ^ (fork (b - 1) e - 1))
theorem fork_pos {x e : Nat} (h : x < e) : 0 < fork x e := by
  rcases Nat.eq_zero_or_pos (fork x e) with h1 | h1
  · have := fork_eq x e
    rw [h1] at this; simp at this; omega
  · exact h1
theorem fork_below {x e : Nat} (h : x < e) : x / 2 ^ (fork x e - 1) + 1 = e / 2 ^ (fork x e - 1) := by
  have h1 := fork_pos h
  have h2 : ¬ fork x e ≤ fork x e - 1 := by omega
  rw [fork_le] at h2
  have h3 := fork_eq x e
  rw [show fork x e = fork x e - 1 + 1 by omega, Nat.pow_succ, ← Nat.div_div_eq_div_mul, ← Nat.div_div_eq_div_mul] at h3
  have h4 := Nat.div_le_div_right (c := 2 ^ (fork x e - 1)) (Nat.le_of_lt h)
  omega
theorem compact_Decompose.eq (b e : Nat) (h : b ≤ e) (he : e < 18446744073709551616) (k : Nat) : compact_Decompose.f (k + 1) (b : Int) (e : Int) = some (((masks b e).1 : Int), ((masks b e).2 : Int)) := by
  unfold compact_Decompose.f masks
  by_cases h0 : b = 0
  · rw [if_pos (by omega), if_pos h0]; rfl
  · have hx : (b - 1) ^^^ e < 18446744073709551616 := Nat.xor_lt_two_pow (n := 64) (by omega) (by omega)
    have hf := blen_lt64 hx
    have hp := fork_pos (x := b - 1) (e := e) (by omega)
    have hbel := fork_below (x := b - 1) (e := e) (by omega)
    have e1 : IntKind.u64.wrap ((b : Int) - 1) = ((b - 1 : Nat) : Int) := u64sub (a := b) (b := 1) (by omega) (by omega)
    rw [if_neg (by omega), if_neg h0, e1, xor64 _ _ (by omega) he, bits_Len64.eq _ _ hx]
    clear e1
    rw [show blen ((b - 1) ^^^ e) = fork (b - 1) e from rfl] at hf ⊢
    rw [Option.bind_some]
    generalize hd : fork (b - 1) e = D at *
    obtain ⟨d, rfl⟩ : ∃ d, D = d + 1 := ⟨D - 1, by omega⟩
    rw [Nat.add_sub_cancel] at *
    have hd2 := pow_lt64 (k := d) (by omega)
    have hdp := Nat.two_pow_pos d
    have hmd : (b - 1) % 2 ^ d < 2 ^ d := Nat.mod_lt _ hdp
    have hme : e % 2 ^ d < 2 ^ d := Nat.mod_lt _ hdp
    have hmask : (18446744073709551615 ^^^ (b - 1)) &&& (2 ^ d - 1) = negm d b := by
      rw [Nat.and_two_pow_sub_one_eq_mod, Nat.xor_mod_two_pow]
      have h1 : 18446744073709551615 % 2 ^ d = 2 ^ d - 1 := by
        have : (18446744073709551615 : Nat) = 2 ^ 64 - 1 := rfl
        rw [this]
        have h2 : 2 ^ 64 = 2 ^ d * 2 ^ (64 - d) := by rw [← Nat.pow_add, show d + (64 - d) = 64 by omega]
        have h3 := Nat.two_pow_pos (64 - d)
        obtain ⟨c, hc⟩ : ∃ c, 2 ^ (64 - d) = c + 1 := ⟨2 ^ (64 - d) - 1, by omega⟩
        rw [h2, hc, Nat.mul_add, Nat.mul_one, Nat.add_sub_assoc (by omega), Nat.mul_add_mod, Nat.mod_eq_of_lt (by omega)]
      rw [h1]
      have h4 : (2 ^ d - 1) ^^^ ((b - 1) % 2 ^ d) = 2 ^ d - ((b - 1) % 2 ^ d + 1) := by
        apply Nat.eq_of_testBit_eq
        intro i
        rw [Nat.testBit_xor, Nat.testBit_two_pow_sub_one, Nat.testBit_two_pow_sub_succ hmd, Nat.testBit_mod_two_pow]
        by_cases h5 : i < d <;> simp [h5]
      rw [h4]
      unfold negm
      have h6 : b % 2 ^ d = ((b - 1) % 2 ^ d + 1) % 2 ^ d := by
        have := Nat.add_mod (b - 1) 1 (2 ^ d)
        rw [show b - 1 + 1 = b by omega] at this
        rw [this, Nat.add_mod ((b - 1) % 2 ^ d) 1, Nat.mod_mod]
      rw [h6]
      by_cases h7 : (b - 1) % 2 ^ d + 1 = 2 ^ d
      · rw [h7, Nat.mod_self, Nat.sub_self, Nat.sub_zero, Nat.mod_self]
      · clear h6 h4 hbel
        generalize (b - 1) % 2 ^ d = r at *
        rw [Nat.mod_eq_of_lt (show r + 1 < 2 ^ d by omega), Nat.mod_eq_of_lt (show 2 ^ d - (r + 1) < 2 ^ d by omega)]
    have w1 : wrap64 (((d + 1 : Nat) : Int) - 1) = (d : Int) := by
      rw [show ((d + 1 : Nat) : Int) - 1 = (d : Int) by omega]; exact w64 (by omega)
    have w3 : IntKind.u64.wrap (((2 ^ d : Nat) : Int) - 1) = ((2 ^ d - 1 : Nat) : Int) := u64sub (a := 2 ^ d) (b := 1) hdp hd2
    have w4 : Go.bits .xor .u64 18446744073709551615 ((b - 1 : Nat) : Int) = ((18446744073709551615 ^^^ (b - 1) : Nat) : Int) := xor64 18446744073709551615 (b - 1) (by decide) (by omega)
    have hb1 : 18446744073709551615 ^^^ (b - 1) < 18446744073709551616 := Nat.xor_lt_two_pow (n := 64) (by decide) (by omega)
    have hm1 : 2 ^ d - 1 < 18446744073709551616 := by omega
    have hdd : d < 18446744073709551616 := by omega
    have hs := shl_one (k := d) (by omega)
    rw [w1, u64in hdd, if_pos (Int.natCast_nonneg d), hs, w3, w4, and64 _ _ hb1 hm1, and64 _ _ he hm1, hmask, Nat.and_two_pow_sub_one_eq_mod]
def cnode (p : Nat × Nat) : S99 := ⟨(p.1 : Int), (p.2 : Int)⟩
def inode (p : Nat × Nat) : S49 := ⟨(p.1 : Int), (p.2 : Int)⟩
theorem shr_mul (l B : Nat) (hl : l ≤ 64) : shr .u64 ((2 ^ l * B : Nat) : Int) (l : Int) = (B : Int) := by
  rw [shr64, Nat.min_eq_left hl, Nat.mul_div_cancel_left _ (Nat.two_pow_pos l)]
theorem left_loop (n : Nat) : ∀ (l B : Nat) (out : List S99) (R : Int) (k : Nat), l + n ≤ 63 → 2 ^ (l + n) * ((B + (2 ^ n - 1)) / 2 ^ n) < 18446744073709551616 → out.length + n < 8796093022208 →
    compact_RangeNodes.l0 (k + (Lft l n B).length + 1) out ((2 ^ l * negm n B : Nat) : Int) R ((2 ^ l * B : Nat) : Int) = compact_RangeNodes.l1 k (out ++ (Lft l n B).map cnode) R ((2 ^ (l + n) * ((B + (2 ^ n - 1)) / 2 ^ n) : Nat) : Int) := by
  induction n with
  | zero =>
    intro l B out R k _ _ _
    rw [negm_zero, compact_RangeNodes.l0, if_pos (by simp)]
    simp [Lft]
  | succ n ih =>
    intro l B out R k hl hb ho
    have hup : (B + (2 ^ (n + 1) - 1)) / 2 ^ (n + 1) = ((B + 1) / 2 + (2 ^ n - 1)) / 2 ^ n := by
      have hp := Nat.two_pow_pos n
      rw [pow_up, ← Nat.div_div_eq_div_mul]
      congr 1; omega
    rw [hup] at hb ⊢
    have e1 : l + (n + 1) = l + 1 + n := by omega
    rw [e1] at hb ⊢
    have ihh := ih (l + 1) ((B + 1) / 2)
    have hp1 : 2 ^ (l + 1) = 2 ^ l * 2 := Nat.pow_succ 2 l
    by_cases h : B % 2 = 1
    · have h1 := negm_odd n B h
      have hL : Lft l (n + 1) B = (l, B) :: Lft (l + 1) n ((B + 1) / 2) := by rw [Lft, if_pos h]; rfl
      have hlarge : 2 ^ (l + 1) * ((B + 1) / 2) ≤ 2 ^ (l + 1 + n) * (((B + 1) / 2 + (2 ^ n - 1)) / 2 ^ n) := by
        have hp := Nat.two_pow_pos n
        rw [Nat.pow_add 2 (l + 1) n, Nat.mul_assoc]
        apply Nat.mul_le_mul_left
        have := Nat.div_add_mod ((B + 1) / 2 + (2 ^ n - 1)) (2 ^ n)
        have := Nat.mod_lt ((B + 1) / 2 + (2 ^ n - 1)) hp
        omega
      have hB : 2 ^ l * B + 2 ^ l = 2 ^ (l + 1) * ((B + 1) / 2) := by
        rw [hp1, Nat.mul_assoc, show 2 * ((B + 1) / 2) = B + 1 by omega, Nat.mul_add, Nat.mul_one]
      have hM : 2 ^ l * negm (n + 1) B < 18446744073709551616 := by
        have h2 : negm (n + 1) B < 2 ^ (n + 1) := Nat.mod_lt _ (Nat.two_pow_pos _)
        have h3 : 2 ^ l * negm (n + 1) B < 2 ^ l * 2 ^ (n + 1) := Nat.mul_lt_mul_of_pos_left h2 (Nat.two_pow_pos l)
        rw [← Nat.pow_add] at h3
        exact Nat.lt_trans h3 (pow_lt64 (by omega))
      have hl64 := pow_lt64 (k := l) (by omega)
      have hx : (2 ^ l * negm (n + 1) B) ^^^ 2 ^ l = 2 ^ (l + 1) * negm n ((B + 1) / 2) := by
        have := xor_mul_pow l (negm (n + 1) B) 1
        rw [Nat.mul_one] at this
        rw [this, xor_one_odd (by omega), h1, Nat.add_sub_cancel, hp1, Nat.mul_assoc]
      have hpos : 0 < 2 ^ l * negm (n + 1) B := Nat.mul_pos (Nat.two_pow_pos l) (by omega)
      have htz := bits_TrailingZeros64.eq l (negm (n + 1) B) (by omega) hM
      have hll : l < 18446744073709551616 := by omega
      have hadd := u64add (a := 2 ^ l * B) (b := 2 ^ l) (by omega)
      have hxx := xor64 _ _ hM hl64
      have hs1 := shl_one (k := l) (by omega)
      have hsr := shr_mul l B (by omega)
      have hne : ¬ ((2 ^ l * negm (n + 1) B : Nat) : Int) = 0 := by omega
      have hlen : out.length < 8796093022208 := by omega
      have hi := ihh (out ++ [cnode (l, B)]) R k (by omega) hb (by simp; omega)
      rw [hL, List.length_cons, show k + ((Lft (l + 1) n ((B + 1) / 2)).length + 1) + 1 = (k + (Lft (l + 1) n ((B + 1) / 2)).length + 1) + 1 by omega]
      rw [compact_RangeNodes.l0, if_neg hne, htz, Option.bind_some, u64in hll, if_pos (Int.natCast_nonneg l), hsr, hs1, hxx, hx, hadd, hB]
      show (if out.length < 8796093022208 then compact_RangeNodes.l0 _ (out ++ [cnode (l, B)]) _ R _ else none) = _
      rw [if_pos hlen, hi, List.map_cons, List.append_assoc]; rfl
    · have h1 := negm_even n B (by omega)
      have hL : Lft l (n + 1) B = Lft (l + 1) n ((B + 1) / 2) := by rw [Lft, if_neg h]; rfl
      have e2 : 2 ^ l * negm (n + 1) B = 2 ^ (l + 1) * negm n ((B + 1) / 2) := by rw [h1, hp1, Nat.mul_assoc, show (B + 1) / 2 = B / 2 by omega]
      have e3 : 2 ^ l * B = 2 ^ (l + 1) * ((B + 1) / 2) := by rw [hp1, Nat.mul_assoc, show 2 * ((B + 1) / 2) = B by omega]
      rw [hL, e2, e3]
      exact ihh out R k (by omega) hb (by omega)
theorem right_loop (n e : Nat) (he : e < 18446744073709551616) : ∀ (out : List S99) (k : Nat), n ≤ 64 → out.length + n < 8796093022208 →
    compact_RangeNodes.l1 (k + (RgtT n e).length + 2) out ((e % 2 ^ n : Nat) : Int) ((e / 2 ^ n * 2 ^ n : Nat) : Int) = some (out ++ (RgtT n e).map cnode) := by
  induction n with
  | zero =>
    intro out k _ _
    rw [compact_RangeNodes.l1, if_pos (by simp [Nat.mod_one])]
    simp [RgtT]
  | succ n ih =>
    intro out k hn ho
    have hp := Nat.two_pow_pos n
    have hq : e / 2 ^ (n + 1) = e / 2 ^ n / 2 := by rw [Nat.pow_succ, Nat.div_div_eq_div_mul]
    have hm : e % 2 ^ (n + 1) = e % 2 ^ n + 2 ^ n * (e / 2 ^ n % 2) := by rw [Nat.pow_succ, Nat.mod_mul]
    have hle : e / 2 ^ n * 2 ^ n ≤ e := Nat.div_mul_le_self e (2 ^ n)
    have hodd : e / 2 ^ n % 2 = 1 → e / 2 ^ n / 2 * 2 = e / 2 ^ n - 1 ∧ e / 2 ^ n - 1 + 1 = e / 2 ^ n := by
      generalize e / 2 ^ n = q; omega
    have heven : e / 2 ^ n % 2 = 0 → e / 2 ^ n / 2 * 2 = e / 2 ^ n := by
      generalize e / 2 ^ n = q; omega
    by_cases h : e / 2 ^ n % 2 = 1
    · have hL : RgtT (n + 1) e = (n, e / 2 ^ n - 1) :: RgtT n e := by rw [RgtT, if_pos h]; rfl
      have hr : e % 2 ^ n < 2 ^ n := Nat.mod_lt _ hp
      have hm1 : e % 2 ^ (n + 1) = 2 ^ n + e % 2 ^ n := by rw [hm, h]; omega
      have hpos : e / 2 ^ (n + 1) * 2 ^ (n + 1) = 2 ^ n * (e / 2 ^ n - 1) := by
        rw [hq, Nat.pow_succ, ← Nat.mul_assoc, Nat.mul_right_comm, (hodd h).1, Nat.mul_comm]
      have hsum : 2 ^ n * (e / 2 ^ n - 1) + 2 ^ n = e / 2 ^ n * 2 ^ n := by
        rw [← Nat.mul_succ, Nat.succ_eq_add_one, (hodd h).2, Nat.mul_comm]
      have hn64 := pow_lt64 (k := n) (by omega)
      have hbl : blen (2 ^ n + e % 2 ^ n) = n + 1 := blen_unique (by omega) (by rw [Nat.pow_succ]; omega)
      have hrl : 2 ^ n + e % 2 ^ n < 18446744073709551616 := by
        have := Nat.mod_le e (2 ^ (n + 1)); omega
      have hlen64 := bits_Len64.eq (k + (RgtT n e).length + 1) _ hrl
      rw [hbl] at hlen64
      have hw1 : IntKind.u64.wrap (IntKind.u64.wrap ((n + 1 : Nat) : Int) - 1) = (n : Int) := by
        rw [u64in (by omega)]
        exact u64sub (a := n + 1) (b := 1) (by omega) (by omega)
      have hadd := u64add (a := 2 ^ n * (e / 2 ^ n - 1)) (b := 2 ^ n) (by omega)
      have hxx := xor64 _ _ hrl hn64
      rw [xor_top hr] at hxx
      have hs1 := shl_one (k := n) (by omega)
      have hsr := shr_mul n (e / 2 ^ n - 1) (by omega)
      have hne : ¬ ((2 ^ n + e % 2 ^ n : Nat) : Int) = 0 := by omega
      have hlen : out.length < 8796093022208 := by omega
      have hi := ih (out ++ [cnode (n, e / 2 ^ n - 1)]) k (by omega) (by simp; omega)
      rw [hL, List.length_cons, show k + ((RgtT n e).length + 1) + 2 = (k + (RgtT n e).length + 2) + 1 by omega, hm1, hpos]
      rw [compact_RangeNodes.l1, if_neg hne, hlen64, Option.bind_some, hw1, if_pos (Int.natCast_nonneg n), hsr, hs1, hxx, hadd, hsum]
      show (if out.length < 8796093022208 then compact_RangeNodes.l1 _ (out ++ [cnode (n, e / 2 ^ n - 1)]) _ _ else none) = _
      rw [if_pos hlen, hi, List.map_cons, List.append_assoc]; rfl
    · have h0 : e / 2 ^ n % 2 = 0 := by omega
      have hL : RgtT (n + 1) e = RgtT n e := by rw [RgtT, if_neg h]; rfl
      have hm1 : e % 2 ^ (n + 1) = e % 2 ^ n := by rw [hm, h0]; simp
      have hpos : e / 2 ^ (n + 1) * 2 ^ (n + 1) = e / 2 ^ n * 2 ^ n := by
        rw [hq, Nat.pow_succ, ← Nat.mul_assoc, Nat.mul_right_comm, heven h0]
      rw [hL, hm1, hpos]
      exact ih out k (by omega) (by omega)
end Go.Proofs.YtielnphmcaecdaaDoor.PAll
