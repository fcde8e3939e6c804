-- Written by a program of this session (wip/tools)
import Derived.Test.YtielnphmcaecdaaDoorQTTExtTz
import Derived.Test.YtielnphmcaecdaaDoorQTTPAllx4
import Derived.Test.YtielnphmcaecdaaDoorQTTNds
import Derived.Test.YtielnphmcaecdaaDoorQTTPAllx6
import Derived.Test.YtielnphmcaecdaaDoorQTTCap
set_option maxHeartbeats 8000000
set_option maxRecDepth 100000
set_option linter.unusedVariables false
set_option linter.unusedSimpArgs false
namespace Go.Proofs.YtielnphmcaecdaaDoor.PAll
open Go.RowKit Go.Proofs.YtielnphmcaecdaaDoor.Num Go.Proofs.YtielnphmcaecdaaDoor.Mth Go.Proofs.YtielnphmcaecdaaDoorW.PrintWords Go.Proofs.YtielnphmcaecdaaDoorW.PrintLast
theorem tz_pow (l : Nat) (h : l < 64) : tzTab.getD (2 ^ l * 285870213051353865 % 18446744073709551616 / 288230376151711744) 0 = (l : Int) := by
 revert l; decide +kernel
theorem bits_TrailingZeros64.eq (l M : Nat) (hM : M % 2 = 1) (hx : 2 ^ l * M < 18446744073709551616) : bits_TrailingZeros64.f ((2 ^ l * M : Nat) : Int) = some ((l : Nat) : Int) := by
 have hp := Nat.two_pow_pos l
 have hl : l < 64 := by
  rcases Nat.lt_or_ge l 64 with h | h
  ·exact h
  ·have h1 : 2 ^ 64 ≤ 2 ^ l := Nat.pow_le_pow_right (by decide) h
   have h2 : 2 ^ l * 1 ≤ 2 ^ l * M := Nat.mul_le_mul_left _ (by omega)
   omega
 have hlt : 2 ^ l < 18446744073709551616 := pow_lt64 (by omega)
 have hpos : 0 < 2 ^ l * M := Nat.mul_pos hp (by omega)
 have h64 : (18446744073709551616 : Nat) = 2 ^ l * 2 ^ (64 - l) := by rw [← Nat.pow_add, show l + (64 - l) = 64 by omega]
 have hML : M < 2 ^ (64 - l) := by
  rw [h64] at hx
  exact Nat.lt_of_mul_lt_mul_left hx
 have hneg : IntKind.u64.wrap (-((2 ^ l * M : Nat) : Int)) = ((18446744073709551616 - 2 ^ l * M : Nat) : Int) := by rw [u64w]; omega
 have hand : (2 ^ l * M) &&& (18446744073709551616 - 2 ^ l * M) = 2 ^ l := by
  rw [h64, ← Nat.mul_sub, and_mul_pow, and_neg_odd _ _ hM hML, Nat.mul_one]
 have hi : tzIdx ((2 ^ l * M : Nat) : Int) = ((2 ^ l * 285870213051353865 % 18446744073709551616 / 288230376151711744 : Nat) : Int) := by
  unfold tzIdx
  rw [hneg, and64 _ _ hx (by omega), hand]
  have e1 : ((2 ^ l : Nat) : Int) * 285870213051353865 = ((2 ^ l * 285870213051353865 : Nat) : Int) := by rw [Int.natCast_mul]; rfl
  rw [e1, u64n]
  exact ndiv _ 288230376151711744
 unfold bits_TrailingZeros64.f
 rw [if_neg (by omega), hi, Int.toNat_natCast, tz_pow l hl]
def masks (b e : Nat) : Nat × Nat := if b = 0 then (0, e) else (negm (fork (b - 1) e - 1) b, e % 2 ^ (fork (b - 1) e - 1))
theorem fork_pos {x e : Nat} (h : x < e) : 0 < fork x e := by
 rcases Nat.eq_zero_or_pos (fork x e) with h1 | h1
 ·have := fork_eq x e
  rw [h1] at this; simp at this; omega
 ·exact h1
theorem fork_below {x e : Nat} (h : x < e) : x / 2 ^ (fork x e - 1) + 1 = e / 2 ^ (fork x e - 1) := by
 have h1 := fork_pos h
 have h2 : ¬ fork x e ≤ fork x e - 1 := by omega
 rw [fork_le] at h2
 have h3 := fork_eq x e
 rw [show fork x e = fork x e - 1 + 1 by omega, Nat.pow_succ, ← Nat.div_div_eq_div_mul, ← Nat.div_div_eq_div_mul] at h3
 have h4 := Nat.div_le_div_right (c := 2 ^ (fork x e - 1)) (Nat.le_of_lt h)
 omega
theorem compact_Decompose.eq (b e : Nat) (h : b ≤ e) (he : e < 18446744073709551616) (k : Nat) : compact_Decompose.f (k + 1) (b : Int) (e : Int) = some (((masks b e).1 : Int), ((masks b e).2 : Int)) := by
 unfold compact_Decompose.f masks
 by_cases h0 : b = 0
 ·rw [if_pos (by omega), if_pos h0]; rfl
 ·have hx : (b - 1) ^^^ e < 18446744073709551616 := Nat.xor_lt_two_pow (n := 64) (by omega) (by omega)
  have hf := blen_lt64 hx
  have hp := fork_pos (x := b - 1) (e := e) (by omega)
  have hbel := fork_below (x := b - 1) (e := e) (by omega)
  have e1 : IntKind.u64.wrap ((b : Int) - 1) = ((b - 1 : Nat) : Int) := u64sub (a := b) (b := 1) (by omega) (by omega)
  rw [if_neg (by omega), if_neg h0, e1, xor64 _ _ (by omega) he, bits_Len64.eq _ _ hx]
  clear e1
  rw [show blen ((b - 1) ^^^ e) = fork (b - 1) e from rfl] at hf ⊢
  rw [Option.bind_some]
  generalize hd : fork (b - 1) e = D at *
  obtain ⟨d, rfl⟩ : ∃ d, D = d + 1 := ⟨D - 1, by omega⟩
  rw [Nat.add_sub_cancel] at *
  have hd2 := pow_lt64 (k := d) (by omega)
  have hdp := Nat.two_pow_pos d
  have hmd : (b - 1) % 2 ^ d < 2 ^ d := Nat.mod_lt _ hdp
  have hme : e % 2 ^ d < 2 ^ d := Nat.mod_lt _ hdp
  have hmask : (18446744073709551615 ^^^ (b - 1)) &&& (2 ^ d - 1) = negm d b := by
   rw [Nat.and_two_pow_sub_one_eq_mod, Nat.xor_mod_two_pow]
   have h1 : 18446744073709551615 % 2 ^ d = 2 ^ d - 1 := by
    have : (18446744073709551615 : Nat) = 2 ^ 64 - 1 := rfl
    rw [this]
    have h2 : 2 ^ 64 = 2 ^ d * 2 ^ (64 - d) := by rw [← Nat.pow_add, show d + (64 - d) = 64 by omega]
    have h3 := Nat.two_pow_pos (64 - d)
    obtain ⟨c, hc⟩ : ∃ c, 2 ^ (64 - d) = c + 1 := ⟨2 ^ (64 - d) - 1, by omega⟩
    rw [h2, hc, Nat.mul_add, Nat.mul_one, Nat.add_sub_assoc (by omega), Nat.mul_add_mod, Nat.mod_eq_of_lt (by omega)]
   rw [h1]
   have h4 : (2 ^ d - 1) ^^^ ((b - 1) % 2 ^ d) = 2 ^ d - ((b - 1) % 2 ^ d + 1) := by
    apply Nat.eq_of_testBit_eq
    intro i
    rw [Nat.testBit_xor, Nat.testBit_two_pow_sub_one, Nat.testBit_two_pow_sub_succ hmd, Nat.testBit_mod_two_pow]
    by_cases h5 : i < d <;> simp [h5]
   rw [h4]
   unfold negm
   have h6 : b % 2 ^ d = ((b - 1) % 2 ^ d + 1) % 2 ^ d := by
    have := Nat.add_mod (b - 1) 1 (2 ^ d)
    rw [show b - 1 + 1 = b by omega] at this
    rw [this, Nat.add_mod ((b - 1) % 2 ^ d) 1, Nat.mod_mod]
   rw [h6]
   by_cases h7 : (b - 1) % 2 ^ d + 1 = 2 ^ d
   ·rw [h7, Nat.mod_self, Nat.sub_self, Nat.sub_zero, Nat.mod_self]
   ·clear h6 h4 hbel
    generalize (b - 1) % 2 ^ d = r at *
    rw [Nat.mod_eq_of_lt (show r + 1 < 2 ^ d by omega), Nat.mod_eq_of_lt (show 2 ^ d - (r + 1) < 2 ^ d by omega)]
  have w1 : wrap64 (((d + 1 : Nat) : Int) - 1) = (d : Int) := by
   rw [show ((d + 1 : Nat) : Int) - 1 = (d : Int) by omega]; exact w64 (by omega)
  have w3 : IntKind.u64.wrap (((2 ^ d : Nat) : Int) - 1) = ((2 ^ d - 1 : Nat) : Int) := u64sub (a := 2 ^ d) (b := 1) hdp hd2
  have w4 : Go.bits .xor .u64 18446744073709551615 ((b - 1 : Nat) : Int) = ((18446744073709551615 ^^^ (b - 1) : Nat) : Int) := xor64 18446744073709551615 (b - 1) (by decide) (by omega)
  have hb1 : 18446744073709551615 ^^^ (b - 1) < 18446744073709551616 := Nat.xor_lt_two_pow (n := 64) (by decide) (by omega)
  have hm1 : 2 ^ d - 1 < 18446744073709551616 := by omega
  have hdd : d < 18446744073709551616 := by omega
  have hs := shl_one (k := d) (by omega)
  rw [w1, u64in hdd, if_pos (Int.natCast_nonneg d), hs, w3, w4, and64 _ _ hb1 hm1, and64 _ _ he hm1, hmask, Nat.and_two_pow_sub_one_eq_mod]
def cnode (p : Nat × Nat) : S99 := ⟨(p.1 : Int), (p.2 : Int)⟩
def inode (p : Nat × Nat) : S49 := ⟨(p.1 : Int), (p.2 : Int)⟩
theorem shr_mul (l B : Nat) (hl : l ≤ 64) : shr .u64 ((2 ^ l * B : Nat) : Int) (l : Int) = (B : Int) := by
 rw [shr64, Nat.min_eq_left hl, Nat.mul_div_cancel_left _ (Nat.two_pow_pos l)]
theorem left_loop (n : Nat) : ∀ (l B : Nat) (out : List S99) (R : Int) (k : Nat), l + n ≤ 63 → 2 ^ (l + n) * ((B + (2 ^ n - 1)) / 2 ^ n) < 18446744073709551616 → out.length + n < 8796093022208 →
 compact_RangeNodes.l0 (k + (Lft l n B).length + 1) out ((2 ^ l * negm n B : Nat) : Int) R ((2 ^ l * B : Nat) : Int) = compact_RangeNodes.l1 k (out ++ (Lft l n B).map cnode) R ((2 ^ (l + n) * ((B + (2 ^ n - 1)) / 2 ^ n) : Nat) : Int) := by
 induction n with
 | zero =>
  intro l B out R k _ _ _
  rw [negm_zero, compact_RangeNodes.l0, if_pos (by simp)]
  simp [Lft]
 | succ n ih =>
  intro l B out R k hl hb ho
  have hup : (B + (2 ^ (n + 1) - 1)) / 2 ^ (n + 1) = ((B + 1) / 2 + (2 ^ n - 1)) / 2 ^ n := by
   have hp := Nat.two_pow_pos n
   rw [pow_up, ← Nat.div_div_eq_div_mul]
   congr 1; omega
  rw [hup] at hb ⊢
  have e1 : l + (n + 1) = l + 1 + n := by omega
  rw [e1] at hb ⊢
  have ihh := ih (l + 1) ((B + 1) / 2)
  have hp1 : 2 ^ (l + 1) = 2 ^ l * 2 := Nat.pow_succ 2 l
  by_cases h : B % 2 = 1
  ·have h1 := negm_odd n B h
   have hL : Lft l (n + 1) B = (l, B) :: Lft (l + 1) n ((B + 1) / 2) := by rw [Lft, if_pos h]; rfl
   have hlarge : 2 ^ (l + 1) * ((B + 1) / 2) ≤ 2 ^ (l + 1 + n) * (((B + 1) / 2 + (2 ^ n - 1)) / 2 ^ n) := by
    have hp := Nat.two_pow_pos n
    rw [Nat.pow_add 2 (l + 1) n, Nat.mul_assoc]
    apply Nat.mul_le_mul_left
    have := Nat.div_add_mod ((B + 1) / 2 + (2 ^ n - 1)) (2 ^ n)
    have := Nat.mod_lt ((B + 1) / 2 + (2 ^ n - 1)) hp
    omega
   have hB : 2 ^ l * B + 2 ^ l = 2 ^ (l + 1) * ((B + 1) / 2) := by
    rw [hp1, Nat.mul_assoc, show 2 * ((B + 1) / 2) = B + 1 by omega, Nat.mul_add, Nat.mul_one]
   have hM : 2 ^ l * negm (n + 1) B < 18446744073709551616 := by
    have h2 : negm (n + 1) B < 2 ^ (n + 1) := Nat.mod_lt _ (Nat.two_pow_pos _)
    have h3 : 2 ^ l * negm (n + 1) B < 2 ^ l * 2 ^ (n + 1) := Nat.mul_lt_mul_of_pos_left h2 (Nat.two_pow_pos l)
    rw [← Nat.pow_add] at h3
    exact Nat.lt_trans h3 (pow_lt64 (by omega))
   have hl64 := pow_lt64 (k := l) (by omega)
   have hx : (2 ^ l * negm (n + 1) B) ^^^ 2 ^ l = 2 ^ (l + 1) * negm n ((B + 1) / 2) := by
    have := xor_mul_pow l (negm (n + 1) B) 1
    rw [Nat.mul_one] at this
    rw [this, xor_one_odd (by omega), h1, Nat.add_sub_cancel, hp1, Nat.mul_assoc]
   have hpos : 0 < 2 ^ l * negm (n + 1) B := Nat.mul_pos (Nat.two_pow_pos l) (by omega)
   have htz := bits_TrailingZeros64.eq l (negm (n + 1) B) (by omega) hM
   have hll : l < 18446744073709551616 := by omega
   have hadd := u64add (a := 2 ^ l * B) (b := 2 ^ l) (by omega)
   have hxx := xor64 _ _ hM hl64
   have hs1 := shl_one (k := l) (by omega)
   have hsr := shr_mul l B (by omega)
   have hne : ¬ ((2 ^ l * negm (n + 1) B : Nat) : Int) = 0 := by omega
   have hlen : out.length < 8796093022208 := by omega
   have hi := ihh (out ++ [cnode (l, B)]) R k (by omega) hb (by simp; omega)
   rw [hL, List.length_cons, show k + ((Lft (l + 1) n ((B + 1) / 2)).length + 1) + 1 = (k + (Lft (l + 1) n ((B + 1) / 2)).length + 1) + 1 by omega]
   rw [compact_RangeNodes.l0, if_neg hne, htz, Option.bind_some, u64in hll, if_pos (Int.natCast_nonneg l), hsr, hs1, hxx, hx, hadd, hB]
   show (if out.length < 8796093022208 then compact_RangeNodes.l0 _ (out ++ [cnode (l, B)]) _ R _ else none) = _
   rw [if_pos hlen, hi, List.map_cons, List.append_assoc]; rfl
  ·have h1 := negm_even n B (by omega)
   have hL : Lft l (n + 1) B = Lft (l + 1) n ((B + 1) / 2) := by rw [Lft, if_neg h]; rfl
   have e2 : 2 ^ l * negm (n + 1) B = 2 ^ (l + 1) * negm n ((B + 1) / 2) := by rw [h1, hp1, Nat.mul_assoc, show (B + 1) / 2 = B / 2 by omega]
   have e3 : 2 ^ l * B = 2 ^ (l + 1) * ((B + 1) / 2) := by rw [hp1, Nat.mul_assoc, show 2 * ((B + 1) / 2) = B by omega]
   rw [hL, e2, e3]
   exact ihh out R k (by omega) hb (by omega)
theorem right_loop (n e : Nat) (he : e < 18446744073709551616) : ∀ (out : List S99) (k : Nat), n ≤ 64 → out.length + n < 8796093022208 →
 compact_RangeNodes.l1 (k + (RgtT n e).length + 2) out ((e % 2 ^ n : Nat) : Int) ((e / 2 ^ n * 2 ^ n : Nat) : Int) = some (out ++ (RgtT n e).map cnode) := by
 induction n with
 | zero =>
  intro out k _ _
  rw [compact_RangeNodes.l1, if_pos (by simp [Nat.mod_one])]
  simp [RgtT]
 | succ n ih =>
  intro out k hn ho
  have hp := Nat.two_pow_pos n
  have hq : e / 2 ^ (n + 1) = e / 2 ^ n / 2 := by rw [Nat.pow_succ, Nat.div_div_eq_div_mul]
  have hm : e % 2 ^ (n + 1) = e % 2 ^ n + 2 ^ n * (e / 2 ^ n % 2) := by rw [Nat.pow_succ, Nat.mod_mul]
  have hle : e / 2 ^ n * 2 ^ n ≤ e := Nat.div_mul_le_self e (2 ^ n)
  have hodd : e / 2 ^ n % 2 = 1 → e / 2 ^ n / 2 * 2 = e / 2 ^ n - 1 ∧ e / 2 ^ n - 1 + 1 = e / 2 ^ n := by
   generalize e / 2 ^ n = q; omega
  have heven : e / 2 ^ n % 2 = 0 → e / 2 ^ n / 2 * 2 = e / 2 ^ n := by
   generalize e / 2 ^ n = q; omega
  by_cases h : e / 2 ^ n % 2 = 1
  ·have hL : RgtT (n + 1) e = (n, e / 2 ^ n - 1) :: RgtT n e := by rw [RgtT, if_pos h]; rfl
   have hr : e % 2 ^ n < 2 ^ n := Nat.mod_lt _ hp
   have hm1 : e % 2 ^ (n + 1) = 2 ^ n + e % 2 ^ n := by rw [hm, h]; omega
   have hpos : e / 2 ^ (n + 1) * 2 ^ (n + 1) = 2 ^ n * (e / 2 ^ n - 1) := by
    rw [hq, Nat.pow_succ, ← Nat.mul_assoc, Nat.mul_right_comm, (hodd h).1, Nat.mul_comm]
   have hsum : 2 ^ n * (e / 2 ^ n - 1) + 2 ^ n = e / 2 ^ n * 2 ^ n := by
    rw [← Nat.mul_succ, Nat.succ_eq_add_one, (hodd h).2, Nat.mul_comm]
   have hn64 := pow_lt64 (k := n) (by omega)
   have hbl : blen (2 ^ n + e % 2 ^ n) = n + 1 := blen_unique (by omega) (by rw [Nat.pow_succ]; omega)
   have hrl : 2 ^ n + e % 2 ^ n < 18446744073709551616 := by
    have := Nat.mod_le e (2 ^ (n + 1)); omega
   have hlen64 := bits_Len64.eq (k + (RgtT n e).length + 1) _ hrl
   rw [hbl] at hlen64
   have hw1 : IntKind.u64.wrap (IntKind.u64.wrap ((n + 1 : Nat) : Int) - 1) = (n : Int) := by
    rw [u64in (by omega)]
    exact u64sub (a := n + 1) (b := 1) (by omega) (by omega)
   have hadd := u64add (a := 2 ^ n * (e / 2 ^ n - 1)) (b := 2 ^ n) (by omega)
   have hxx := xor64 _ _ hrl hn64
   rw [xor_top hr] at hxx
   have hs1 := shl_one (k := n) (by omega)
   have hsr := shr_mul n (e / 2 ^ n - 1) (by omega)
   have hne : ¬ ((2 ^ n + e % 2 ^ n : Nat) : Int) = 0 := by omega
   have hlen : out.length < 8796093022208 := by omega
   have hi := ih (out ++ [cnode (n, e / 2 ^ n - 1)]) k (by omega) (by simp; omega)
   rw [hL, List.length_cons, show k + ((RgtT n e).length + 1) + 2 = (k + (RgtT n e).length + 2) + 1 by omega, hm1, hpos]
   rw [compact_RangeNodes.l1, if_neg hne, hlen64, Option.bind_some, hw1, if_pos (Int.natCast_nonneg n), hsr, hs1, hxx, hadd, hsum]
   show (if out.length < 8796093022208 then compact_RangeNodes.l1 _ (out ++ [cnode (n, e / 2 ^ n - 1)]) _ _ else none) = _
   rw [if_pos hlen, hi, List.map_cons, List.append_assoc]; rfl
  ·have h0 : e / 2 ^ n % 2 = 0 := by omega
   have hL : RgtT (n + 1) e = RgtT n e := by rw [RgtT, if_neg h]; rfl
   have hm1 : e % 2 ^ (n + 1) = e % 2 ^ n := by rw [hm, h0]; simp
   have hpos : e / 2 ^ (n + 1) * 2 ^ (n + 1) = e / 2 ^ n * 2 ^ n := by
    rw [hq, Nat.pow_succ, ← Nat.mul_assoc, Nat.mul_right_comm, heven h0]
   rw [hL, hm1, hpos]
   exact ih out k (by omega) (by omega)
theorem Nds_masks (b e : Nat) (h : b ≤ e) (h0 : 0 < b) : Nds 0 b e = Lft 0 (fork (b - 1) e - 1) b ++ RgtT (fork (b - 1) e - 1) e := by
 rw [Nds_parts (fork (b - 1) e - 1) 0 b e h0 (fork_below (by omega)), Rgt_eq]
theorem fork_64 {i n : Nat} (hi : i < 18446744073709551616) (hn : n < 18446744073709551616) : fork i n ≤ 64 := blen_lt64 (Nat.xor_lt_two_pow (n := 64) hi hn)
theorem Lft_len (n l b : Nat) : (Lft l n b).length ≤ n := by
 rw [ones_Lft]; exact ones_le _ _ (Nat.mod_lt _ (Nat.two_pow_pos n))
theorem RgtT_len (n e : Nat) : (RgtT n e).length ≤ n := by
 rw [ones_RgtT]; exact ones_le _ _ (Nat.mod_lt _ (Nat.two_pow_pos n))
theorem compact_RangeNodes.eq (b e : Nat) (h : b ≤ e) (he : e < 18446744073709551616) (out : List S99) (ho : out.length < 8796093022000) (K : Nat) (hK : 140 ≤ K) :
 compact_RangeNodes.f K (b : Int) (e : Int) out = some (out ++ (Nds 0 b e).map cnode) := by
 have hD := compact_Decompose.eq b e h he (K - 1)
 rw [show K - 1 + 1 = K by omega] at hD
 unfold compact_RangeNodes.f
 rw [hD, Option.bind_some]
 clear hD
 rcases Nat.eq_zero_or_pos b with h0 | h0
 ·subst h0
  have hl := RgtT_len 64 e
  have hr := right_loop 64 e he out (K - 1 - (RgtT 64 e).length - 2) (by omega) (by omega)
  rw [Nat.mod_eq_of_lt he, Nat.div_eq_of_lt he, Nat.zero_mul, show K - 1 - (RgtT 64 e).length - 2 + (RgtT 64 e).length + 2 = K - 1 by omega] at hr
  rw [show masks 0 e = (0, e) from rfl]
  show compact_RangeNodes.l0 K out 0 (e : Int) 0 = _
  obtain ⟨K, rfl⟩ : ∃ m, K = m + 1 := ⟨K - 1, by omega⟩
  rw [compact_RangeNodes.l0, if_pos rfl, Nds_zero 64 0 e he, Rgt_eq]
  exact hr
 ·have hm : masks b e = (negm (fork (b - 1) e - 1) b, e % 2 ^ (fork (b - 1) e - 1)) := by unfold masks; rw [if_neg (by omega)]
  have hf := fork_64 (i := b - 1) (n := e) (by omega) he
  have hbel := fork_below (x := b - 1) (e := e) (by omega)
  have hd63 : fork (b - 1) e - 1 ≤ 63 := by omega
  rw [hm, Nds_masks b e h h0]
  clear hf hm
  generalize fork (b - 1) e - 1 = d at *
  have hp := Nat.two_pow_pos d
  have hup : (b + (2 ^ d - 1)) / 2 ^ d = e / 2 ^ d := by
   rw [← hbel, show b + (2 ^ d - 1) = (b - 1) + 2 ^ d by omega, Nat.add_div_right _ hp]
  have hle : e / 2 ^ d * 2 ^ d ≤ e := Nat.div_mul_le_self e (2 ^ d)
  have h1 := Lft_len d 0 b
  have h2 := RgtT_len d e
  have hlf := left_loop d 0 b out ((e % 2 ^ d : Nat) : Int) (K - (Lft 0 d b).length - 1)
  rw [hup, Nat.zero_add, Nat.mul_comm (2 ^ d), Nat.pow_zero, Nat.one_mul, Nat.one_mul, show K - (Lft 0 d b).length - 1 + (Lft 0 d b).length + 1 = K by omega] at hlf
  have hr := right_loop d e he (out ++ (Lft 0 d b).map cnode) (K - (Lft 0 d b).length - 1 - (RgtT d e).length - 2) (by omega) (by simp; omega)
  rw [show K - (Lft 0 d b).length - 1 - (RgtT d e).length - 2 + (RgtT d e).length + 2 = K - (Lft 0 d b).length - 1 by omega] at hr
  show compact_RangeNodes.l0 K out ((negm d b : Nat) : Int) ((e % 2 ^ d : Nat) : Int) (b : Int) = _
  rw [hlf (by omega) (by omega) (by omega), hr, List.map_append, List.append_assoc]
theorem compact_RangeSize.eq (b e : Nat) (h : b ≤ e) (he : e < 18446744073709551616) (k : Nat) : compact_RangeSize.f (k + 1) (b : Int) (e : Int) = some (((Nds 0 b e).length : Nat) : Int) := by
 unfold compact_RangeSize.f
 rw [compact_Decompose.eq b e h he, Option.bind_some]
 rcases Nat.eq_zero_or_pos b with h0 | h0
 ·subst h0
  have h1 : (Nds 0 0 e).length = ones e := by rw [Nds_zero 64 0 e he, Rgt_eq, ones_RgtT, Nat.mod_eq_of_lt he]
  have h2 := ones_le e 64 he
  have e0 : bits_OnesCount64.f 0 = some 0 := by
   have := bits_OnesCount64.eq 0 (by decide)
   rw [ones_zero] at this; exact this
  rw [show masks 0 e = (0, e) from rfl, h1]
  show (bits_OnesCount64.f 0).bind _ = _
  rw [e0, Option.bind_some, bits_OnesCount64.eq e he, Option.bind_some, Int.zero_add, w64 (by omega)]
 ·have hm : masks b e = (negm (fork (b - 1) e - 1) b, e % 2 ^ (fork (b - 1) e - 1)) := by unfold masks; rw [if_neg (by omega)]
  have hf := fork_64 (i := b - 1) (n := e) (by omega) he
  rw [hm, Nds_masks b e h h0, List.length_append, ones_Lft, ones_RgtT]
  generalize hd : fork (b - 1) e - 1 = d at *
  have hd63 : d ≤ 63 := by omega
  have h1 := pow_lt64 hd63
  have h2 : negm d b < 2 ^ d := Nat.mod_lt _ (Nat.two_pow_pos d)
  have h3 : e % 2 ^ d < 2 ^ d := Nat.mod_lt _ (Nat.two_pow_pos d)
  have h4 := ones_le _ _ h2
  have h5 := ones_le _ _ h3
  rw [bits_OnesCount64.eq _ (Nat.lt_trans h2 h1), Option.bind_some, bits_OnesCount64.eq _ (Nat.lt_trans h3 h1), Option.bind_some, w64_add _ _ (by omega)]
theorem level_loop (b e : Nat) (h : b < e) (he : e < 18446744073709551616) (out : List S49) (ho : out.length < 8796093022208) (d : Nat) : ∀ (j k : Nat), lev b e = j + d →
 spec_Nodes.l1 (k + d + 1) out (j : Int) (b : Int) (e : Int) = spec_Nodes.l0 k (out ++ [inode (lev b e, b / 2 ^ lev b e)]) ((b + 2 ^ lev b e : Nat) : Int) (e : Int) := by
 have hs := lev_spec b e h
 have hl := lev_lt h he
 induction d with
 | zero =>
  intro j k hj
  rw [Nat.add_zero] at hj
  have h2 := pow_lt64 (k := lev b e) (by omega)
  have hsr : shr .u64 (b : Int) (j : Int) = ((b / 2 ^ lev b e : Nat) : Int) := by rw [← hj]; exact shr64' b _ (by omega)
  have hs1 : shl .u64 1 (j : Int) = ((2 ^ lev b e : Nat) : Int) := by rw [← hj]; exact shl_one (by omega)
  have hadd := u64add (a := b) (b := 2 ^ lev b e) (by omega)
  have hand := and64 (b / 2 ^ lev b e) 1 (by have := Nat.div_le_self b (2 ^ lev b e); omega) (by decide)
  rw [show (1 : Nat) = 2 ^ 1 - 1 from rfl, Nat.and_two_pow_sub_one_eq_mod, Nat.pow_one] at hand
  have hfin : (if out.length < 8796093022208 then (spec_Nodes.l0 k (out ++ [(⟨(j : Int), shr .u64 (b : Int) (j : Int)⟩ : S49)]) (IntKind.u64.wrap ((b : Int) + (shl .u64 1 (j : Int)))) (e : Int)) else (none)) = spec_Nodes.l0 k (out ++ [inode (lev b e, b / 2 ^ lev b e)]) ((b + 2 ^ lev b e : Nat) : Int) (e : Int) := by
   rw [if_pos ho, hsr, hs1, hadd, ← hj]; rfl
  rw [Nat.add_zero, spec_Nodes.l1]
  by_cases h63 : j < 63
  ·rw [if_pos (by omega), if_pos (Int.natCast_nonneg j)]
   by_cases hev : b / 2 ^ lev b e % 2 = 0
   ·have h3 := hs.2.2 (by rw [Nat.pow_succ, Nat.mod_mul, hs.1, hev]; simp)
    have hw : IntKind.u64.wrap ((j : Int) + 1) = ((j + 1 : Nat) : Int) := u64add (a := j) (b := 1) (by omega)
    have hs2 : shl .u64 1 ((j + 1 : Nat) : Int) = ((2 ^ (lev b e + 1) : Nat) : Int) := by rw [← hj]; exact shl_one (by omega)
    have hsub := u64sub (a := e) (b := b) (by omega) he
    have hgt : ¬ ((2 ^ (lev b e + 1) : Nat) : Int) ≤ ((e - b : Nat) : Int) := by omega
    have hz : Go.bits .and .u64 (shr .u64 (b : Int) (j : Int)) 1 = 0 := by rw [hsr]; rw [hev] at hand; exact hand
    rw [if_pos hz, hw, if_pos (Int.natCast_nonneg _), hs2, hsub, if_neg hgt]
    exact hfin
   ·have hz : ¬ Go.bits .and .u64 (shr .u64 (b : Int) (j : Int)) 1 = 0 := by
     rw [hsr]; intro h4
     have h5 : ((b / 2 ^ lev b e % 2 : Nat) : Int) = 0 := hand.symm.trans h4
     omega
    rw [if_neg hz]
    exact hfin
  ·rw [if_neg (by omega), if_pos (Int.natCast_nonneg j)]
   exact hfin
 | succ d ih =>
  intro j k hj
  have hj63 : j < 63 := by omega
  have hdvd : b / 2 ^ j % 2 = 0 := by
   have h1 : b % 2 ^ (j + 1) = 0 := by
    have h2 : 2 ^ lev b e = 2 ^ (j + 1) * 2 ^ d := by rw [← Nat.pow_add, hj]; congr 1; omega
    have h3 := hs.1
    rw [h2] at h3
    have := Nat.mod_mul_right_mod b (2 ^ (j + 1)) (2 ^ d)
    rw [h3] at this; simpa using this.symm
   rw [Nat.pow_succ, Nat.mod_mul] at h1
   have hp := Nat.two_pow_pos j
   rcases Nat.mod_two_eq_zero_or_one (b / 2 ^ j) with h4 | h4
   ·exact h4
   ·rw [h4] at h1; omega
  have hle : 2 ^ (j + 1) ≤ e - b := by
   have h1 : 2 ^ (j + 1) ≤ 2 ^ lev b e := Nat.pow_le_pow_right (by decide) (by omega)
   omega
  have hsr : shr .u64 (b : Int) (j : Int) = ((b / 2 ^ j : Nat) : Int) := shr64' b j (by omega)
  have hand := and64 (b / 2 ^ j) 1 (by have := Nat.div_le_self b (2 ^ j); omega) (by decide)
  rw [show (1 : Nat) = 2 ^ 1 - 1 from rfl, Nat.and_two_pow_sub_one_eq_mod, Nat.pow_one, hdvd] at hand
  have hz : Go.bits .and .u64 (shr .u64 (b : Int) (j : Int)) 1 = 0 := by rw [hsr]; exact hand
  have hw : IntKind.u64.wrap ((j : Int) + 1) = ((j + 1 : Nat) : Int) := u64add (a := j) (b := 1) (by omega)
  have hs2 : shl .u64 1 ((j + 1 : Nat) : Int) = ((2 ^ (j + 1) : Nat) : Int) := shl_one (by omega)
  have hsub := u64sub (a := e) (b := b) (by omega) he
  have hgt : ((2 ^ (j + 1) : Nat) : Int) ≤ ((e - b : Nat) : Int) := by omega
  rw [show k + (d + 1) + 1 = (k + d + 1) + 1 by omega, spec_Nodes.l1, if_pos (by omega), if_pos (Int.natCast_nonneg j), if_pos hz, hw, if_pos (Int.natCast_nonneg _), hs2, hsub, if_pos hgt]
  exact ih (j + 1) k (by omega)
theorem nodes_loop (e : Nat) (he : e < 18446744073709551616) (m : Nat) : ∀ (b : Nat) (out : List S49) (K : Nat), (Nds 0 b e).length = m → out.length + m < 8796093022208 → 70 * m + 1 ≤ K → b ≤ e →
 spec_Nodes.l0 K out (b : Int) (e : Int) = some (out ++ (Nds 0 b e).map inode) := by
 induction m with
 | zero =>
  intro b out K hm ho hK hb
  obtain ⟨K, rfl⟩ : ∃ k, K = k + 1 := ⟨K - 1, by omega⟩
  have hge : e ≤ b := by
   rcases Nat.lt_or_ge b e with h | h
   ·have := Nds_nonempty (l := 0) h; omega
   ·exact h
  rw [spec_Nodes.l0, if_neg (by omega), Nds_empty hge]; simp
 | succ m ih =>
  intro b out K hm ho hK hb
  have hlt : b < e := by
   rcases Nat.lt_or_ge b e with h | h
   ·exact h
   ·rw [Nds_empty h] at hm; simp at hm
  have hl := lev_lt hlt he
  have hs := (lev_spec b e hlt).2.1
  have hst := Nds_step 0 b e hlt
  rw [Nat.zero_add] at hst
  have hlen : (Nds 0 (b + 2 ^ lev b e) e).length = m := by rw [hst] at hm; simpa using hm
  have h1 := level_loop b e hlt he out (by omega) (lev b e) 0 (K - 1 - lev b e - 1) (by omega)
  have h2 := ih (b + 2 ^ lev b e) (out ++ [inode (lev b e, b / 2 ^ lev b e)]) (K - 1 - lev b e - 1) hlen (by simp; omega) (by omega) hs
  rw [show K - 1 - lev b e - 1 + lev b e + 1 = K - 1 by omega] at h1
  obtain ⟨K, rfl⟩ : ∃ k, K = k + 1 := ⟨K - 1, by omega⟩
  rw [spec_Nodes.l0, if_pos (by omega)]
  rw [Nat.add_sub_cancel] at h1 h2
  rw [show (0 : Int) = ((0 : Nat) : Int) from rfl, h1, h2, hst, List.map_cons, List.append_assoc]; rfl
theorem spec_Nodes.eq (b e : Nat) (h : b ≤ e) (he : e < 18446744073709551616) (K : Nat) (hK : 9000 ≤ K) : spec_Nodes.f K (b : Int) (e : Int) = some ((Nds 0 b e).map inode) := by
 have hl := Nds_len 0 b e 64 he
 have := nodes_loop e he _ b [] K rfl (by simp; omega) (by omega) h
 unfold spec_Nodes.f
 rw [this, List.nil_append]
def toI (x : S99) : S49 := ⟨x.f0, x.f1⟩
theorem drop_rd {α : Type} (l : List α) (i : Nat) (d : α) (h : i < l.length) : l.drop i = l.getD i d :: l.drop (i + 1) := by
 rw [List.drop_eq_getElem_cons h, List.getD_eq_getElem?_getD, List.getElem?_eq_getElem h]; rfl
theorem fromNodes_loop (l : List S99) (hl : l.length < 4398046511104) (d : Nat) : ∀ (i k : Nat) (out : List S49), i + d = l.length → out.length + d < 8796093022208 → d < k →
 impl_fromNodes.l0 k out l (l.length : Int) (i : Int) = some (out ++ (l.drop i).map toI) := by
 induction d with
 | zero =>
  intro i k out hi ho hk
  obtain ⟨k, rfl⟩ : ∃ m, k = m + 1 := ⟨k - 1, by omega⟩
  rw [impl_fromNodes.l0, if_neg (by omega), List.drop_of_length_le (by omega)]; simp
 | succ d ih =>
  intro i k out hi ho hk
  obtain ⟨k, rfl⟩ : ∃ m, k = m + 1 := ⟨k - 1, by omega⟩
  have hlt : i < l.length := by omega
  have hlen : out.length < 8796093022208 := by omega
  have hw : wrap64 ((i : Int) + 1) = ((i + 1 : Nat) : Int) := w64_add i 1 (by omega)
  have hi := ih (i + 1) k (out ++ [toI (rd_T99 l (i : Int))]) (by omega) (by simp; omega) (by omega)
  rw [impl_fromNodes.l0, if_pos (by omega), if_pos (Int.natCast_nonneg i), if_pos (by omega)]
  show (if out.length < 8796093022208 then impl_fromNodes.l0 k (out ++ [toI (rd_T99 l (i : Int))]) l (l.length : Int) (wrap64 ((i : Int) + 1)) else none) = _
  rw [if_pos hlen, hw, hi, drop_rd l i z99 hlt, List.map_cons, List.append_assoc]; rfl
theorem impl_fromNodes.eq (l : List S99) (hl : l.length < 4398046511104) (K : Nat) (hK : l.length < K) : impl_fromNodes.f K l = some (l.map toI) := by
 have := fromNodes_loop l hl l.length 0 K [] (by omega) (by simp; omega) (by omega)
 unfold impl_fromNodes.f
 rw [show (0 : Int) = ((0 : Nat) : Int) from rfl, this]; rfl
end Go.Proofs.YtielnphmcaecdaaDoor.PAll
namespace Go.Proofs.YtielnphmcaecdaaDoor.Mth
def lvs (p : Nat × Nat) : Nat × Nat := (p.2 * 2 ^ p.1, (p.2 + 1) * 2 ^ p.1)
def sib (i l : Nat) : Nat × Nat := (l, if i / 2 ^ l % 2 = 0 then i / 2 ^ l + 1 else i / 2 ^ l - 1)
def sibs (i m : Nat) : List (Nat × Nat) := (List.range m).map (sib i)
theorem sibs_succ (i m : Nat) : sibs i (m + 1) = sibs i m ++ [sib i m] := by unfold sibs; rw [List.range_succ, List.map_append]; rfl
theorem div_of_range {i b p : Nat} (h1 : b * p ≤ i) (h2 : i < (b + 1) * p) : i / p = b := by
 have hp : 0 < p := by
  rcases Nat.eq_zero_or_pos p with h | h
  ·subst h; omega
  ·exact h
 exact Nat.div_eq_of_lt_le h1 h2
theorem path_perfect (m : Nat) : ∀ b i, b * 2 ^ m ≤ i → i < (b + 1) * 2 ^ m → path i (b * 2 ^ m) ((b + 1) * 2 ^ m) = (sibs i m).map lvs := by
 induction m with
 | zero =>
  intro b i h1 h2
  rw [path_one (by rw [Nat.pow_zero]; omega)]; rfl
 | succ m ih =>
  intro b i h1 h2
  have hp := Nat.two_pow_pos m
  have e1 : b * 2 ^ (m + 1) = 2 * b * 2 ^ m := by rw [Nat.pow_succ]; ac_rfl
  have e2 : (b + 1) * 2 ^ (m + 1) = (2 * b + 2) * 2 ^ m := by
   rw [Nat.pow_succ, Nat.add_mul, Nat.add_mul]; have : b * (2 ^ m * 2) = 2 * b * 2 ^ m := by ac_rfl
   omega
  have e3 : (2 * b + 1) * 2 ^ m = 2 * b * 2 ^ m + 2 ^ m := by rw [Nat.add_mul, Nat.one_mul]
  have e4 : (2 * b + 2) * 2 ^ m = 2 * b * 2 ^ m + 2 ^ m + 2 ^ m := by rw [Nat.add_mul]; omega
  have e5 : (b + 1) * 2 ^ (m + 1) - b * 2 ^ (m + 1) = 2 ^ (m + 1) := by rw [e1, e2, e4, Nat.pow_succ]; omega
  have hs : psplit ((b + 1) * 2 ^ (m + 1) - b * 2 ^ (m + 1)) = 2 ^ m := by rw [e5, psplit_pow]
  have h2p : 2 ≤ (b + 1) * 2 ^ (m + 1) - b * 2 ^ (m + 1) := by rw [e5, Nat.pow_succ]; omega
  rw [sibs_succ, List.map_append]
  by_cases hi : i < 2 * b * 2 ^ m + 2 ^ m
  ·have hd : i / 2 ^ m = 2 * b := div_of_range (by omega) (by rw [e3]; exact hi)
   rw [path_left h2p (by rw [hs, e1]; exact hi), hs, e1, ← e3, ih (2 * b) i (by omega) (by rw [e3]; exact hi)]
   congr 1
   show [((2 * b + 1) * 2 ^ m, (b + 1) * 2 ^ (m + 1))] = [lvs (sib i m)]
   unfold lvs sib
   rw [hd, if_pos (by omega), e2]
  ·have hd : i / 2 ^ m = 2 * b + 1 := div_of_range (by rw [e3]; omega) (by show i < (2 * b + 2) * 2 ^ m; rw [e4]; rw [e2, e4] at h2; exact h2)
   rw [path_right h2p (by rw [hs, e1]; omega), hs]
   have e6 : b * 2 ^ (m + 1) + 2 ^ m = (2 * b + 1) * 2 ^ m := by rw [e1, e3]
   have e7 : (b + 1) * 2 ^ (m + 1) = (2 * b + 1 + 1) * 2 ^ m := e2
   rw [e6, e7, ih (2 * b + 1) i (by rw [e3]; omega) (by rw [← e7]; exact h2)]
   congr 1
   show [(b * 2 ^ (m + 1), (2 * b + 1) * 2 ^ m)] = [lvs (sib i m)]
   unfold lvs sib
   rw [hd, if_neg (by omega), e1]; rfl
theorem fork_is {i n m : Nat} (h1 : i / 2 ^ (m + 1) = n / 2 ^ (m + 1)) (h2 : i / 2 ^ m ≠ n / 2 ^ m) : fork i n = m + 1 := by
 have a := fork_le.2 h1
 have b : ¬ fork i n ≤ m := fun h => h2 (fork_le.1 h)
 omega
theorem lev_is {b e κ : Nat} (h : b < e) (h1 : b % 2 ^ κ = 0) (h2 : b + 2 ^ κ ≤ e) (h3 : e < b + 2 ^ (κ + 1)) : lev b e = κ := by
 obtain ⟨s1, s2, s3⟩ := lev_spec b e h
 rcases Nat.lt_trichotomy (lev b e) κ with hl | hl | hl
 ·have hd : 2 ^ (lev b e + 1) ∣ b := Nat.dvd_trans (Nat.pow_dvd_pow 2 hl) (Nat.dvd_of_mod_eq_zero h1)
  have := s3 (Nat.mod_eq_zero_of_dvd hd)
  have := Nat.pow_le_pow_right (n := 2) (by decide) (show lev b e + 1 ≤ κ from hl)
  omega
 ·exact hl
 ·have := Nat.pow_le_pow_right (n := 2) (by decide) (show κ + 1 ≤ lev b e from hl)
  omega
theorem path_parts (i n : Nat) : ∀ (d M B : Nat), n - B = d → B % 2 ^ M = 0 → n < B + 2 ^ M → B ≤ i → i < n →
 B ≤ i / 2 ^ (fork i n - 1) * 2 ^ (fork i n - 1) ∧
 path i B n = (sibs i (fork i n - 1)).map lvs ++ (if (i / 2 ^ (fork i n - 1) + 1) * 2 ^ (fork i n - 1) < n then [((i / 2 ^ (fork i n - 1) + 1) * 2 ^ (fork i n - 1), n)] else []) ++
  (Nds 0 B (i / 2 ^ (fork i n - 1) * 2 ^ (fork i n - 1))).reverse.map lvs := by
 intro d
 induction d using Nat.strongRecOn with
 | _ d ih =>
 intro M B hd hB hn hi1 hi2
 by_cases h1 : n - B = 1
 ·have hM : 1 ≤ M := by
   rcases Nat.eq_zero_or_pos M with h | h
   ·subst h; rw [Nat.pow_zero] at hn; omega
   ·exact h
  have hev : B % 2 = 0 := by
   have : (2 : Nat) ^ 1 ∣ B := Nat.dvd_trans (Nat.pow_dvd_pow 2 hM) (Nat.dvd_of_mod_eq_zero hB)
   exact Nat.mod_eq_zero_of_dvd this
  have hf : fork i n = 0 + 1 := fork_is (by rw [Nat.zero_add, Nat.pow_one]; omega) (by rw [Nat.pow_zero, Nat.div_one, Nat.div_one]; omega)
  rw [hf, path_one (by omega), Nat.zero_add, Nat.sub_self, Nat.pow_zero, Nat.div_one, Nat.mul_one, Nat.mul_one, if_neg (by omega), Nds_empty (by omega)]
  exact ⟨hi1, rfl⟩
 ·have h2 : 2 ≤ n - B := by omega
  obtain ⟨κ, hκ⟩ : ∃ κ, psplit (n - B) = 2 ^ κ := ⟨_, rfl⟩
  have hp := Nat.two_pow_pos κ
  have hlt := psplit_lt h2
  have hle := le_psplit h2
  rw [hκ] at hlt hle
  have hpow : 2 ^ (κ + 1) = 2 * 2 ^ κ := by rw [Nat.pow_succ]; omega
  have hκM : κ < M := by
   apply Nat.lt_of_not_le
   intro h
   have := Nat.pow_le_pow_right (n := 2) (by decide) h
   omega
  have hdv : 2 ^ (κ + 1) ∣ B := Nat.dvd_trans (Nat.pow_dvd_pow 2 hκM) (Nat.dvd_of_mod_eq_zero hB)
  obtain ⟨β, hβ⟩ := hdv
  have hβ1 : B = β * 2 ^ (κ + 1) := by rw [hβ]; ac_rfl
  have hβ2 : B = 2 * β * 2 ^ κ := by rw [hβ1, hpow]; ac_rfl
  have e1 : (β + 1) * 2 ^ (κ + 1) = B + 2 ^ (κ + 1) := by rw [Nat.add_mul, ← hβ1, Nat.one_mul]
  by_cases hperf : n = B + 2 ^ (κ + 1)
  ·-- all of it is one perfect tree
   have hM2 : κ + 1 < M := by
    apply Nat.lt_of_not_le
    intro h
    have := Nat.pow_le_pow_right (n := 2) (by decide) h
    omega
   have hβe : β % 2 = 0 := by
    have hd2 : 2 ^ (κ + 2) ∣ B := Nat.dvd_trans (Nat.pow_dvd_pow 2 hM2) (Nat.dvd_of_mod_eq_zero hB)
    obtain ⟨γ, hγ⟩ := hd2
    have : β * 2 ^ (κ + 1) = (2 * γ) * 2 ^ (κ + 1) := by rw [← hβ1, hγ, show κ + 2 = κ + 1 + 1 from rfl, Nat.pow_succ 2 (κ + 1)]; ac_rfl
    have := Nat.eq_of_mul_eq_mul_right (Nat.two_pow_pos (κ + 1)) this
    omega
   have hdi : i / 2 ^ (κ + 1) = β := div_of_range (by omega) (by omega)
   have hdn : n / 2 ^ (κ + 1) = β + 1 := by rw [hperf, ← e1]; exact Nat.mul_div_cancel _ (Nat.two_pow_pos _)
   have hf : fork i n = κ + 1 + 1 := fork_is (by rw [Nat.pow_succ 2 (κ + 1), ← Nat.div_div_eq_div_mul, ← Nat.div_div_eq_div_mul, hdi, hdn]; omega) (by rw [hdi, hdn]; omega)
   rw [hf, Nat.add_sub_cancel, hdi, e1, ← hβ1, if_neg (by omega), Nds_empty (Nat.le_refl _)]
   refine ⟨Nat.le_refl _, ?_⟩
   have := path_perfect (κ + 1) β i (by omega) (by omega)
   rw [e1, ← hβ1, ← hperf] at this
   rw [this]; simp
  ·have hn2 : n < B + 2 ^ (κ + 1) := by omega
   by_cases hi : i < B + 2 ^ κ
   ·-- the leaf is in the greatest perfect tree
    have hdi : i / 2 ^ κ = 2 * β := div_of_range (by omega) (by rw [Nat.add_mul, ← hβ2, Nat.one_mul]; exact hi)
    have e3 : (2 * β + 1) * 2 ^ κ = B + 2 ^ κ := by rw [Nat.add_mul, ← hβ2, Nat.one_mul]
    have hdn : n / 2 ^ κ = 2 * β + 1 := div_of_range (by omega) (by rw [show 2 * β + 1 + 1 = (2 * β + 1) + 1 from rfl, Nat.add_mul (2 * β + 1), e3, Nat.one_mul]; omega)
    have hf : fork i n = κ + 1 := fork_is (by rw [Nat.pow_succ, ← Nat.div_div_eq_div_mul, ← Nat.div_div_eq_div_mul, hdi, hdn]; omega) (by rw [hdi, hdn]; omega)
    rw [hf, Nat.add_sub_cancel, hdi, e3, ← hβ2, if_pos (by omega), Nds_empty (Nat.le_refl _), path_left h2 (by rw [hκ]; exact hi), hκ]
    refine ⟨Nat.le_refl _, ?_⟩
    have := path_perfect κ (2 * β) i (by omega) (by omega)
    rw [e3, ← hβ2] at this
    rw [this]; simp
   ·-- the leaf is behind it
    obtain ⟨i1, i2⟩ := ih (n - (B + 2 ^ κ)) (by omega) κ (B + 2 ^ κ) rfl (by rw [hβ2, Nat.mul_comm (2 * β), Nat.add_mod_right, Nat.mul_mod_right]) (by omega) (by omega) hi2
    refine ⟨by omega, ?_⟩
    rw [path_right h2 (by rw [hκ]; omega), hκ, i2]
    have hle2 : i / 2 ^ (fork i n - 1) * 2 ^ (fork i n - 1) ≤ i := Nat.div_mul_le_self _ _
    have hl : lev B (i / 2 ^ (fork i n - 1) * 2 ^ (fork i n - 1)) = κ := lev_is (by omega) (by rw [hβ2, Nat.mul_comm (2 * β), Nat.mul_mod_right]) (by omega) (by omega)
    have hN := Nds_step 0 B (i / 2 ^ (fork i n - 1) * 2 ^ (fork i n - 1)) (by omega)
    rw [hl, Nat.zero_add] at hN
    rw [hN, List.reverse_cons, List.map_append, List.append_assoc _ _ [(B, B + 2 ^ κ)]]
    congr 2
    have hdB : B / 2 ^ κ = 2 * β := by rw [hβ2]; exact Nat.mul_div_cancel _ hp
    show [(B, B + 2 ^ κ)] = [lvs (κ, B / 2 ^ κ)]
    unfold lvs
    rw [hdB, ← hβ2, Nat.add_mul, ← hβ2, Nat.one_mul]
end Go.Proofs.YtielnphmcaecdaaDoor.Mth
namespace Go.Proofs.YtielnphmcaecdaaDoor.PAll
open Go.IntWalk Go.RowKit Go.Proofs.YtielnphmcaecdaaDoor.Num Go.Proofs.YtielnphmcaecdaaDoor.Mth Go.Proofs.YtielnphmcaecdaaDoorW.PrintWords Go.Proofs.YtielnphmcaecdaaDoorW.PrintLast Go.Proofs.YtielnphmcaecdaaDoorW.PrintMore
def ndM (i l n : Nat) : Nat := fork i (n / 2 ^ l) - 1
def ndB (i l n : Nat) : Nat := i / 2 ^ ndM i l n * 2 ^ (l + ndM i l n)
def ndE (i l n : Nat) : Nat := (i / 2 ^ ndM i l n + 1) * 2 ^ (l + ndM i l n)
def ndS (i l n : Nat) : List (Nat × Nat) := (List.range (ndM i l n)).map fun t => (l + t, (sib i t).2)
def ndIds (i l n : Nat) : List (Nat × Nat) := (l, i) :: (ndS i l n ++ (Nds 0 (ndE i l n) n).reverse ++ (Nds 0 0 (ndB i l n)).reverse)
def ndBegin (i l n : Nat) : Nat := if (Nds 0 (ndE i l n) n).length = 0 then 0 else 1 + ndM i l n
def ndEnd (i l n : Nat) : Nat := if (Nds 0 (ndE i l n) n).length = 0 then 0 else 1 + ndM i l n + (Nds 0 (ndE i l n) n).length
def ndEph (i l n : Nat) : Nat × Nat := (l + ndM i l n, (sib i (ndM i l n)).2)
theorem xor_one (x : Nat) : x ^^^ 1 = if x % 2 = 0 then x + 1 else x - 1 := by
 by_cases h : x % 2 = 0
 ·rw [if_pos h]
  have e := xor_one_odd (M := x + 1) (by omega)
  rw [Nat.add_sub_cancel] at e
  calc x ^^^ 1 = ((x + 1) ^^^ 1) ^^^ 1 := by rw [e]
   _ = x + 1 := by rw [Nat.xor_assoc, Nat.xor_self, Nat.xor_zero]
 ·rw [if_neg h]; exact xor_one_odd (by omega)
theorem ndM_le (i l n : Nat) (hl : l ≤ 63) (hi : i < n / 2 ^ l) (hn : n < 18446744073709551616) : l + ndM i l n ≤ 63 := by
 have hq : n / 2 ^ l < 2 ^ (64 - l) := by
  rw [Nat.div_lt_iff_lt_mul (Nat.two_pow_pos _), ← Nat.pow_add, Nat.sub_add_cancel (by omega)]
  exact hn
 have hf : fork i (n / 2 ^ l) ≤ 64 - l := fork_le.2 (by rw [Nat.div_eq_of_lt (Nat.lt_trans hi hq), Nat.div_eq_of_lt hq])
 have := fork_pos hi
 unfold ndM; omega
theorem ndE_le (i l n : Nat) (hi : i < n / 2 ^ l) : ndE i l n = n / 2 ^ (l + ndM i l n) * 2 ^ (l + ndM i l n) ∧ ndE i l n ≤ n := by
 have e : ndE i l n = n / 2 ^ (l + ndM i l n) * 2 ^ (l + ndM i l n) := by
  unfold ndE
  rw [show i / 2 ^ ndM i l n + 1 = n / 2 ^ l / 2 ^ ndM i l n from fork_below hi, Nat.div_div_eq_div_mul, ← Nat.pow_add]
 exact ⟨e, by rw [e]; exact Nat.div_mul_le_self _ _⟩
theorem ndB_lt (i l n : Nat) (hi : i < n / 2 ^ l) : ndB i l n < n := by
 have h := (ndE_le i l n hi).2
 have hp := Nat.two_pow_pos (l + ndM i l n)
 unfold ndE at h
 unfold ndB
 rw [Nat.add_mul, Nat.one_mul] at h
 omega
theorem nodesAt.calls (i l n : Nat) (hl : l ≤ 63) (hi : i < n / 2 ^ l) (hn : n < 18446744073709551616) (w : World) (hG : Glob w) :
 Calls Tryd.prog 96 #[.int .u64 (i : Int), .int .u64 (l : Int), .int .u64 (n : Int)] w fun ex w' => ∃ v : Value, ex = .returned (.agg #[v, .int .i64 (ndBegin i l n : Int), .int .i64 (ndEnd i l n : Int), .int .u64 ((ndEph i l n).1 : Int), .int .u64 ((ndEph i l n).2 : Int)]) ∧ Kd.R k99 99 w' w.heap.size (fun k_ => w.heap.size ≤ k_) v ((ndIds i l n).map cnode) ∧ Below w.heap.size w w' := by
 have hm := ndM_le i l n hl hi hn
 have hE := ndE_le i l n hi
 have hB := ndB_lt i l n hi
 have hi64 : i < 18446744073709551616 := Nat.lt_of_lt_of_le hi (Nat.le_trans (Nat.div_le_self _ _) (by omega))
 have hq64 : n / 2 ^ l < 18446744073709551616 := Nat.lt_of_le_of_lt (Nat.div_le_self _ _) hn
 have hdiv : ∀ t, i / 2 ^ t < 18446744073709551616 := fun t => Nat.lt_of_le_of_lt (Nat.div_le_self _ _) hi64
 have hx : ∀ t, Go.bits .xor .u64 ((i / 2 ^ t : Nat) : Int) 1 = (((sib i t).2 : Nat) : Int) := fun t => by
  rw [show (1 : Int) = ((1 : Nat) : Int) from rfl, xor64 _ _ (hdiv t) (by omega), xor_one]
  rfl
 have lenR : (Nds 0 (ndE i l n) n).length ≤ 128 := Nds_len 0 _ _ 64 hn
 have lenL : (Nds 0 0 (ndB i l n)).length ≤ 128 := Nds_len 0 _ _ 64 (by omega)
 have hsibf : ∀ a t, compact_NodeID_Sibling.f a ((i / 2 ^ t : Nat) : Int) = some (a, (((sib i t).2 : Nat) : Int)) := fun a t => by
  show some (a, Go.bits .xor .u64 ((i / 2 ^ t : Nat) : Int) 1) = _
  rw [hx t]
 have H := nodes.calls 200 (i : Int) (l : Int) (n : Int) ((i / 2 ^ ndM i l n : Nat) : Int) (ndB i l n : Int) (ndE i l n : Int) (ndM i l n) (Nds 0 0 (ndB i l n)).length (Nds 0 (ndE i l n) n).length
  (fun t => ⟨((l + t : Nat) : Int), ((i / 2 ^ t : Nat) : Int)⟩) (fun t => cnode (l + t, (sib i t).2)) ((Nds 0 (ndE i l n) n).map cnode) ((Nds 0 0 (ndB i l n)).map cnode) w hG
  (by omega) (by omega) (by omega) (by omega) (by omega) (by omega)
  (by
   rw [Int.toNat_natCast, show ((n : Int) / 2 ^ l) = ((n / 2 ^ l : Nat) : Int) by rw [Int.natCast_ediv, Int.natCast_pow]; rfl, xor64 _ _ hi64 hq64, bits_Len64.eq 199 _ (Nat.xor_lt_two_pow (n := 64) hi64 hq64)]
   have := fork_pos hi
   congr 1
   show ((fork i (n / 2 ^ l) : Nat) : Int) = ((fork i (n / 2 ^ l) - 1 : Nat) : Int) + 1
   omega)
  (by rw [Int.natCast_ediv, Int.natCast_pow]; rfl)
  (by
   rw [← Int.natCast_add]
   unfold compact_NodeID_Coverage.f
   rw [if_pos (by omega), shl64 _ _ (by omega)]
   have h1 : i / 2 ^ ndM i l n + 1 < 18446744073709551616 := by
    have := fork_below hi
    have h2 : n / 2 ^ l / 2 ^ ndM i l n ≤ n := Nat.le_trans (Nat.div_le_self _ _) (Nat.div_le_self _ _)
    have h3 : i / 2 ^ ndM i l n + 1 = n / 2 ^ l / 2 ^ ndM i l n := this
    omega
   rw [show IntKind.u64.wrap (((i / 2 ^ ndM i l n : Nat) : Int) + 1) = ((i / 2 ^ ndM i l n + 1 : Nat) : Int) from u64add (b := 1) h1, shl64 _ _ (by omega)]
   rw [show i / 2 ^ ndM i l n * 2 ^ (l + ndM i l n) = ndB i l n from rfl, show (i / 2 ^ ndM i l n + 1) * 2 ^ (l + ndM i l n) = ndE i l n from rfl, Nat.mod_eq_of_lt (by omega), Nat.mod_eq_of_lt (by omega)])
  (compact_RangeSize.eq 0 (ndB i l n) (Nat.zero_le _) (by omega) 199)
  (compact_RangeSize.eq (ndE i l n) n hE.2 hn 199)
  (by simp)
  (fun t _ => by show ((l + t : Nat) : Int) = _; omega)
  (fun t _ => hsibf _ t)
  (fun t ht => by
   show some (IntKind.u64.wrap (((l + t : Nat) : Int) + 1), ((i / 2 ^ t : Nat) : Int) / 2) = _
   rw [show IntKind.u64.wrap (((l + t : Nat) : Int) + 1) = ((l + t + 1 : Nat) : Int) from u64add (b := 1) (by omega), show ((i / 2 ^ t : Nat) : Int) / 2 = ((i / 2 ^ (t + 1) : Nat) : Int) by rw [Nat.pow_succ, ← Nat.div_div_eq_div_mul]; omega]
   rfl)
  (fun xs hxs => compact_RangeNodes.eq (ndE i l n) n hE.2 hn xs (by omega) 200 (by omega))
  (by rw [List.length_map])
  (fun xs hxs => compact_RangeNodes.eq 0 (ndB i l n) (Nat.zero_le _) (by omega) xs (by omega) 200 (by omega))
  (by rw [List.length_map])
  (cnode (ndEph i l n)) (by rw [← Int.natCast_add]; exact hsibf _ _)
 refine H.mono ?_
 rintro ex w' ⟨v, rfl, hR, hb⟩
 refine ⟨v, ?_, ?_, hb⟩
 ·congr 3
  unfold ndBegin ndEnd
  by_cases h : (Nds 0 (ndE i l n) n).length = 0
  ·rw [if_pos h, if_pos h, if_pos h, if_pos h]; rfl
  ·rw [if_neg h, if_neg h, if_neg h, if_neg h]; simp; exact ⟨rfl, rfl⟩
 ·unfold ndIds ndS
  rw [List.map_cons, List.map_append, List.map_append, List.map_map, List.map_reverse, List.map_reverse, show cnode (l, i) = (⟨((l + 0 : Nat) : Int), ((i / 2 ^ 0 : Nat) : Int)⟩ : S99) by simp [cnode]]
  exact hR
theorem errNew.calls (s : ByteArray) (w : World) : Calls Tryd.prog 88 #[.string s] w fun e w' => ∃ t a, e = .returned (.iface t (.pointer (some a))) ∧ Below w.heap.size w w' := by
 go_enter Tryd.func88, Tryd.ntmps88
 go_wp2
 go_ret
 exact ⟨_, _, rfl, by repeat (first | exact Below.refl _ _ | apply below_alloc | apply pw_below_drewN | apply below_drew1)⟩
theorem fin5p {W : World} {g : Nat} (s a b c d : Value) (bk : W.heap[g]? = some (.cells #[.slice none 0 0, .int .u64 0, .int .u64 0, .int .i64 0, .int .i64 0] 61 (0, 0))) :
 (((((W.setCell ⟨g, 0, none⟩ s).setCell ⟨g, 1, none⟩ a).setCell ⟨g, 2, none⟩ b).setCell ⟨g, 3, none⟩ c).setCell ⟨g, 4, none⟩ d).heap[g]? = some (.cells #[s, a, b, c, d] 61 (0, 0)) := by
 refine blk_put (cs := #[s, a, b, c, .int .i64 0]) ?_ 4 _ rfl
 refine blk_put (cs := #[s, a, b, .int .i64 0, .int .i64 0]) ?_ 3 _ rfl
 refine blk_put (cs := #[s, a, .int .u64 0, .int .i64 0, .int .i64 0]) ?_ 2 _ rfl
 refine blk_put (cs := #[s, .int .u64 0, .int .u64 0, .int .i64 0, .int .i64 0]) ?_ 1 _ rfl
 exact blk_put bk 0 _ rfl
theorem fromProof_eq (l : List (Nat × Nat)) (b e z1 z2 : Int) (hl : l.length < 4398046511104) : impl_fromProof.f (l.length + 1) (l.map cnode) b e z1 z2 = some (l.map inode, z1, z2, b, e) := by
 unfold impl_fromProof.f
 rw [show proof_Nodes_Ephem.f (l.map cnode) b e z1 z2 = some (z1, z2, b, e) from rfl, Option.bind_some, impl_fromNodes.eq _ (by rw [List.length_map]; exact hl) _ (by rw [List.length_map]; omega), Option.bind_some]
 show some _ = _
 rw [List.map_map]
 rfl
end Go.Proofs.YtielnphmcaecdaaDoor.PAll
namespace Go.Proofs.YtielnphmcaecdaaDoor.PAll
open Go.IntWalk Go.RowKit Go.Proofs.YtielnphmcaecdaaDoorW.PrintWords Go.Proofs.YtielnphmcaecdaaDoorW.PrintLast Go.Proofs.YtielnphmcaecdaaDoorW.PrintMore
theorem info92 : (Tryd.prog.info? 92).map (fun i => (i.zero, i.size, i.bytes)) = some (some (.agg #[.nilFunc]), 1, 8) := by kernel_rfl
theorem ptr_same (fq : Nat) (W : World) : (binOp BinOp.neq 88 (Value.pointer (some ⟨fq, 0, none⟩)) (Value.pointer (some ⟨fq, 0, none⟩))).run Tryd.prog W = .ok (.bool false) W := by
 have h : (binOp BinOp.neq 88 (Value.pointer (some ⟨fq, 0, none⟩)) (Value.pointer (some ⟨fq, 0, none⟩))) = (do pure (.bool (!(← Op.equal 88 (Value.pointer (some ⟨fq, 0, none⟩)) (Value.pointer (some ⟨fq, 0, none⟩)))))) := rfl
 have h2 : (Op.equal 88 (Value.pointer (some ⟨fq, 0, none⟩)) (Value.pointer (some ⟨fq, 0, none⟩))).run Tryd.prog W = .ok true W := by
  obtain ⟨i0, hi, hz0, hsz, hb⟩ := info_parts info92
  have hu := Tryd.underlying88
  unfold Op.equal
  rw [show Op.maxDepth = 9999 + 1 from rfl, Op.equalIn]
  simp [run_underlying hu, sizeOf, typeInfo, hi, hsz]
  simp [sameAddr]
 rw [h]
 simp [h2]
theorem appendRangeNo.calls (p px fq q : Nat) (b e b2 e2 : Int) (V V2 : Value) (w : World) (cell : w.heap[p]? = some (.cells #[.pointer (some ⟨fq, 0, none⟩), .int .u64 b, .int .u64 e, V] 148 (0, 0))) (cellx : w.heap[px]? = some (.cells #[.pointer (some ⟨fq, 0, none⟩), .int .u64 b2, .int .u64 e2, V2] 148 (0, 0))) (hne : b2 ≠ e) :
 Calls Tryd.prog 52 #[.pointer (some ⟨p, 0, none⟩), .pointer (some ⟨px, 0, none⟩), .func (.func 53) #[] #[.pointer (some ⟨q, 0, none⟩)]] w fun ex w' => (∃ t a, ex = .returned (.iface t (.pointer (some a)))) ∧ Below w.heap.size w w' := by
 have y0 : w.cell? ⟨p, 0, none⟩ = some (.pointer (some ⟨fq, 0, none⟩)) := blk_cell cell 0
 have y2 : w.cell? ⟨p, 2, none⟩ = some (.int .u64 e) := blk_cell cell 2
 have x0 : w.cell? ⟨px, 0, none⟩ = some (.pointer (some ⟨fq, 0, none⟩)) := blk_cell cellx 0
 have x1 : w.cell? ⟨px, 1, none⟩ = some (.int .u64 b2) := blk_cell cellx 1
 have g1 : (b2 != e) = true := by simp [hne]
 have hps := fun W => ptr_same fq W
 clear cell cellx
 go_enter Tryd.func52, Tryd.ntmps52
 go_wp2_with (fail)
 go_region_held_law (fun w' => w'.cell? ⟨p, 0, none⟩ = some (.pointer (some ⟨fq, 0, none⟩)) ∧ w'.cell? ⟨px, 0, none⟩ = some (.pointer (some ⟨fq, 0, none⟩))) (first | exact ⟨y0, x0⟩ | go_keep) (fail)
 go_wp2_with (fail)
 have y2' : w.drew.cell? ⟨p, 2, none⟩ = some (.int .u64 e) := y2
 have x1' : w.drew.cell? ⟨px, 1, none⟩ = some (.int .u64 b2) := x1
 go_region_held_law (fun w' => w'.cell? ⟨px, 1, none⟩ = some (.int .u64 b2) ∧ w'.cell? ⟨p, 2, none⟩ = some (.int .u64 e)) (first | exact ⟨x1, y2⟩ | go_keep) (fail)
 go_wp2_with (fail)
 refine (errNew.calls _ _).mono ?_
 rintro ex w1 ⟨t, a, rfl, hb⟩
 have HB := Aside0.mk (below_step (show Below w.heap.size w _ by repeat (first | exact Below.refl _ _ | apply Below.drew | apply below_drew | apply pw_below_drewN)) hb)
 clear hb
 dsimp only
 go_wp2
 go_ret
 exact ⟨⟨_, _, rfl⟩, HB.out⟩
theorem appendRangeNil.calls (p px fq q : Nat) (b e e2 : Int) (V : Value) (Ay : Option Addr) (cy : Nat) (w : World) (cell : w.heap[p]? = some (.cells #[.pointer (some ⟨fq, 0, none⟩), .int .u64 b, .int .u64 e, V] 148 (0, 0))) (cellx : w.heap[px]? = some (.cells #[.pointer (some ⟨fq, 0, none⟩), .int .u64 e, .int .u64 e2, .slice Ay 0 cy] 148 (0, 0))) :
 Calls Tryd.prog 52 #[.pointer (some ⟨p, 0, none⟩), .pointer (some ⟨px, 0, none⟩), .func (.func 53) #[] #[.pointer (some ⟨q, 0, none⟩)]] w fun ex w' => ex = .returned .nilIface ∧ ∃ m, w' = w.drewN m := by
 have y0 : w.cell? ⟨p, 0, none⟩ = some (.pointer (some ⟨fq, 0, none⟩)) := blk_cell cell 0
 have y2 : w.cell? ⟨p, 2, none⟩ = some (.int .u64 e) := blk_cell cell 2
 have x0 : w.cell? ⟨px, 0, none⟩ = some (.pointer (some ⟨fq, 0, none⟩)) := blk_cell cellx 0
 have x1 : w.cell? ⟨px, 1, none⟩ = some (.int .u64 e) := blk_cell cellx 1
 have x3 : w.cell? ⟨px, 3, none⟩ = some (.slice Ay 0 cy) := blk_cell cellx 3
 have hps := fun W => ptr_same fq W
 clear cell cellx
 go_enter Tryd.func52, Tryd.ntmps52
 go_wp2_with (fail)
 go_region_held_law (fun w' => w'.cell? ⟨p, 0, none⟩ = some (.pointer (some ⟨fq, 0, none⟩)) ∧ w'.cell? ⟨px, 0, none⟩ = some (.pointer (some ⟨fq, 0, none⟩))) (first | exact ⟨y0, x0⟩ | go_keep) (fail)
 go_wp2_with (fail)
 go_region_held_law (fun w' => w'.cell? ⟨px, 1, none⟩ = some (.int .u64 e) ∧ w'.cell? ⟨p, 2, none⟩ = some (.int .u64 e)) (first | exact ⟨x1, y2⟩ | go_keep) (fail)
 go_wp2
 go_ret
 exact ⟨rfl, 2, rfl⟩
theorem appendRangeYes.calls (p px fq q gy cy : Nat) (b e e2 : Int) (V : Value) (s0 : SH) (rr : List SH) (tb : Nat) (Ar : Option Addr) (w : World) (hG : Glob w) (cell : w.heap[p]? = some (.cells #[.pointer (some ⟨fq, 0, none⟩), .int .u64 b, .int .u64 e, V] 148 (0, 0))) (cellx : w.heap[px]? = some (.cells #[.pointer (some ⟨fq, 0, none⟩), .int .u64 e, .int .u64 e2, .slice (some ⟨gy, 0, none⟩) (rr.length + 1) cy] 148 (0, 0)))
 (Y : Rw w tb (.slice (some ⟨gy, 0, none⟩) (rr.length + 1) cy) (s0 :: rr)) (hAr : Ar = (if cy = 1 then (some ⟨gy, 0, none⟩ : Option Addr) else (some ⟨gy, 0, none⟩ : Option Addr).map (·.add (1 * 1)))) (R : Ending → World → Prop)
 (HA : ∀ m, Calls Tryd.prog 90 #[.pointer (some ⟨p, 0, none⟩), .int .u64 e2, shE s0, .slice Ar rr.length (cy - 1), .func (.func 53) #[] #[.pointer (some ⟨q, 0, none⟩)]] (w.drewN m) fun ex w' => ex = .returned .nilIface ∧ R ex w' ∧ w'.cell? ⟨px, 2, none⟩ = some (.int .u64 e2) ∧ w'.cell? ⟨px, 3, none⟩ = some (.slice (some ⟨gy, 0, none⟩) (rr.length + 1) cy) ∧ w'.cell? ⟨gy, 0, none⟩ = some (shE s0)) :
 Calls Tryd.prog 52 #[.pointer (some ⟨p, 0, none⟩), .pointer (some ⟨px, 0, none⟩), .func (.func 53) #[] #[.pointer (some ⟨q, 0, none⟩)]] w fun ex w' => ex = .returned .nilIface ∧ R ex w' := by
 have y0 : w.cell? ⟨p, 0, none⟩ = some (.pointer (some ⟨fq, 0, none⟩)) := blk_cell cell 0
 have y2 : w.cell? ⟨p, 2, none⟩ = some (.int .u64 e) := blk_cell cell 2
 have x0 : w.cell? ⟨px, 0, none⟩ = some (.pointer (some ⟨fq, 0, none⟩)) := blk_cell cellx 0
 have x1 : w.cell? ⟨px, 1, none⟩ = some (.int .u64 e) := blk_cell cellx 1
 have x2 : w.cell? ⟨px, 2, none⟩ = some (.int .u64 e2) := blk_cell cellx 2
 obtain ⟨L, hL⟩ : ∃ L, rr.length + 1 = L := ⟨_, rfl⟩
 have hRY := Kd.R_reads' Y
 obtain ⟨i0, hi0, _, hsz, _⟩ := info_parts info27
 have hcut := cut_from (P := Tryd.prog) 25 27 .i64 Tryd.underlying25 hi0 1 hsz (some ⟨gy, 0, none⟩) (rr.length + 1) cy (1 : Int) (by omega) (by omega)
 rw [show (1 : Int).toNat = 1 from rfl, ← hAr, Nat.add_sub_cancel, hL] at hcut
 have x3 : w.cell? ⟨px, 3, none⟩ = some (.slice (some ⟨gy, 0, none⟩) L cy) := by rw [← hL]; exact blk_cell cellx 3
 obtain ⟨As, ns, cs⟩ := s0
 have x4 : w.cell? ⟨gy, 0, none⟩ = some (.slice As ns cs) := (kSH_cell Y (i := 0) (x := (As, ns, cs)) rfl).1
 have hL0 : 0 < L := by omega
 have g1 : ((L : Int) == 0) = false := beq_eq_false_iff_ne.mpr (by omega)
 have g2 : (0 : Int) < (L : Int) := by omega
 have g3 : decide ((0 : Int) < (L : Int)) = true := decide_eq_true g2
 have g4 : decide (0 < L) = true := decide_eq_true hL0
 have hps := fun W => ptr_same fq W
 have HAA := Aside0.mk HA
 clear cell cellx hRY hi0 hsz HA hAr
 go_enter Tryd.func52, Tryd.ntmps52
 go_wp2_with (fail)
 go_region_held_law (fun w' => w'.cell? ⟨p, 0, none⟩ = some (.pointer (some ⟨fq, 0, none⟩)) ∧ w'.cell? ⟨px, 0, none⟩ = some (.pointer (some ⟨fq, 0, none⟩))) (first | exact ⟨y0, x0⟩ | go_keep) (fail)
 go_wp2_with (fail)
 go_region_held_law (fun w' => w'.cell? ⟨px, 1, none⟩ = some (.int .u64 e) ∧ w'.cell? ⟨p, 2, none⟩ = some (.int .u64 e)) (first | exact ⟨x1, y2⟩ | go_keep) (fail)
 go_wp2_with (fail)
 go_region_held_law (fun w' => w'.cell? ⟨px, 2, none⟩ = some (.int .u64 e2) ∧ w'.cell? ⟨px, 3, none⟩ = some (.slice (some ⟨gy, 0, none⟩) L cy) ∧ w'.cell? ⟨gy, 0, none⟩ = some (.slice As ns cs)) (first | exact ⟨y2_, y3_, y4_⟩ | exact ⟨x2, x3, x4⟩ | go_keep) (first
  | (
   go_simp; go_at_call 90
   refine (show Calls Tryd.prog 90 #[.pointer (some ⟨p, 0, none⟩), .int .u64 e2, .slice As ns cs, .slice Ar rr.length (cy - 1), .func (.func 53) #[] #[.pointer (some ⟨q, 0, none⟩)]] w.drew.drew.drew (fun ex w' => ex = .returned .nilIface ∧ R ex w' ∧ w'.cell? ⟨px, 2, none⟩ = some (.int .u64 e2) ∧ w'.cell? ⟨px, 3, none⟩ = some (.slice (some ⟨gy, 0, none⟩) (rr.length + 1) cy) ∧ w'.cell? ⟨gy, 0, none⟩ = some (.slice As ns cs)) from HAA.out 3).mono ?_
   rintro ex wq ⟨rfl, hr, h2, h3, h4⟩
   have HR := Aside0.mk hr
   have y2_ := h2
   have y3_ : wq.cell? ⟨px, 3, none⟩ = some (.slice (some ⟨gy, 0, none⟩) L cy) := by rw [← hL]; exact h3
   have y4_ := h4
   clear hr h2 h3 h4)
  | fail)
 go_wp2
 go_ret
 exact ⟨rfl, HR.out⟩
end Go.Proofs.YtielnphmcaecdaaDoor.PAll
