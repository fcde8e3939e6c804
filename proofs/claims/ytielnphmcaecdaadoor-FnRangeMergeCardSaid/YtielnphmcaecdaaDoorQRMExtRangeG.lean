-- Written by a program of this session (wip/tools)
import Derived.Test.YtielnphmcaecdaaDoorQRMExtTz
import Derived.Test.YtielnphmcaecdaaDoorQRMExtRangeA
import Derived.Test.YtielnphmcaecdaaDoorQRMNds
import Derived.Test.YtielnphmcaecdaaDoorQRMExtNodes
import Derived.Test.YtielnphmcaecdaaDoorQRMExtRangeA3
import Derived.Test.YtielnphmcaecdaaDoorQRMPAllx2
import Derived.Test.YtielnphmcaecdaaDoorQRMPAllx6
import Derived.Test.YtielnphmcaecdaaDoorQRMPAllx5
namespace Go.Proofs.YtielnphmcaecdaaDoor.PAll
open Go.RowKit Go.Proofs.YtielnphmcaecdaaDoor.Num Go.Proofs.YtielnphmcaecdaaDoor.Mth Go.Proofs.YtielnphmcaecdaaDoorW.PrintWords Go.Proofs.YtielnphmcaecdaaDoorW.PrintLast
theorem tz_pow (l : Nat) (h : l < 64) : tzTab.getD (2 ^ l * 285870213051353865 % 18446744073709551616 / 288230376151711744) 0 = (l : Int) := by
  revert l; decide +kernel
theorem bits_TrailingZeros64.eq (l M : Nat) (hM : M % 2 = 1) (hx : 2 ^ l * M < 18446744073709551616) : bits_TrailingZeros64.f ((2 ^ l * M : Nat) : Int) = some ((l : Nat) : Int) := by
  have hp := Nat.two_pow_pos l
  have hl : l < 64 := by
    rcases Nat.lt_or_ge l 64 with h | h
    · exact h
    · have h1 : 2 ^ 64 ≤ 2 ^ l := Nat.pow_le_pow_right (by decide) h
      have h2 : 2 ^ l * 1 ≤ 2 ^ l * M := Nat.mul_le_mul_left _ (by omega)
      omega
  have hlt : 2 ^ l < 18446744073709551616 := pow_lt64 (by omega)
  have hpos : 0 < 2 ^ l * M := Nat.mul_pos hp (by omega)
  have h64 : (18446744073709551616 : Nat) = 2 ^ l * 2 ^ (64 - l) := by rw [← Nat.pow_add, show l + (64 - l) = 64 by omega]
  have hML : M < 2 ^ (64 - l) := by
    rw [h64] at hx
    exact Nat.lt_of_mul_lt_mul_left hx
  have hneg : IntKind.u64.wrap (-((2 ^ l * M : Nat) : Int)) = ((18446744073709551616 - 2 ^ l * M : Nat) : Int) := by rw [u64w]; omega
  have hand : (2 ^ l * M) &&& (18446744073709551616 - 2 ^ l * M) = 2 ^ l := by
    rw [h64, ← Nat.mul_sub, and_mul_pow, and_neg_odd _ _ hM hML, Nat.mul_one]
  have hi : tzIdx ((2 ^ l * M : Nat) : Int) = ((2 ^ l * 285870213051353865 % 18446744073709551616 / 288230376151711744 : Nat) : Int) := by
    unfold tzIdx
    rw [hneg, and64 _ _ hx (by omega), hand]
    have e1 : ((2 ^ l : Nat) : Int) * 285870213051353865 = ((2 ^ l * 285870213051353865 : Nat) : Int) := by rw [Int.natCast_mul]; rfl
    rw [e1, u64n]
    exact ndiv _ 288230376151711744
  unfold bits_TrailingZeros64.f
  rw [if_neg (by omega), hi, Int.toNat_natCast, tz_pow l hl]
def masks (b e : Nat) : Nat × Nat := if b = 0 then (0, e) else (negm (fork (b - 1) e - 1) b, e % 2 ^ (fork (b - 1) e - 1))
theorem fork_pos {x e : Nat} (h : x < e) : 0 < fork x e := by
  rcases Nat.eq_zero_or_pos (fork x e) with h1 | h1
  · have := fork_eq x e
    rw [h1] at this; simp at this; omega
  · exact h1
theorem fork_below {x e : Nat} (h : x < e) : x / 2 ^ (fork x e - 1) + 1 = e / 2 ^ (fork x e - 1) := by
  have h1 := fork_pos h
  have h2 : ¬ fork x e ≤ fork x e - 1 := by omega
  rw [fork_le] at h2
  have h3 := fork_eq x e
  rw [show fork x e = fork x e - 1 + 1 by omega, Nat.pow_succ, ← Nat.div_div_eq_div_mul, ← Nat.div_div_eq_div_mul] at h3
  have h4 := Nat.div_le_div_right (c := 2 ^ (fork x e - 1)) (Nat.le_of_lt h)
  omega
theorem compact_Decompose.eq (b e : Nat) (h : b ≤ e) (he : e < 18446744073709551616) (k : Nat) : compact_Decompose.f (k + 1) (b : Int) (e : Int) = some (((masks b e).1 : Int), ((masks b e).2 : Int)) := by
  unfold compact_Decompose.f masks
  by_cases h0 : b = 0
  · rw [if_pos (by omega), if_pos h0]; rfl
  · have hx : (b - 1) ^^^ e < 18446744073709551616 := Nat.xor_lt_two_pow (n := 64) (by omega) (by omega)
    have hf := blen_lt64 hx
    have hp := fork_pos (x := b - 1) (e := e) (by omega)
    have hbel := fork_below (x := b - 1) (e := e) (by omega)
    have e1 : IntKind.u64.wrap ((b : Int) - 1) = ((b - 1 : Nat) : Int) := u64sub (a := b) (b := 1) (by omega) (by omega)
    rw [if_neg (by omega), if_neg h0, e1, xor64 _ _ (by omega) he, bits_Len64.eq _ _ hx]
    clear e1
    rw [show blen ((b - 1) ^^^ e) = fork (b - 1) e from rfl] at hf ⊢
    rw [Option.bind_some]
    generalize hd : fork (b - 1) e = D at *
    obtain ⟨d, rfl⟩ : ∃ d, D = d + 1 := ⟨D - 1, by omega⟩
    rw [Nat.add_sub_cancel] at *
    have hd2 := pow_lt64 (k := d) (by omega)
    have hdp := Nat.two_pow_pos d
    have hmd : (b - 1) % 2 ^ d < 2 ^ d := Nat.mod_lt _ hdp
    have hme : e % 2 ^ d < 2 ^ d := Nat.mod_lt _ hdp
    have hmask : (18446744073709551615 ^^^ (b - 1)) &&& (2 ^ d - 1) = negm d b := by
      rw [Nat.and_two_pow_sub_one_eq_mod, Nat.xor_mod_two_pow]
      have h1 : 18446744073709551615 % 2 ^ d = 2 ^ d - 1 := by
        have : (18446744073709551615 : Nat) = 2 ^ 64 - 1 := rfl
        rw [this]
        have h2 : 2 ^ 64 = 2 ^ d * 2 ^ (64 - d) := by rw [← Nat.pow_add, show d + (64 - d) = 64 by omega]
        have h3 := Nat.two_pow_pos (64 - d)
        obtain ⟨c, hc⟩ : ∃ c, 2 ^ (64 - d) = c + 1 := ⟨2 ^ (64 - d) - 1, by omega⟩
        rw [h2, hc, Nat.mul_add, Nat.mul_one, Nat.add_sub_assoc (by omega), Nat.mul_add_mod, Nat.mod_eq_of_lt (by omega)]
      rw [h1]
      have h4 : (2 ^ d - 1) ^^^ ((b - 1) % 2 ^ d) = 2 ^ d - ((b - 1) % 2 ^ d + 1) := by
        apply Nat.eq_of_testBit_eq
        intro i
        rw [Nat.testBit_xor, Nat.testBit_two_pow_sub_one, Nat.testBit_two_pow_sub_succ hmd, Nat.testBit_mod_two_pow]
        by_cases h5 : i < d <;> simp [h5]
      rw [h4]
      unfold negm
      have h6 : b % 2 ^ d = ((b - 1) % 2 ^ d + 1) % 2 ^ d := by
        have := Nat.add_mod (b - 1) 1 (2 ^ d)
        rw [show b - 1 + 1 = b by omega] at this
        rw [this, Nat.add_mod ((b - 1) % 2 ^ d) 1, Nat.mod_mod]
      rw [h6]
      by_cases h7 : (b - 1) % 2 ^ d + 1 = 2 ^ d
      · rw [h7, Nat.mod_self, Nat.sub_self, Nat.sub_zero, Nat.mod_self]
      · clear h6 h4 hbel
        generalize (b - 1) % 2 ^ d = r at *
        rw [Nat.mod_eq_of_lt (show r + 1 < 2 ^ d by omega), Nat.mod_eq_of_lt (show 2 ^ d - (r + 1) < 2 ^ d by omega)]
    have w1 : wrap64 (((d + 1 : Nat) : Int) - 1) = (d : Int) := by
      rw [show ((d + 1 : Nat) : Int) - 1 = (d : Int) by omega]; exact w64 (by omega)
    have w3 : IntKind.u64.wrap (((2 ^ d : Nat) : Int) - 1) = ((2 ^ d - 1 : Nat) : Int) := u64sub (a := 2 ^ d) (b := 1) hdp hd2
    have w4 : Go.bits .xor .u64 18446744073709551615 ((b - 1 : Nat) : Int) = ((18446744073709551615 ^^^ (b - 1) : Nat) : Int) := xor64 18446744073709551615 (b - 1) (by decide) (by omega)
    have hb1 : 18446744073709551615 ^^^ (b - 1) < 18446744073709551616 := Nat.xor_lt_two_pow (n := 64) (by decide) (by omega)
    have hm1 : 2 ^ d - 1 < 18446744073709551616 := by omega
    have hdd : d < 18446744073709551616 := by omega
    have hs := shl_one (k := d) (by omega)
    rw [w1, u64in hdd, if_pos (Int.natCast_nonneg d), hs, w3, w4, and64 _ _ hb1 hm1, and64 _ _ he hm1, hmask, Nat.and_two_pow_sub_one_eq_mod]
def inode (p : Nat × Nat) : S49 := ⟨(p.1 : Int), (p.2 : Int)⟩
end Go.Proofs.YtielnphmcaecdaaDoor.PAll
namespace Go.Proofs.YtielnphmcaecdaaDoor.PAll
open Go.RowKit Go.Proofs.YtielnphmcaecdaaDoor.Num Go.Proofs.YtielnphmcaecdaaDoor.Mth Go.Proofs.YtielnphmcaecdaaDoorW.PrintWords Go.Proofs.YtielnphmcaecdaaDoorW.PrintLast
theorem Nds_masks (b e : Nat) (h : b ≤ e) (h0 : 0 < b) : Nds 0 b e = Lft 0 (fork (b - 1) e - 1) b ++ RgtT (fork (b - 1) e - 1) e := by
  rw [Nds_parts (fork (b - 1) e - 1) 0 b e h0 (fork_below (by omega)), Rgt_eq]
theorem fork_64 {i n : Nat} (hi : i < 18446744073709551616) (hn : n < 18446744073709551616) : fork i n ≤ 64 := blen_lt64 (Nat.xor_lt_two_pow (n := 64) hi hn)
theorem compact_RangeSize.eq (b e : Nat) (h : b ≤ e) (he : e < 18446744073709551616) (k : Nat) : compact_RangeSize.f (k + 1) (b : Int) (e : Int) = some (((Nds 0 b e).length : Nat) : Int) := by
  unfold compact_RangeSize.f
  rw [compact_Decompose.eq b e h he, Option.bind_some]
  rcases Nat.eq_zero_or_pos b with h0 | h0
  · subst h0
    have h1 : (Nds 0 0 e).length = ones e := by rw [Nds_zero 64 0 e he, Rgt_eq, ones_RgtT, Nat.mod_eq_of_lt he]
    have h2 := ones_le e 64 he
    have e0 : bits_OnesCount64.f 0 = some 0 := by
      have := bits_OnesCount64.eq 0 (by decide)
      rw [ones_zero] at this; exact this
    rw [show masks 0 e = (0, e) from rfl, h1]
    show (bits_OnesCount64.f 0).bind _ = _
    rw [e0, Option.bind_some, bits_OnesCount64.eq e he, Option.bind_some, Int.zero_add, w64 (by omega)]
  · have hm : masks b e = (negm (fork (b - 1) e - 1) b, e % 2 ^ (fork (b - 1) e - 1)) := by unfold masks; rw [if_neg (by omega)]
    have hf := fork_64 (i := b - 1) (n := e) (by omega) he
    rw [hm, Nds_masks b e h h0, List.length_append, ones_Lft, ones_RgtT]
    generalize hd : fork (b - 1) e - 1 = d at *
    have hd63 : d ≤ 63 := by omega
    have h1 := pow_lt64 hd63
    have h2 : negm d b < 2 ^ d := Nat.mod_lt _ (Nat.two_pow_pos d)
    have h3 : e % 2 ^ d < 2 ^ d := Nat.mod_lt _ (Nat.two_pow_pos d)
    have h4 := ones_le _ _ h2
    have h5 := ones_le _ _ h3
    rw [bits_OnesCount64.eq _ (Nat.lt_trans h2 h1), Option.bind_some, bits_OnesCount64.eq _ (Nat.lt_trans h3 h1), Option.bind_some, w64_add _ _ (by omega)]
theorem level_loop (b e : Nat) (h : b < e) (he : e < 18446744073709551616) (out : List S49) (ho : out.length < 8796093022208) (d : Nat) : ∀ (j k : Nat), lev b e = j + d →
    spec_Nodes.l1 (k + d + 1) out (j : Int) (b : Int) (e : Int) = spec_Nodes.l0 k (out ++ [inode (lev b e, b / 2 ^ lev b e)]) ((b + 2 ^ lev b e : Nat) : Int) (e : Int) := by
  have hs := lev_spec b e h
  have hl := lev_lt h he
  induction d with
  | zero =>
    intro j k hj
    rw [Nat.add_zero] at hj
    have h2 := pow_lt64 (k := lev b e) (by omega)
    have hsr : shr .u64 (b : Int) (j : Int) = ((b / 2 ^ lev b e : Nat) : Int) := by rw [← hj]; exact shr64' b _ (by omega)
    have hs1 : shl .u64 1 (j : Int) = ((2 ^ lev b e : Nat) : Int) := by rw [← hj]; exact shl_one (by omega)
    have hadd := u64add (a := b) (b := 2 ^ lev b e) (by omega)
    have hand := and64 (b / 2 ^ lev b e) 1 (by have := Nat.div_le_self b (2 ^ lev b e); omega) (by decide)
    rw [show (1 : Nat) = 2 ^ 1 - 1 from rfl, Nat.and_two_pow_sub_one_eq_mod, Nat.pow_one] at hand
    have hfin : (if out.length < 8796093022208 then (spec_Nodes.l0 k (out ++ [(⟨(j : Int), shr .u64 (b : Int) (j : Int)⟩ : S49)]) (IntKind.u64.wrap ((b : Int) + (shl .u64 1 (j : Int)))) (e : Int)) else (none)) = spec_Nodes.l0 k (out ++ [inode (lev b e, b / 2 ^ lev b e)]) ((b + 2 ^ lev b e : Nat) : Int) (e : Int) := by
      rw [if_pos ho, hsr, hs1, hadd, ← hj]; rfl
    rw [Nat.add_zero, spec_Nodes.l1]
    by_cases h63 : j < 63
    · rw [if_pos (by omega), if_pos (Int.natCast_nonneg j)]
      by_cases hev : b / 2 ^ lev b e % 2 = 0
      · have h3 := hs.2.2 (by rw [Nat.pow_succ, Nat.mod_mul, hs.1, hev]; simp)
        have hw : IntKind.u64.wrap ((j : Int) + 1) = ((j + 1 : Nat) : Int) := u64add (a := j) (b := 1) (by omega)
        have hs2 : shl .u64 1 ((j + 1 : Nat) : Int) = ((2 ^ (lev b e + 1) : Nat) : Int) := by rw [← hj]; exact shl_one (by omega)
        have hsub := u64sub (a := e) (b := b) (by omega) he
        have hgt : ¬ ((2 ^ (lev b e + 1) : Nat) : Int) ≤ ((e - b : Nat) : Int) := by omega
        have hz : Go.bits .and .u64 (shr .u64 (b : Int) (j : Int)) 1 = 0 := by rw [hsr]; rw [hev] at hand; exact hand
        rw [if_pos hz, hw, if_pos (Int.natCast_nonneg _), hs2, hsub, if_neg hgt]
        exact hfin
      · have hz : ¬ Go.bits .and .u64 (shr .u64 (b : Int) (j : Int)) 1 = 0 := by
          rw [hsr]; intro h4
          have h5 : ((b / 2 ^ lev b e % 2 : Nat) : Int) = 0 := hand.symm.trans h4
          omega
        rw [if_neg hz]
        exact hfin
    · rw [if_neg (by omega), if_pos (Int.natCast_nonneg j)]
      exact hfin
  | succ d ih =>
    intro j k hj
    have hj63 : j < 63 := by omega
    have hdvd : b / 2 ^ j % 2 = 0 := by
      have h1 : b % 2 ^ (j + 1) = 0 := by
        have h2 : 2 ^ lev b e = 2 ^ (j + 1) * 2 ^ d := by rw [← Nat.pow_add, hj]; congr 1; omega
        have h3 := hs.1
        rw [h2] at h3
        have := Nat.mod_mul_right_mod b (2 ^ (j + 1)) (2 ^ d)
        rw [h3] at this; simpa using this.symm
      rw [Nat.pow_succ, Nat.mod_mul] at h1
      have hp := Nat.two_pow_pos j
      rcases Nat.mod_two_eq_zero_or_one (b / 2 ^ j) with h4 | h4
      · exact h4
      · rw [h4] at h1; omega
    have hle : 2 ^ (j + 1) ≤ e - b := by
      have h1 : 2 ^ (j + 1) ≤ 2 ^ lev b e := Nat.pow_le_pow_right (by decide) (by omega)
      omega
    have hsr : shr .u64 (b : Int) (j : Int) = ((b / 2 ^ j : Nat) : Int) := shr64' b j (by omega)
    have hand := and64 (b / 2 ^ j) 1 (by have := Nat.div_le_self b (2 ^ j); omega) (by decide)
    rw [show (1 : Nat) = 2 ^ 1 - 1 from rfl, Nat.and_two_pow_sub_one_eq_mod, Nat.pow_one, hdvd] at hand
    have hz : Go.bits .and .u64 (shr .u64 (b : Int) (j : Int)) 1 = 0 := by rw [hsr]; exact hand
    have hw : IntKind.u64.wrap ((j : Int) + 1) = ((j + 1 : Nat) : Int) := u64add (a := j) (b := 1) (by omega)
    have hs2 : shl .u64 1 ((j + 1 : Nat) : Int) = ((2 ^ (j + 1) : Nat) : Int) := shl_one (by omega)
    have hsub := u64sub (a := e) (b := b) (by omega) he
    have hgt : ((2 ^ (j + 1) : Nat) : Int) ≤ ((e - b : Nat) : Int) := by omega
    rw [show k + (d + 1) + 1 = (k + d + 1) + 1 by omega, spec_Nodes.l1, if_pos (by omega), if_pos (Int.natCast_nonneg j), if_pos hz, hw, if_pos (Int.natCast_nonneg _), hs2, hsub, if_pos hgt]
    exact ih (j + 1) k (by omega)
theorem nodes_loop (e : Nat) (he : e < 18446744073709551616) (m : Nat) : ∀ (b : Nat) (out : List S49) (K : Nat), (Nds 0 b e).length = m → out.length + m < 8796093022208 → 70 * m + 1 ≤ K → b ≤ e →
    spec_Nodes.l0 K out (b : Int) (e : Int) = some (out ++ (Nds 0 b e).map inode) := by
  induction m with
  | zero =>
    intro b out K hm ho hK hb
    obtain ⟨K, rfl⟩ : ∃ k, K = k + 1 := ⟨K - 1, by omega⟩
    have hge : e ≤ b := by
      rcases Nat.lt_or_ge b e with h | h
      · have := Nds_nonempty (l := 0) h; omega
      · exact h
    rw [spec_Nodes.l0, if_neg (by omega), Nds_empty hge]; simp
  | succ m ih =>
    intro b out K hm ho hK hb
    have hlt : b < e := by
      rcases Nat.lt_or_ge b e with h | h
      · exact h
      · rw [Nds_empty h] at hm; simp at hm
    have hl := lev_lt hlt he
    have hs := (lev_spec b e hlt).2.1
    have hst := Nds_step 0 b e hlt
    rw [Nat.zero_add] at hst
    have hlen : (Nds 0 (b + 2 ^ lev b e) e).length = m := by rw [hst] at hm; simpa using hm
    have h1 := level_loop b e hlt he out (by omega) (lev b e) 0 (K - 1 - lev b e - 1) (by omega)
    have h2 := ih (b + 2 ^ lev b e) (out ++ [inode (lev b e, b / 2 ^ lev b e)]) (K - 1 - lev b e - 1) hlen (by simp; omega) (by omega) hs
    rw [show K - 1 - lev b e - 1 + lev b e + 1 = K - 1 by omega] at h1
    obtain ⟨K, rfl⟩ : ∃ k, K = k + 1 := ⟨K - 1, by omega⟩
    rw [spec_Nodes.l0, if_pos (by omega)]
    rw [Nat.add_sub_cancel] at h1 h2
    rw [show (0 : Int) = ((0 : Nat) : Int) from rfl, h1, h2, hst, List.map_cons, List.append_assoc]; rfl
theorem spec_Nodes.eq (b e : Nat) (h : b ≤ e) (he : e < 18446744073709551616) (K : Nat) (hK : 9000 ≤ K) : spec_Nodes.f K (b : Int) (e : Int) = some ((Nds 0 b e).map inode) := by
  have hl := Nds_len 0 b e 64 he
  have := nodes_loop e he _ b [] K rfl (by simp; omega) (by omega) h
  unfold spec_Nodes.f
  rw [this, List.nil_append]
end Go.Proofs.YtielnphmcaecdaaDoor.PAll
namespace Go.Proofs.YtielnphmcaecdaaDoor.Mth
def sib (i l : Nat) : Nat × Nat := (l, if i / 2 ^ l % 2 = 0 then i / 2 ^ l + 1 else i / 2 ^ l - 1)
end Go.Proofs.YtielnphmcaecdaaDoor.Mth
namespace Go.Proofs.YtielnphmcaecdaaDoor.PAll
open Go.IntWalk Go.RowKit Go.Proofs.YtielnphmcaecdaaDoor.Num Go.Proofs.YtielnphmcaecdaaDoor.Mth Go.Proofs.YtielnphmcaecdaaDoorW.PrintWords Go.Proofs.YtielnphmcaecdaaDoorW.PrintLast Go.Proofs.YtielnphmcaecdaaDoorW.PrintMore
set_option linter.unusedVariables false
def ndM (i l n : Nat) : Nat := fork i (n / 2 ^ l) - 1
def ndB (i l n : Nat) : Nat := i / 2 ^ ndM i l n * 2 ^ (l + ndM i l n)
def ndE (i l n : Nat) : Nat := (i / 2 ^ ndM i l n + 1) * 2 ^ (l + ndM i l n)
def ndS (i l n : Nat) : List (Nat × Nat) := (List.range (ndM i l n)).map fun t => (l + t, (sib i t).2)
def ndIds (i l n : Nat) : List (Nat × Nat) := (l, i) :: (ndS i l n ++ (Nds 0 (ndE i l n) n).reverse ++ (Nds 0 0 (ndB i l n)).reverse)
def ndBegin (i l n : Nat) : Nat := if (Nds 0 (ndE i l n) n).length = 0 then 0 else 1 + ndM i l n
def ndEnd (i l n : Nat) : Nat := if (Nds 0 (ndE i l n) n).length = 0 then 0 else 1 + ndM i l n + (Nds 0 (ndE i l n) n).length
def ndEph (i l n : Nat) : Nat × Nat := (l + ndM i l n, (sib i (ndM i l n)).2)
def incIds (i n : Nat) : List (Nat × Nat) := ndS i 0 n ++ (Nds 0 (ndE i 0 n) n).reverse ++ (Nds 0 0 (ndB i 0 n)).reverse
def incBegin (i n : Nat) : Nat := if (Nds 0 (ndE i 0 n) n).length = 0 then 0 else ndM i 0 n
def incEnd (i n : Nat) : Nat := if (Nds 0 (ndE i 0 n) n).length = 0 then 0 else ndM i 0 n + (Nds 0 (ndE i 0 n) n).length
set_option maxHeartbeats 4000000 in
theorem errNew.calls (s : ByteArray) (w : World) : Calls Tryd.prog 88 #[.string s] w fun e w' => ∃ t a, e = .returned (.iface t (.pointer (some a))) ∧ Below w.heap.size w w' := by
  go_enter Tryd.func88, Tryd.ntmps88
  go_wp2
  go_ret
  exact ⟨_, _, rfl, by repeat (first | exact Below.refl _ _ | apply below_alloc | apply pw_below_drewN | apply below_drew1)⟩
def impl_Inclusion.f (_ : Nat) (a0 a1 : Int) : Option (List S49 × Int × Int × Int × Int × Bool) :=
  if a1 ≤ a0 then some ([], 0, 0, 0, 0, false)
  else if 0 ≤ a0 ∧ a1 < 18446744073709551616 then some ((incIds a0.toNat a1.toNat).map inode, ((ndEph a0.toNat 0 a1.toNat).1 : Int), ((ndEph a0.toNat 0 a1.toNat).2 : Int), (incBegin a0.toNat a1.toNat : Int), (incEnd a0.toNat a1.toNat : Int), true) else none
theorem impl_Inclusion.mono : ∀ a0 a1 k, LeO (impl_Inclusion.f k a0 a1) (impl_Inclusion.f (k + 1) a0 a1) := fun _ _ _ => LeO.refl _
end Go.Proofs.YtielnphmcaecdaaDoor.PAll
namespace Go.Proofs.YtielnphmcaecdaaDoor.PAll
open Go.IntWalk Go.RowKit Go.Proofs.YtielnphmcaecdaaDoorW.PrintWords Go.Proofs.YtielnphmcaecdaaDoorW.PrintLast Go.Proofs.YtielnphmcaecdaaDoorW.PrintMore
set_option linter.unusedVariables false
set_option linter.unusedSimpArgs false
theorem info92 : (Tryd.prog.info? 92).map (fun i => (i.zero, i.size, i.bytes)) = some (some (.agg #[.nilFunc]), 1, 8) := by kernel_rfl
theorem ptr_same (fq : Nat) (W : World) : (binOp BinOp.neq 88 (Value.pointer (some ⟨fq, 0, none⟩)) (Value.pointer (some ⟨fq, 0, none⟩))).run Tryd.prog W = .ok (.bool false) W := by
  have h : (binOp BinOp.neq 88 (Value.pointer (some ⟨fq, 0, none⟩)) (Value.pointer (some ⟨fq, 0, none⟩))) = (do pure (.bool (!(← Op.equal 88 (Value.pointer (some ⟨fq, 0, none⟩)) (Value.pointer (some ⟨fq, 0, none⟩)))))) := rfl
  have h2 : (Op.equal 88 (Value.pointer (some ⟨fq, 0, none⟩)) (Value.pointer (some ⟨fq, 0, none⟩))).run Tryd.prog W = .ok true W := by
    obtain ⟨i0, hi, hz0, hsz, hb⟩ := info_parts info92
    have hu := Tryd.underlying88
    unfold Op.equal
    rw [show Op.maxDepth = 9999 + 1 from rfl, Op.equalIn]
    simp [run_underlying hu, sizeOf, typeInfo, hi, hsz]
    simp [sameAddr]
  rw [h]
  simp [h2]
set_option maxHeartbeats 8000000 in
set_option maxRecDepth 100000 in
theorem appendRangeNo.calls (p px fq q : Nat) (b e b2 e2 : Int) (V V2 : Value) (w : World) (cell : w.heap[p]? = some (.cells #[.pointer (some ⟨fq, 0, none⟩), .int .u64 b, .int .u64 e, V] 148 (0, 0))) (cellx : w.heap[px]? = some (.cells #[.pointer (some ⟨fq, 0, none⟩), .int .u64 b2, .int .u64 e2, V2] 148 (0, 0))) (hne : b2 ≠ e) :
    Calls Tryd.prog 52 #[.pointer (some ⟨p, 0, none⟩), .pointer (some ⟨px, 0, none⟩), .func (.func 53) #[] #[.pointer (some ⟨q, 0, none⟩)]] w fun ex w' => (∃ t a, ex = .returned (.iface t (.pointer (some a)))) ∧ Below w.heap.size w w' := by
  have y0 : w.cell? ⟨p, 0, none⟩ = some (.pointer (some ⟨fq, 0, none⟩)) := blk_cell cell 0
  have y2 : w.cell? ⟨p, 2, none⟩ = some (.int .u64 e) := blk_cell cell 2
  have x0 : w.cell? ⟨px, 0, none⟩ = some (.pointer (some ⟨fq, 0, none⟩)) := blk_cell cellx 0
  have x1 : w.cell? ⟨px, 1, none⟩ = some (.int .u64 b2) := blk_cell cellx 1
  have g1 : (b2 != e) = true := by simp [hne]
  have hps := fun W => ptr_same fq W
  clear cell cellx
  go_enter Tryd.func52, Tryd.ntmps52
  go_wp2_with (fail)
  go_region_held_law (fun w' => w'.cell? ⟨p, 0, none⟩ = some (.pointer (some ⟨fq, 0, none⟩)) ∧ w'.cell? ⟨px, 0, none⟩ = some (.pointer (some ⟨fq, 0, none⟩))) (first | exact ⟨y0, x0⟩ | go_keep) (fail)
  go_wp2_with (fail)
  have y2' : w.drew.cell? ⟨p, 2, none⟩ = some (.int .u64 e) := y2
  have x1' : w.drew.cell? ⟨px, 1, none⟩ = some (.int .u64 b2) := x1
  go_region_held_law (fun w' => w'.cell? ⟨px, 1, none⟩ = some (.int .u64 b2) ∧ w'.cell? ⟨p, 2, none⟩ = some (.int .u64 e)) (first | exact ⟨x1, y2⟩ | go_keep) (fail)
  go_wp2_with (fail)
  refine (errNew.calls _ _).mono ?_
  rintro ex w1 ⟨t, a, rfl, hb⟩
  have HB := Aside0.mk (below_step (show Below w.heap.size w _ by repeat (first | exact Below.refl _ _ | apply Below.drew | apply below_drew | apply pw_below_drewN)) hb)
  clear hb
  dsimp only
  go_wp2
  go_ret
  exact ⟨⟨_, _, rfl⟩, HB.out⟩
set_option maxHeartbeats 8000000 in
set_option maxRecDepth 100000 in
theorem appendRangeNil.calls (p px fq q : Nat) (b e e2 : Int) (V : Value) (Ay : Option Addr) (cy : Nat) (w : World) (cell : w.heap[p]? = some (.cells #[.pointer (some ⟨fq, 0, none⟩), .int .u64 b, .int .u64 e, V] 148 (0, 0))) (cellx : w.heap[px]? = some (.cells #[.pointer (some ⟨fq, 0, none⟩), .int .u64 e, .int .u64 e2, .slice Ay 0 cy] 148 (0, 0))) :
    Calls Tryd.prog 52 #[.pointer (some ⟨p, 0, none⟩), .pointer (some ⟨px, 0, none⟩), .func (.func 53) #[] #[.pointer (some ⟨q, 0, none⟩)]] w fun ex w' => ex = .returned .nilIface ∧ ∃ m, w' = w.drewN m := by
  have y0 : w.cell? ⟨p, 0, none⟩ = some (.pointer (some ⟨fq, 0, none⟩)) := blk_cell cell 0
  have y2 : w.cell? ⟨p, 2, none⟩ = some (.int .u64 e) := blk_cell cell 2
  have x0 : w.cell? ⟨px, 0, none⟩ = some (.pointer (some ⟨fq, 0, none⟩)) := blk_cell cellx 0
  have x1 : w.cell? ⟨px, 1, none⟩ = some (.int .u64 e) := blk_cell cellx 1
  have x3 : w.cell? ⟨px, 3, none⟩ = some (.slice Ay 0 cy) := blk_cell cellx 3
  have hps := fun W => ptr_same fq W
  clear cell cellx
  go_enter Tryd.func52, Tryd.ntmps52
  go_wp2_with (fail)
  go_region_held_law (fun w' => w'.cell? ⟨p, 0, none⟩ = some (.pointer (some ⟨fq, 0, none⟩)) ∧ w'.cell? ⟨px, 0, none⟩ = some (.pointer (some ⟨fq, 0, none⟩))) (first | exact ⟨y0, x0⟩ | go_keep) (fail)
  go_wp2_with (fail)
  go_region_held_law (fun w' => w'.cell? ⟨px, 1, none⟩ = some (.int .u64 e) ∧ w'.cell? ⟨p, 2, none⟩ = some (.int .u64 e)) (first | exact ⟨x1, y2⟩ | go_keep) (fail)
  go_wp2
  go_ret
  exact ⟨rfl, 2, rfl⟩
set_option maxHeartbeats 8000000 in
set_option maxRecDepth 100000 in
theorem appendRangeYes.calls (p px fq q gy cy : Nat) (b e e2 : Int) (V : Value) (s0 : SH) (rr : List SH) (tb : Nat) (Ar : Option Addr) (w : World) (hG : Glob w) (cell : w.heap[p]? = some (.cells #[.pointer (some ⟨fq, 0, none⟩), .int .u64 b, .int .u64 e, V] 148 (0, 0))) (cellx : w.heap[px]? = some (.cells #[.pointer (some ⟨fq, 0, none⟩), .int .u64 e, .int .u64 e2, .slice (some ⟨gy, 0, none⟩) (rr.length + 1) cy] 148 (0, 0)))
    (Y : Rw w tb (.slice (some ⟨gy, 0, none⟩) (rr.length + 1) cy) (s0 :: rr)) (hAr : Ar = (if cy = 1 then (some ⟨gy, 0, none⟩ : Option Addr) else (some ⟨gy, 0, none⟩ : Option Addr).map (·.add (1 * 1)))) (R : Ending → World → Prop)
    (HA : ∀ m, Calls Tryd.prog 90 #[.pointer (some ⟨p, 0, none⟩), .int .u64 e2, shE s0, .slice Ar rr.length (cy - 1), .func (.func 53) #[] #[.pointer (some ⟨q, 0, none⟩)]] (w.drewN m) fun ex w' => ex = .returned .nilIface ∧ R ex w' ∧ w'.cell? ⟨px, 2, none⟩ = some (.int .u64 e2) ∧ w'.cell? ⟨px, 3, none⟩ = some (.slice (some ⟨gy, 0, none⟩) (rr.length + 1) cy) ∧ w'.cell? ⟨gy, 0, none⟩ = some (shE s0)) :
    Calls Tryd.prog 52 #[.pointer (some ⟨p, 0, none⟩), .pointer (some ⟨px, 0, none⟩), .func (.func 53) #[] #[.pointer (some ⟨q, 0, none⟩)]] w fun ex w' => ex = .returned .nilIface ∧ R ex w' := by
  have y0 : w.cell? ⟨p, 0, none⟩ = some (.pointer (some ⟨fq, 0, none⟩)) := blk_cell cell 0
  have y2 : w.cell? ⟨p, 2, none⟩ = some (.int .u64 e) := blk_cell cell 2
  have x0 : w.cell? ⟨px, 0, none⟩ = some (.pointer (some ⟨fq, 0, none⟩)) := blk_cell cellx 0
  have x1 : w.cell? ⟨px, 1, none⟩ = some (.int .u64 e) := blk_cell cellx 1
  have x2 : w.cell? ⟨px, 2, none⟩ = some (.int .u64 e2) := blk_cell cellx 2
  obtain ⟨L, hL⟩ : ∃ L, rr.length + 1 = L := ⟨_, rfl⟩
  have hRY := Kd.R_reads' Y
  obtain ⟨i0, hi0, _, hsz, _⟩ := info_parts info27
  have hcut := cut_from (P := Tryd.prog) 25 27 .i64 Tryd.underlying25 hi0 1 hsz (some ⟨gy, 0, none⟩) (rr.length + 1) cy (1 : Int) (by omega) (by omega)
  rw [show (1 : Int).toNat = 1 from rfl, ← hAr, Nat.add_sub_cancel, hL] at hcut
  have x3 : w.cell? ⟨px, 3, none⟩ = some (.slice (some ⟨gy, 0, none⟩) L cy) := by rw [← hL]; exact blk_cell cellx 3
  obtain ⟨As, ns, cs⟩ := s0
  have x4 : w.cell? ⟨gy, 0, none⟩ = some (.slice As ns cs) := (kSH_cell Y (i := 0) (x := (As, ns, cs)) rfl).1
  have hL0 : 0 < L := by omega
  have g1 : ((L : Int) == 0) = false := beq_eq_false_iff_ne.mpr (by omega)
  have g2 : (0 : Int) < (L : Int) := by omega
  have g3 : decide ((0 : Int) < (L : Int)) = true := decide_eq_true g2
  have g4 : decide (0 < L) = true := decide_eq_true hL0
  have hps := fun W => ptr_same fq W
  have HAA := Aside0.mk HA
  clear cell cellx hRY hi0 hsz HA hAr
  go_enter Tryd.func52, Tryd.ntmps52
  go_wp2_with (fail)
  go_region_held_law (fun w' => w'.cell? ⟨p, 0, none⟩ = some (.pointer (some ⟨fq, 0, none⟩)) ∧ w'.cell? ⟨px, 0, none⟩ = some (.pointer (some ⟨fq, 0, none⟩))) (first | exact ⟨y0, x0⟩ | go_keep) (fail)
  go_wp2_with (fail)
  go_region_held_law (fun w' => w'.cell? ⟨px, 1, none⟩ = some (.int .u64 e) ∧ w'.cell? ⟨p, 2, none⟩ = some (.int .u64 e)) (first | exact ⟨x1, y2⟩ | go_keep) (fail)
  go_wp2_with (fail)
  go_region_held_law (fun w' => w'.cell? ⟨px, 2, none⟩ = some (.int .u64 e2) ∧ w'.cell? ⟨px, 3, none⟩ = some (.slice (some ⟨gy, 0, none⟩) L cy) ∧ w'.cell? ⟨gy, 0, none⟩ = some (.slice As ns cs)) (first | exact ⟨y2_, y3_, y4_⟩ | exact ⟨x2, x3, x4⟩ | go_keep) (first
    | (go_simp; go_at_call 90
       refine (show Calls Tryd.prog 90 #[.pointer (some ⟨p, 0, none⟩), .int .u64 e2, .slice As ns cs, .slice Ar rr.length (cy - 1), .func (.func 53) #[] #[.pointer (some ⟨q, 0, none⟩)]] w.drew.drew.drew (fun ex w' => ex = .returned .nilIface ∧ R ex w' ∧ w'.cell? ⟨px, 2, none⟩ = some (.int .u64 e2) ∧ w'.cell? ⟨px, 3, none⟩ = some (.slice (some ⟨gy, 0, none⟩) (rr.length + 1) cy) ∧ w'.cell? ⟨gy, 0, none⟩ = some (.slice As ns cs)) from HAA.out 3).mono ?_
       rintro ex wq ⟨rfl, hr, h2, h3, h4⟩
       have HR := Aside0.mk hr
       have y2_ := h2
       have y3_ : wq.cell? ⟨px, 3, none⟩ = some (.slice (some ⟨gy, 0, none⟩) L cy) := by rw [← hL]; exact h3
       have y4_ := h4
       clear hr h2 h3 h4)
    | fail)
  go_wp2
  go_ret
  exact ⟨rfl, HR.out⟩
end Go.Proofs.YtielnphmcaecdaaDoor.PAll
namespace Go.Proofs.YtielnphmcaecdaaDoor.PAll
open Go.IntWalk Go.RowKit Go.Proofs.YtielnphmcaecdaaDoorW.PrintWords Go.Proofs.YtielnphmcaecdaaDoorW.PrintLast Go.Proofs.YtielnphmcaecdaaDoorW.PrintMore
set_option linter.unusedVariables false
set_option linter.unusedSimpArgs false
def visR (lv : Nat → Nat) (ix : Nat → Int) (s : Nat → List Int) (m : Nat) : List S51 := (List.range m).map fun i => ⟨⟨((lv i + 1 : Nat) : Int), ix i⟩, s (i + 1)⟩
end Go.Proofs.YtielnphmcaecdaaDoor.PAll
namespace Go.Proofs.YtielnphmcaecdaaDoor.Hsh
open Go.RowKit Go.Proofs.YtielnphmcaecdaaDoor.Num Go.Proofs.YtielnphmcaecdaaDoor.PAll Go.Proofs.YtielnphmcaecdaaDoorW.PrintWords Go.Proofs.YtielnphmcaecdaaDoorW.PrintLast
set_option linter.unusedVariables false
theorem lift {α : Type} {F : Nat → Option α} (hm : ∀ k, LeO (F k) (F (k + 1))) {k : Nat} {r : α} (h : F k = some r) : ∀ {K : Nat}, k ≤ K → F K = some r := by
  intro K hK
  obtain ⟨d, rfl⟩ := Nat.exists_eq_add_of_le hK
  clear hK
  induction d with
  | zero => exact h
  | succ d ih => exact hm _ _ ih
theorem next64 {i : Nat} (h : i < 9223372036854775807) : wrap64 ((i : Int) + 1) = ((i + 1 : Nat) : Int) := by unfold wrap64; omega
theorem drop_rd1 {l : List Int} {i : Nat} (h : i < l.length) : l.drop i = rd l (i : Int) :: l.drop (i + 1) := by
  rw [List.drop_eq_getElem_cons h]
  congr 1
  show _ = l.getD i 0
  rw [List.getD_eq_getElem?_getD, List.getElem?_eq_getElem h]; rfl
def step (x b : Int) : Int := IntKind.u64.wrap ((Go.bits .xor .u64 x (IntKind.u64.wrap b)) * 1099511628211)
def mix (x : Int) (l : List Int) : Int := l.foldl step x
theorem impl_mixed_loop (l : List Int) (hl : l.length < 9223372036854775807) (d : Nat) : ∀ i x, i + d = l.length →
    impl_mixed.l0 (d + 1) x l (l.length : Int) (i : Int) = some (mix x (l.drop i)) := by
  induction d with
  | zero => intro i x hi; rw [impl_mixed.l0, if_neg (by omega), List.drop_of_length_le (by omega)]; rfl
  | succ d ih =>
    intro i x hi
    rw [impl_mixed.l0, if_pos (by omega), if_pos (by omega), if_pos (by omega), next64 (by omega), ih (i + 1) _ (by omega), drop_rd1 (show i < l.length by omega)]
    rfl
theorem impl_mixed_eq (l : List Int) (x : Int) (hl : l.length < 9223372036854775807) {k : Nat} (hk : l.length < k) : impl_mixed.f k x l = some (mix x l) :=
  lift (fun k => impl_mixed.mono x l k) (impl_mixed_loop l hl l.length 0 x (by omega)) hk
def byt (w : Int) (i : Nat) : Int := shr .u64 w ((8 * i : Nat) : Int) % 256
def wrd (w : Int) : Nat → List Int
  | 0 => []
  | n + 1 => byt w n :: wrd w n
theorem wrd_length (w : Int) : ∀ n, (wrd w n).length = n
  | 0 => rfl
  | n + 1 => by rw [wrd, List.length_cons, wrd_length w n]
theorem eight {i : Nat} (h : i ≤ 8) : wrap64 (8 * (i : Int)) = ((8 * i : Nat) : Int) := by unfold wrap64; omega
theorem set_at (d : Nat) (b : Int) (l : List Int) : (List.replicate (d + 1) 0 ++ l).set d b = List.replicate d 0 ++ (b :: l) := by
  induction d with
  | zero => rfl
  | succ d ih => rw [List.replicate_succ, List.cons_append, List.set_cons_succ, ih, List.replicate_succ, List.cons_append]
theorem impl_word_loop (w : Int) (n : Nat) (hn : n ≤ 8) (d : Nat) : ∀ i, i + d = n →
    impl_word.l0 (d + 1) w (n : Int) (List.replicate d 0 ++ wrd w i) (n : Int) (i : Int) = some (wrd w n) := by
  induction d with
  | zero =>
    intro i hi
    have e : i = n := by omega
    rw [impl_word.l0, if_neg (by omega), e]; rfl
  | succ d ih =>
    intro i hi
    have e1 : wrap64 (wrap64 ((n : Int) - 1) - (i : Int)) = (d : Int) := by unfold wrap64; omega
    rw [impl_word.l0, if_pos (by omega), eight (by omega), if_pos (by omega), e1, if_pos (by omega), if_pos (by rw [List.length_append, List.length_replicate]; omega), next64 (by omega), Int.toNat_natCast, set_at]
    exact ih (i + 1) (by omega)
def nb (a : Int) : Nat := if a < 1 ∨ a > 8 then 8 else a.toNat
theorem nb_le (a : Int) : nb a ≤ 8 := by unfold nb; split <;> omega
theorem impl_word_j1 (w : Int) (n : Nat) (hn : n ≤ 8) (k : Nat) (hk : 10 ≤ k) : impl_word.j1 k w (n : Int) = some (wrd w n) := by
  obtain ⟨k, rfl⟩ : ∃ k', k = k' + 1 := ⟨k - 1, by omega⟩
  rw [impl_word.j1, if_pos (by omega), if_pos (by rw [Int.toNat_natCast]; omega), Option.bind_some, List.length_replicate, Int.toNat_natCast]
  refine lift (F := fun k => impl_word.l0 k w (n : Int) (List.replicate n 0) (n : Int) 0) (fun k => (impl_word.mono_l k).2.2 _ _ _ _ _) (k := n + 1) ?_ (by omega)
  have := impl_word_loop w n hn n 0 (by omega)
  rw [wrd, List.append_nil] at this
  exact this
theorem impl_word_eq (w a : Int) {k : Nat} (hk : 20 ≤ k) : impl_word.f k w a = some (wrd w (nb a)) := by
  obtain ⟨k, rfl⟩ : ∃ k', k = k' + 1 := ⟨k - 1, by omega⟩
  unfold impl_word.f
  by_cases h : a < 1
  · rw [if_pos h, impl_word.j0, if_pos rfl, show nb a = 8 by unfold nb; rw [if_pos (.inl h)]]
    exact impl_word_j1 w 8 (by omega) k (by omega)
  · rw [if_neg h, impl_word.j0]
    by_cases h2 : a > 8
    · rw [if_pos (decide_eq_true h2), show nb a = 8 by unfold nb; rw [if_pos (.inr h2)]]
      exact impl_word_j1 w 8 (by omega) k (by omega)
    · rw [if_neg (by rw [decide_eq_false h2]; decide)]
      have e : a = ((nb a : Nat) : Int) := by unfold nb; rw [if_neg (by omega)]; omega
      have := impl_word_j1 w (nb a) (nb_le a) k (by omega)
      rw [← e] at this; exact this
theorem spec_word_l1 (x : Int) : ∀ (j : Nat) (acc : List Int), j ≤ 8 → acc.length + j ≤ 100 → spec_word.l1 (j + 1) x acc ((j : Int) - 1) = some (acc ++ wrd x j)
  | 0, acc, _, _ => by rw [spec_word.l1, if_neg (by omega), wrd, List.append_nil]
  | j + 1, acc, hj, ha => by
    have e : ((j + 1 : Nat) : Int) - 1 = (j : Int) := by omega
    have e2 : wrap64 ((j : Int) - 1) = (j : Int) - 1 := by unfold wrap64; omega
    rw [spec_word.l1, e, if_pos (by omega), eight (by omega), if_pos (by omega), if_pos (by omega), e2, spec_word_l1 x j _ (by omega) (by rw [List.length_append]; simp only [List.length_singleton]; omega), wrd, List.append_assoc]
    rfl
theorem spec_word_j2 (x : Int) (n : Nat) (hn : n ≤ 8) (k : Nat) (hk : 10 ≤ k) : spec_word.j2 k x (n : Int) = some (wrd x n) := by
  obtain ⟨k, rfl⟩ : ∃ k', k = k' + 1 := ⟨k - 1, by omega⟩
  have e : wrap64 ((n : Int) - 1) = (n : Int) - 1 := by unfold wrap64; omega
  rw [spec_word.j2, e]
  exact lift (F := fun k => spec_word.l1 k x [] ((n : Int) - 1)) (fun k => (spec_word.mono_l k).2.2.2 _ _ _) (spec_word_l1 x n [] hn (by simp only [List.length_nil]; omega)) (by omega)
theorem spec_word_end (x a : Int) (k : Nat) (hk : 20 ≤ k) : (if a < 1 then (spec_word.j1 k x a true) else (spec_word.j1 k x a (decide (a > 8)))) = some (wrd x (nb a)) := by
  obtain ⟨k, rfl⟩ : ∃ k', k = k' + 1 := ⟨k - 1, by omega⟩
  by_cases h : a < 1
  · rw [if_pos h, spec_word.j1, if_pos rfl, show nb a = 8 by unfold nb; rw [if_pos (.inl h)]]
    exact spec_word_j2 x 8 (by omega) k (by omega)
  · rw [if_neg h, spec_word.j1]
    by_cases h2 : a > 8
    · rw [if_pos (decide_eq_true h2), show nb a = 8 by unfold nb; rw [if_pos (.inr h2)]]
      exact spec_word_j2 x 8 (by omega) k (by omega)
    · rw [if_neg (by rw [decide_eq_false h2]; decide)]
      have e : a = ((nb a : Nat) : Int) := by unfold nb; rw [if_neg (by omega)]; omega
      have := spec_word_j2 x (nb a) (nb_le a) k (by omega)
      rw [← e] at this; exact this
theorem spec_word_loop (l : List Int) (hl : l.length < 9223372036854775807) (a0 a1 a2 a3 a4 a5 : Int) (d : Nat) : ∀ i x, i + d = l.length →
    spec_word.l0 (d + 21) x l (l.length : Int) (i : Int) a0 a1 a2 a3 a4 a5 = some (wrd (mix x (l.drop i)) (nb a2)) := by
  induction d with
  | zero =>
    intro i x hi
    rw [spec_word.l0, if_neg (by omega), List.drop_of_length_le (by omega)]
    exact spec_word_end x a2 20 (by omega)
  | succ d ih =>
    intro i x hi
    rw [show d + 1 + 21 = (d + 21) + 1 by omega, spec_word.l0, if_pos (by omega), if_pos (by omega), if_pos (by omega), next64 (by omega), ih (i + 1) _ (by omega), drop_rd1 (show i < l.length by omega)]
    rfl
theorem spec_word_eq (a0 a1 a2 a3 a4 a5 x : Int) (l : List Int) (hl : l.length < 9223372036854775807) {k : Nat} (hk : l.length + 21 ≤ k) :
    spec_word.f k a0 a1 a2 a3 a4 a5 x l = some (wrd (mix x l) (nb a2)) :=
  lift (fun k => spec_word.mono a0 a1 a2 a3 a4 a5 x l k) (spec_word_loop l hl a0 a1 a2 a3 a4 a5 l.length 0 x (by omega)) hk
def hash (a0 a2 a5 : Int) (l r : List Int) : List Int :=
  if a0 = 1 then wrd (mix (mix (mix a5 l) [255]) r) (nb a2) else [1] ++ wrd (IntKind.u64.wrap (l.length : Int)) 8 ++ l ++ r
theorem hash_le (a0 a2 a5 : Int) (l r : List Int) : (hash a0 a2 a5 l r).length ≤ 9 + l.length + r.length := by
  unfold hash
  have := nb_le a2
  split
  · rw [wrd_length]; omega
  · simp only [List.length_append, wrd_length, List.length_singleton]; omega
theorem impl_hash (a0 a1 a2 a3 a4 a5 : Int) (l r : List Int) (hl : l.length ≤ 1000000000000) (hr : r.length ≤ 1000000000000) {k : Nat} (hk : l.length + r.length + 30 ≤ k) :
    impl_toy_HashChildren.f k a0 a1 a2 a3 a4 a5 l r = some (hash a0 a2 a5 l r) := by
  unfold impl_toy_HashChildren.f hash
  by_cases h : a0 = 1
  · rw [if_pos h, if_pos h, impl_mixed_eq l a5 (by omega) (by omega), Option.bind_some, impl_mixed_eq _ _ (by simp only [List.length_singleton]; omega) (by simp only [List.length_singleton]; omega), Option.bind_some, impl_mixed_eq _ _ (by omega) (by omega), Option.bind_some, impl_word_eq _ _ (by omega), Option.bind_some]
  · rw [if_neg h, if_neg h, Option.bind_some, impl_word_eq _ _ (by omega), Option.bind_some]
    have e : nb 8 = 8 := by decide
    rw [e, if_pos (by simp only [List.length_singleton, wrd_length]; omega), Option.bind_some, if_pos (by simp only [List.length_append, List.length_singleton, wrd_length]; omega), Option.bind_some, if_pos (by simp only [List.length_append, List.length_singleton, wrd_length]; omega)]
theorem spec_hash_loop (l r : List Int) (hl : l.length ≤ 1000000000000) (hr : r.length ≤ 1000000000000) : ∀ (j : Nat) (acc : List Int), j ≤ 8 → acc.length + j ≤ 100 →
    spec_HashChildren.l0 (j + 1) l r acc (8 * (j : Int) - 8) = some (acc ++ wrd (IntKind.u64.wrap (l.length : Int)) j ++ l ++ r)
  | 0, acc, _, ha => by
    rw [spec_HashChildren.l0, if_neg (by omega), if_pos (by omega), Option.bind_some, if_pos (by rw [List.length_append]; omega), wrd, List.append_nil]
  | j + 1, acc, hj, ha => by
    have e : 8 * ((j + 1 : Nat) : Int) - 8 = ((8 * j : Nat) : Int) := by omega
    have e2 : wrap64 (((8 * j : Nat) : Int) - 8) = 8 * (j : Int) - 8 := by unfold wrap64; omega
    rw [spec_HashChildren.l0, e, if_pos (by omega), if_pos (by omega), Option.bind_some, if_pos (by simp only [List.length_singleton]; omega), e2, spec_hash_loop l r hl hr j _ (by omega) (by rw [List.length_append]; simp only [List.length_singleton]; omega), wrd]
    show _ = some (acc ++ ([byt _ j] ++ wrd _ j) ++ l ++ r)
    rw [List.append_assoc acc]
    rfl
theorem spec_hash (a0 a1 a2 a3 a4 a5 : Int) (l r : List Int) (hl : l.length ≤ 1000000000000) (hr : r.length ≤ 1000000000000) {k : Nat} (hk : l.length + r.length + 30 ≤ k) :
    spec_HashChildren.f k a0 a1 a2 a3 a4 a5 l r = some (hash a0 a2 a5 l r) := by
  unfold spec_HashChildren.f spec_Terms.f hash
  rw [Option.bind_some]
  by_cases h : a0 = 1
  · rw [if_neg (by subst h; decide), if_pos h, Option.bind_some, if_pos (by simp only [List.length_nil]; omega), Option.bind_some, Option.bind_some, List.nil_append, if_pos (by simp only [List.length_singleton]; omega), Option.bind_some, if_pos (by simp only [List.length_append, List.length_singleton]; omega), spec_word_eq _ _ _ _ _ _ _ _ (by simp only [List.length_append, List.length_singleton]; omega) (by simp only [List.length_append, List.length_singleton]; omega), Option.bind_some]
    unfold mix
    rw [List.foldl_append, List.foldl_append]
  · rw [if_pos (by exact bne_iff_ne.mpr h), if_neg h]
    exact lift (F := fun k => spec_HashChildren.l0 k l r [1] 56) (fun k => spec_HashChildren.mono_l k _ _ _ _) (spec_hash_loop l r hl hr 8 [1] (by omega) (by simp only [List.length_singleton]; omega)) (by omega)
end Go.Proofs.YtielnphmcaecdaaDoor.Hsh
namespace Go.Proofs.YtielnphmcaecdaaDoor.Hsh
open Go.RowKit Go.Proofs.YtielnphmcaecdaaDoor.Num Go.Proofs.YtielnphmcaecdaaDoor.PAll Go.Proofs.YtielnphmcaecdaaDoorW.PrintWords Go.Proofs.YtielnphmcaecdaaDoorW.PrintLast
set_option linter.unusedVariables false
theorem rdL (l : List (List Int)) (i : Nat) : rd_L1 l (i : Int) = l.getD i [] := rfl
theorem take_at {α : Type} (l : List α) (i : Nat) (d : α) (h : i < l.length) : l.take (i + 1) = l.take i ++ [l.getD i d] := by
  rw [List.getD_eq_getElem?_getD, List.getElem?_eq_getElem h, Option.getD_some, List.take_succ_eq_append_getElem h]
theorem fits_loop (l : List (List Int)) (hl : l.length ≤ 2147483647) (d : Nat) : ∀ i, i + d = l.length → (∀ j, j < i → (l.getD j []).length ≤ 2147483647) →
    ∃ z, laws_zzFits2.l0 (d + 1) l (l.length : Int) (i : Int) = some z ∧ (z = true → ∀ j, j < l.length → (l.getD j []).length ≤ 2147483647) := by
  induction d with
  | zero =>
    intro i hi hj
    exact ⟨true, by rw [laws_zzFits2.l0, if_neg (by omega)], fun _ j h => hj j (by omega)⟩
  | succ d ih =>
    intro i hi hj
    rw [laws_zzFits2.l0, if_pos (by omega), if_pos (by omega), if_pos (by omega), rdL]
    by_cases h : ((l.getD i []).length : Int) > 2147483647
    · rw [if_pos h]; exact ⟨false, rfl, fun h => by cases h⟩
    · rw [if_neg h, next64 (by omega)]
      exact ih (i + 1) (by omega) (fun j h2 => by
        by_cases e : j = i
        · subst e; omega
        · exact hj j (by omega))
theorem fits (l : List (List Int)) : ∃ z k, laws_zzFits2.f k l = some z ∧ (z = true → l.length ≤ 2147483647 ∧ ∀ j, j < l.length → (l.getD j []).length ≤ 2147483647) := by
  by_cases h : (l.length : Int) > 2147483647
  · exact ⟨false, 0, by unfold laws_zzFits2.f; rw [if_pos h], fun h => by cases h⟩
  · obtain ⟨z, hz, hb⟩ := fits_loop l (by omega) l.length 0 (by omega) (fun j h => absurd h (by omega))
    exact ⟨z, l.length + 1, by unfold laws_zzFits2.f; rw [if_neg h]; exact hz, fun e => ⟨by omega, hb e⟩⟩
theorem small_loop (l : List (List Int)) (hl : l.length ≤ 2147483647) (d : Nat) : ∀ i, i + d = l.length → (∀ j, j < i → (l.getD j []).length ≤ 5000) →
    ∃ z, laws_logSmall.l0 (d + 1) l l (l.length : Int) (i : Int) = some z ∧ (z = true → l.length ≤ 300 ∧ ∀ j, j < l.length → (l.getD j []).length ≤ 5000) := by
  induction d with
  | zero =>
    intro i hi hj
    exact ⟨decide ((l.length : Int) ≤ 300), by rw [laws_logSmall.l0, if_neg (by omega)], fun h => ⟨by have := of_decide_eq_true h; omega, fun j h => hj j (by omega)⟩⟩
  | succ d ih =>
    intro i hi hj
    rw [laws_logSmall.l0, if_pos (by omega), if_pos (by omega), if_pos (by omega), rdL]
    by_cases h : ((l.getD i []).length : Int) > 5000
    · rw [if_pos h]; exact ⟨false, rfl, fun h => by cases h⟩
    · rw [if_neg h, next64 (by omega)]
      exact ih (i + 1) (by omega) (fun j h2 => by
        by_cases e : j = i
        · subst e; omega
        · exact hj j (by omega))
theorem small (l : List (List Int)) (hl : l.length ≤ 2147483647) : ∃ z, laws_logSmall.f (l.length + 1) l = some z ∧ (z = true → l.length ≤ 300 ∧ ∀ j, j < l.length → (l.getD j []).length ≤ 5000) :=
  small_loop l hl l.length 0 (by omega) (fun j h => absurd h (by omega))
theorem texts_loop (l : List (List Int)) (hl : l.length ≤ 2147483647) (hb : ∀ j, j < l.length → (l.getD j []).length ≤ 2147483647) (d : Nat) : ∀ i, i + d = l.length →
    impl_texts.l0 (d + 1) (l.take i) l (l.length : Int) (i : Int) = some l := by
  induction d with
  | zero =>
    intro i hi
    rw [impl_texts.l0, if_neg (by omega), List.take_of_length_le (by omega)]
  | succ d ih =>
    intro i hi
    have h1 := hb i (by omega)
    have h2 : (l.take i).length < 5864062014805 := by rw [List.length_take]; omega
    rw [impl_texts.l0, if_pos (by omega), if_pos (by omega), if_pos (by omega), Option.bind_some, if_pos (by rw [rdL]; simp only [List.length_nil]; omega), if_pos h2, next64 (by omega), List.nil_append, rdL, ← take_at l i [] (by omega)]
    exact ih (i + 1) (by omega)
theorem texts_eq (l : List (List Int)) (hl : l.length ≤ 2147483647) (hb : ∀ j, j < l.length → (l.getD j []).length ≤ 2147483647) {k : Nat} (hk : l.length < k) : impl_texts.f k l = some l :=
  lift (fun k => impl_texts.mono l k) (texts_loop l hl hb l.length 0 (by omega)) hk
end Go.Proofs.YtielnphmcaecdaaDoor.Hsh
namespace Go.Proofs.YtielnphmcaecdaaDoor.PAll
open Go.IntWalk Go.RowKit Go.Proofs.YtielnphmcaecdaaDoor.Num Go.Proofs.YtielnphmcaecdaaDoor.Mth Go.Proofs.YtielnphmcaecdaaDoorW.PrintWords Go.Proofs.YtielnphmcaecdaaDoorW.PrintLast Go.Proofs.YtielnphmcaecdaaDoorW.PrintMore
set_option linter.unusedVariables false
set_option linter.unusedSimpArgs false
def tones (E : Nat) : Nat := lev (E + 1) (2 * (E + 1))
def tzn (E : Nat) : Nat := lev E (2 * E)
def mseed (F : List Int → List Int → Option (List Int)) (xs : List (List Int)) (x : List Int) : Nat → Option (List Int)
  | 0 => some x
  | t + 1 => (mseed F xs x t).bind fun s => F (xs.getD (xs.length - 1 - t) []) s
theorem mseed_some {F : List Int → List Int → Option (List Int)} {xs : List (List Int)} {x : List Int} : ∀ (T : Nat) (r : List Int), mseed F xs x T = some r → ∀ t, t ≤ T → ∃ s, mseed F xs x t = some s
  | 0, r, h, t, ht => by
    obtain rfl : t = 0 := by omega
    exact ⟨r, h⟩
  | T + 1, r, h, t, ht => by
    by_cases e : t = T + 1
    · subst e; exact ⟨r, h⟩
    · rw [mseed] at h
      obtain ⟨s, hs, _⟩ := Option.bind_eq_some_iff.mp h
      exact mseed_some T s hs t (by omega)
def sdsOf (F : List Int → List Int → Option (List Int)) (xs : List (List Int)) (x : List Int) (t : Nat) : List Int := (mseed F xs x t).getD []
theorem mseed_of {F : List Int → List Int → Option (List Int)} {xs : List (List Int)} {x : List Int} {T : Nat} {r : List Int} (h : mseed F xs x T = some r) {t : Nat} (ht : t ≤ T) : mseed F xs x t = some (sdsOf F xs x t) := by
  obtain ⟨s, hs⟩ := mseed_some T r h t ht
  unfold sdsOf
  rw [hs]; rfl
def mpOk (k E : Nat) : Bool := decide (compact_getMergePath.f k 0 (E : Int) ((E + 1 : Nat) : Int) = some (if E = 0 then ((64 : Int), (63 : Int)) else (((if tones E = 0 then tzn E else 0 : Nat) : Int), ((if tones E = 0 then tzn E else tones E : Nat) : Int)))) &&
  decide (bits_OnesCount64.f (Go.bits .and .u64 ((E : Int) / 2 ^ min (if tones E = 0 then tzn E else 0) 64) (IntKind.u64.wrap (IntKind.u64.wrap (2 ^ min (tones E) 64) - 1))) = some (tones E : Int)) && decide (E = 0 → bits_OnesCount64.f (Go.bits .and .u64 ((E : Int) / 2 ^ min 64 64) 0) = some 0) && decide ((if tones E = 0 then tzn E else 0) + tones E ≤ 64)
def stepOk (F : List Int → List Int → Option (List Int)) (k E : Nat) (xs : List (List Int)) (x : List Int) (nv : Nat) : Bool :=
  mpOk k E && (decide (tones E ≤ xs.length) && (decide (xs.length < 1099511627776) && (decide (nv + 65 < 1099511627776) && (List.range (tones E + 1)).all fun t => decide ((sdsOf F xs x t).length ≤ 140737488355328))))
def stepV (F : List Int → List Int → Option (List Int)) (E : Nat) (xs : List (List Int)) (x : List Int) : List S51 := ⟨⟨0, (E : Int)⟩, x⟩ :: visA 0 (fun t => ((E / 2 ^ t : Nat) : Int)) (sdsOf F xs x) (tones E)
def stepApp (F : List Int → List Int → Option (List Int)) (k E : Nat) (xs : List (List Int)) (x : List Int) (nv : Nat) : Option (List (List Int) × List S51) :=
  (mseed F xs x (tones E)).bind fun s => if stepOk F k E xs x nv = true then some (xs.take (xs.length - tones E) ++ [s], stepV F E xs x) else none
def appAll (F : List Int → List Int → Option (List Int)) (k : Nat) : Nat → List (List Int) → List S51 → List (List Int) → Option (List (List Int) × List S51)
  | _, xs, vs, [] => some (xs, vs)
  | E, xs, vs, x :: l => (stepApp F k E xs x vs.length).bind fun p => appAll F k (E + 1) p.1 (vs ++ p.2) l
theorem mseed_mono {F F' : List Int → List Int → Option (List Int)} (h : ∀ a b, LeO (F a b) (F' a b)) (xs : List (List Int)) (x : List Int) : ∀ t, LeO (mseed F xs x t) (mseed F' xs x t)
  | 0 => LeO.refl _
  | t + 1 => LeO.bind (mseed_mono h xs x t) (fun s => h _ s)
theorem mpOk_mono {k E : Nat} (h : mpOk k E = true) : mpOk (k + 1) E = true := by
  unfold mpOk at h ⊢
  simp only [Bool.and_eq_true, decide_eq_true_eq] at h ⊢
  obtain ⟨⟨⟨h1, h2⟩, h3⟩, h4⟩ := h
  exact ⟨⟨⟨compact_getMergePath.mono _ _ _ _ _ h1, h2⟩, h3⟩, h4⟩
theorem stepApp_mono {F F' : List Int → List Int → Option (List Int)} (h : ∀ a b, LeO (F a b) (F' a b)) (k E : Nat) (xs : List (List Int)) (x : List Int) (nv : Nat) : LeO (stepApp F k E xs x nv) (stepApp F' (k + 1) E xs x nv) := by
  intro r hr
  unfold stepApp at hr ⊢
  obtain ⟨s, hs, hr⟩ := Option.bind_eq_some_iff.mp hr
  have e : ∀ t, t ≤ tones E → sdsOf F' xs x t = sdsOf F xs x t := fun t ht => by
    have h1 := mseed_of hs ht
    have h2 := mseed_mono h xs x t _ h1
    unfold sdsOf at h2 ⊢
    rw [h2]; rfl
  by_cases hok : stepOk F k E xs x nv = true
  case neg => rw [if_neg hok] at hr; cases hr
  rw [if_pos hok] at hr
  have hok' : stepOk F' (k + 1) E xs x nv = true := by
    unfold stepOk at hok ⊢
    simp only [Bool.and_eq_true] at hok ⊢
    refine ⟨mpOk_mono hok.1, hok.2.1, hok.2.2.1, hok.2.2.2.1, ?_⟩
    have := hok.2.2.2.2
    refine List.all_eq_true.mpr (fun t ht => ?_)
    rw [e t (by have := List.mem_range.mp ht; omega)]
    exact List.all_eq_true.mp this t ht
  have hv : stepV F' E xs x = stepV F E xs x := by
    unfold stepV visA
    congr 1
    refine List.map_congr_left (fun t ht => ?_)
    rw [e (t + 1) (by have := List.mem_range.mp ht; omega)]
  rw [mseed_mono h xs x _ _ hs, Option.bind_some, if_pos hok', hv]
  exact hr
theorem appAll_mono {F F' : List Int → List Int → Option (List Int)} (h : ∀ a b, LeO (F a b) (F' a b)) (k : Nat) : ∀ (l : List (List Int)) (E : Nat) (xs : List (List Int)) (vs : List S51), LeO (appAll F k E xs vs l) (appAll F' (k + 1) E xs vs l)
  | [], _, _, _ => LeO.refl _
  | x :: l, E, xs, vs => LeO.bind (stepApp_mono h k E xs x _) (fun p => appAll_mono h k l (E + 1) p.1 (vs ++ p.2))
def impl_Append.f (k : Nat) (a0 a1 a2 a3 a4 a5 b e : Int) (hs l : List (List Int)) : Option (Int × Int × List (List Int) × List S51 × Bool) :=
  if b = 0 ∧ 0 ≤ e ∧ e + (l.length : Int) < 4611686018427387904 ∧ compact_RangeSize.f k b e = some (hs.length : Int) then (impl_texts.f k hs).bind fun xs => (impl_texts.f k l).bind fun ls => if xs.length = hs.length ∧ ls.length = l.length then (appAll (impl_toy_HashChildren.f k a0 a1 a2 a3 a4 a5) k e.toNat xs [] ls).bind fun p => (impl_texts.f k p.1).bind fun r => some (0, ((e.toNat + l.length : Nat) : Int), r, p.2, true) else none else none
theorem impl_Append.mono : ∀ a0 a1 a2 a3 a4 a5 b e hs l k, LeO (impl_Append.f k a0 a1 a2 a3 a4 a5 b e hs l) (impl_Append.f (k + 1) a0 a1 a2 a3 a4 a5 b e hs l) := by
  intro a0 a1 a2 a3 a4 a5 b e hs l k
  unfold impl_Append.f
  by_cases h : b = 0 ∧ 0 ≤ e ∧ e + (l.length : Int) < 4611686018427387904 ∧ compact_RangeSize.f k b e = some (hs.length : Int)
  case neg => rw [if_neg h]; exact LeO.none _
  rw [if_pos h, if_pos ⟨h.1, h.2.1, h.2.2.1, compact_RangeSize.mono _ _ _ _ h.2.2.2⟩]
  exact LeO.bind (impl_texts.mono _ _) (fun x => LeO.bind (impl_texts.mono _ _) (fun y => LeO.ite (LeO.bind (appAll_mono (fun a b => impl_toy_HashChildren.mono _ _ _ _ _ _ _ _ _) k _ _ _ _) (fun p => LeO.bind (impl_texts.mono _ _) (fun _ => LeO.refl _))) (LeO.refl _)))
end Go.Proofs.YtielnphmcaecdaaDoor.PAll
namespace Go.Proofs.YtielnphmcaecdaaDoor.PAll
open Go.IntWalk Go.RowKit Go.Proofs.YtielnphmcaecdaaDoor.Num Go.Proofs.YtielnphmcaecdaaDoor.Mth Go.Proofs.YtielnphmcaecdaaDoorW.PrintWords Go.Proofs.YtielnphmcaecdaaDoorW.PrintLast Go.Proofs.YtielnphmcaecdaaDoorW.PrintMore
set_option linter.unusedVariables false
set_option linter.unusedSimpArgs false
theorem and_one_odd (n : Nat) (hn : n < 18446744073709551616) (h : n % 2 = 1) : Go.bits .and .u64 (n : Int) 1 = 1 := by
  have h4 := u64_and_nat n 1 hn (by omega)
  rw [Nat.and_one_is_mod, h] at h4
  exact h4
end Go.Proofs.YtielnphmcaecdaaDoor.PAll
namespace Go.Proofs.YtielnphmcaecdaaDoor.PAll
open Go.IntWalk Go.RowKit Go.Proofs.YtielnphmcaecdaaDoor.Num Go.Proofs.YtielnphmcaecdaaDoor.Mth Go.Proofs.YtielnphmcaecdaaDoorW.PrintWords Go.Proofs.YtielnphmcaecdaaDoorW.PrintLast Go.Proofs.YtielnphmcaecdaaDoorW.PrintMore
set_option linter.unusedVariables false
set_option linter.unusedSimpArgs false
theorem Fx.blk {p q g t : Nat} {row : Option Nat} {w w' : World} {c : Array Value} (h : Fx p q row w w') (hb : w.heap[g]? = some (.cells c t (0, 0))) (hp : g ≠ p) (hq : g ≠ q) (hr : some g ≠ row) (ht : t ≠ 51) : w'.heap[g]? = some (.cells c t (0, 0)) :=
  (h.block g (blk_lt hb) hp hq hr (fun d hd => by rw [hb] at hd; injection hd with hd; injection hd with _ hd; exact ht hd)).trans hb
theorem Fx.ty {w w' : World} {tb p fq q g t : Nat} {a0 a1 a2 a3 a4 a5 b e : Int} {A : Option Addr} {c : Nat} {ss : List SH} {xs : List (List Int)} {SV cs : Array Value} (h : Fx p q (Value.slice A ss.length c).ownBlock w w') (R : RgAt w tb p fq a0 a1 a2 a3 a4 a5 b e A c ss xs) (hq : w.heap[q]? = some (.cells SV 36 (0, 0)))
    (hb : w.heap[g]? = some (.cells cs t (0, 0))) (h1 : t ≠ 148) (h2 : t ≠ 36) (h3 : t ≠ 27) (h4 : t ≠ 51) : w'.heap[g]? = some (.cells cs t (0, 0)) :=
  h.blk hb (ty_ne hb R.cell h1) (ty_ne hb hq h2) (fun e => by obtain ⟨d, hd⟩ := Kd.R_typed R.row g e.symm; exact ty_ne hb hd h3 rfl) h4
theorem Fx.pres {w w' : World} {tb p fq q : Nat} {a0 a1 a2 a3 a4 a5 b e : Int} {A : Option Addr} {c : Nat} {ss : List SH} {xs : List (List Int)} {SV : Array Value} (h : Fx p q (Value.slice A ss.length c).ownBlock w w') (R : RgAt w tb p fq a0 a1 a2 a3 a4 a5 b e A c ss xs) (hq : w.heap[q]? = some (.cells SV 36 (0, 0))) : Pres5 w w' := fun k hk => by
  obtain ⟨c, hc⟩ := hk
  rw [h.ty R hq hc (by decide) (by decide) (by decide) (by decide), hc]
theorem Fx.rw {w w' : World} {tb p fq q : Nat} {a0 a1 a2 a3 a4 a5 b e : Int} {A : Option Addr} {c : Nat} {ss : List SH} {xs : List (List Int)} {SV : Array Value} {v : Value} {rs : List SH} (h : Fx p q (Value.slice A ss.length c).ownBlock w w') (R : RgAt w tb p fq a0 a1 a2 a3 a4 a5 b e A c ss xs) (hq : w.heap[q]? = some (.cells SV 36 (0, 0))) (hR : Rw w tb v rs) (hap : ∀ k, v.ownBlock = some k → some k ≠ (Value.slice A ss.length c).ownBlock) : Rw w' tb v rs :=
  Kd.R_mono (Kd.R_step (Kd.R_tight rfl hR) (fun k hk hlt => by
    obtain ⟨d, hd⟩ := Kd.R_typed hR k hk.symm
    rw [h.blk hd (ty_ne hd R.cell (by decide)) (ty_ne hd hq (by decide)) (hap k hk.symm) (by decide), hd])) (fun _ _ => trivial)
theorem four (w : World) (o0 o1 o2 o3 : Obj) : ((((w.alloc o0).alloc o1).alloc o2).alloc o3).heap[w.heap.size + 1]? = some o1 ∧ ((((w.alloc o0).alloc o1).alloc o2).alloc o3).heap[w.heap.size + 1 + 1]? = some o2 ∧ ((((w.alloc o0).alloc o1).alloc o2).alloc o3).heap[w.heap.size + 1 + 1 + 1]? = some o3 ∧ Below w.heap.size w ((((w.alloc o0).alloc o1).alloc o2).alloc o3) := by
  have s1 : (w.alloc o0).heap.size = w.heap.size + 1 := World.size_alloc _ _
  have s2 : ((w.alloc o0).alloc o1).heap.size = w.heap.size + 1 + 1 := by rw [World.size_alloc, s1]
  have s3 : (((w.alloc o0).alloc o1).alloc o2).heap.size = w.heap.size + 1 + 1 + 1 := by rw [World.size_alloc, s2]
  have b1 := blk_new (w.alloc o0) o1
  have b2 := blk_new ((w.alloc o0).alloc o1) o2
  have b3 := blk_new (((w.alloc o0).alloc o1).alloc o2) o3
  rw [s1] at b1
  rw [s2] at b2
  rw [s3] at b3
  exact ⟨blk_alloc (blk_alloc b1 _) _, blk_alloc b2 _, b3, below_alloc (below_alloc (below_alloc (below_alloc (Below.refl _ _) _) _) _) _⟩
end Go.Proofs.YtielnphmcaecdaaDoor.PAll
