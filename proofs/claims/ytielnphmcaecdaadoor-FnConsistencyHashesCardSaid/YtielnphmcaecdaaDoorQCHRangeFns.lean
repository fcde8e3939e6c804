-- Written by a program of this session (wip/tools)
import Derived.Test.YtielnphmcaecdaaDoorQCHRanges
import Derived.Test.YtielnphmcaecdaaDoorQCHPAllx3
namespace Go.Proofs.YtielnphmcaecdaaDoor.PAll
open Go.RowKit Go.Proofs.YtielnphmcaecdaaDoor.Num Go.Proofs.YtielnphmcaecdaaDoor.Mth Go.Proofs.YtielnphmcaecdaaDoorW.PrintWords Go.Proofs.YtielnphmcaecdaaDoorW.PrintLast
theorem Nds_masks (b e : Nat) (h : b ≤ e) (h0 : 0 < b) : Nds 0 b e = Lft 0 (fork (b - 1) e - 1) b ++ RgtT (fork (b - 1) e - 1) e := by
  rw [Nds_parts (fork (b - 1) e - 1) 0 b e h0 (fork_below (by omega)), Rgt_eq]
theorem fork_64 {i n : Nat} (hi : i < 18446744073709551616) (hn : n < 18446744073709551616) : fork i n ≤ 64 := blen_lt64 (Nat.xor_lt_two_pow (n := 64) hi hn)
theorem Lft_len (n l b : Nat) : (Lft l n b).length ≤ n := by
  rw [ones_Lft]; exact ones_le _ _ (Nat.mod_lt _ (Nat.two_pow_pos n))
theorem RgtT_len (n e : Nat) : (RgtT n e).length ≤ n := by
  rw [ones_RgtT]; exact ones_le _ _ (Nat.mod_lt _ (Nat.two_pow_pos n))
theorem compact_RangeNodes.eq (b e : Nat) (h : b ≤ e) (he : e < 18446744073709551616) (out : List S99) (ho : out.length < 8796093022000) (K : Nat) (hK : 140 ≤ K) :
    compact_RangeNodes.f K (b : Int) (e : Int) out = some (out ++ (Nds 0 b e).map cnode) := by
  have hD := compact_Decompose.eq b e h he (K - 1)
  rw [show K - 1 + 1 = K by omega] at hD
  unfold compact_RangeNodes.f
  rw [hD, Option.bind_some]
  clear hD
  rcases Nat.eq_zero_or_pos b with h0 | h0
  · subst h0
    have hl := RgtT_len 64 e
    have hr := right_loop 64 e he out (K - 1 - (RgtT 64 e).length - 2) (by omega) (by omega)
    rw [Nat.mod_eq_of_lt he, Nat.div_eq_of_lt he, Nat.zero_mul, show K - 1 - (RgtT 64 e).length - 2 + (RgtT 64 e).length + 2 = K - 1 by omega] at hr
    rw [show masks 0 e = (0, e) from rfl]
    show compact_RangeNodes.l0 K out 0 (e : Int) 0 = _
    obtain ⟨K, rfl⟩ : ∃ m, K = m + 1 := ⟨K - 1, by omega⟩
    rw [compact_RangeNodes.l0, if_pos rfl, Nds_zero 64 0 e he, Rgt_eq]
    exact hr
  · have hm : masks b e = (negm (fork (b - 1) e - 1) b, e % 2 ^ (fork (b - 1) e - 1)) := by unfold masks; rw [if_neg (by omega)]
    have hf := fork_64 (i := b - 1) (n := e) (by omega) he
    have hbel := fork_below (x := b - 1) (e := e) (by omega)
    have hd63 : fork (b - 1) e - 1 ≤ 63 := by omega
    rw [hm, Nds_masks b e h h0]
    clear hf hm
    generalize fork (b - 1) e - 1 = d at *
    have hp := Nat.two_pow_pos d
    have hup : (b + (2 ^ d - 1)) / 2 ^ d = e / 2 ^ d := by
      rw [← hbel, show b + (2 ^ d - 1) = (b - 1) + 2 ^ d by omega, Nat.add_div_right _ hp]
    have hle : e / 2 ^ d * 2 ^ d ≤ e := Nat.div_mul_le_self e (2 ^ d)
    have h1 := Lft_len d 0 b
    have h2 := RgtT_len d e
    have hlf := left_loop d 0 b out ((e % 2 ^ d : Nat) : Int) (K - (Lft 0 d b).length - 1)
    rw [hup, Nat.zero_add, Nat.mul_comm (2 ^ d), Nat.pow_zero, Nat.one_mul, Nat.one_mul, show K - (Lft 0 d b).length - 1 + (Lft 0 d b).length + 1 = K by omega] at hlf
    have hr := right_loop d e he (out ++ (Lft 0 d b).map cnode) (K - (Lft 0 d b).length - 1 - (RgtT d e).length - 2) (by omega) (by simp; omega)
    rw [show K - (Lft 0 d b).length - 1 - (RgtT d e).length - 2 + (RgtT d e).length + 2 = K - (Lft 0 d b).length - 1 by omega] at hr
    show compact_RangeNodes.l0 K out ((negm d b : Nat) : Int) ((e % 2 ^ d : Nat) : Int) (b : Int) = _
    rw [hlf (by omega) (by omega) (by omega), hr, List.map_append, List.append_assoc]
theorem compact_RangeSize.eq (b e : Nat) (h : b ≤ e) (he : e < 18446744073709551616) (k : Nat) : compact_RangeSize.f (k + 1) (b : Int) (e : Int) = some (((Nds 0 b e).length : Nat) : Int) := by
  unfold compact_RangeSize.f
  rw [compact_Decompose.eq b e h he, Option.bind_some]
  rcases Nat.eq_zero_or_pos b with h0 | h0
  · subst h0
    have h1 : (Nds 0 0 e).length = ones e := by rw [Nds_zero 64 0 e he, Rgt_eq, ones_RgtT, Nat.mod_eq_of_lt he]
    have h2 := ones_le e 64 he
    have e0 : bits_OnesCount64.f 0 = some 0 := by
      have := bits_OnesCount64.eq 0 (by decide)
      rw [ones_zero] at this; exact this
    rw [show masks 0 e = (0, e) from rfl, h1]
    show (bits_OnesCount64.f 0).bind _ = _
    rw [e0, Option.bind_some, bits_OnesCount64.eq e he, Option.bind_some, Int.zero_add, w64 (by omega)]
  · have hm : masks b e = (negm (fork (b - 1) e - 1) b, e % 2 ^ (fork (b - 1) e - 1)) := by unfold masks; rw [if_neg (by omega)]
    have hf := fork_64 (i := b - 1) (n := e) (by omega) he
    rw [hm, Nds_masks b e h h0, List.length_append, ones_Lft, ones_RgtT]
    generalize hd : fork (b - 1) e - 1 = d at *
    have hd63 : d ≤ 63 := by omega
    have h1 := pow_lt64 hd63
    have h2 : negm d b < 2 ^ d := Nat.mod_lt _ (Nat.two_pow_pos d)
    have h3 : e % 2 ^ d < 2 ^ d := Nat.mod_lt _ (Nat.two_pow_pos d)
    have h4 := ones_le _ _ h2
    have h5 := ones_le _ _ h3
    rw [bits_OnesCount64.eq _ (Nat.lt_trans h2 h1), Option.bind_some, bits_OnesCount64.eq _ (Nat.lt_trans h3 h1), Option.bind_some, w64_add _ _ (by omega)]
theorem level_loop (b e : Nat) (h : b < e) (he : e < 18446744073709551616) (out : List S49) (ho : out.length < 8796093022208) (d : Nat) : ∀ (j k : Nat), lev b e = j + d →
    spec_Nodes.l1 (k + d + 1) out (j : Int) (b : Int) (e : Int) = spec_Nodes.l0 k (out ++ [inode (lev b e, b / 2 ^ lev b e)]) ((b + 2 ^ lev b e : Nat) : Int) (e : Int) := by
  have hs := lev_spec b e h
  have hl := lev_lt h he
  induction d with
  | zero =>
    intro j k hj
    rw [Nat.add_zero] at hj
    have h2 := pow_lt64 (k := lev b e) (by omega)
    have hsr : shr .u64 (b : Int) (j : Int) = ((b / 2 ^ lev b e : Nat) : Int) := by rw [← hj]; exact shr64' b _ (by omega)
    have hs1 : shl .u64 1 (j : Int) = ((2 ^ lev b e : Nat) : Int) := by rw [← hj]; exact shl_one (by omega)
    have hadd := u64add (a := b) (b := 2 ^ lev b e) (by omega)
    have hand := and64 (b / 2 ^ lev b e) 1 (by have := Nat.div_le_self b (2 ^ lev b e); omega) (by decide)
    rw [show (1 : Nat) = 2 ^ 1 - 1 from rfl, Nat.and_two_pow_sub_one_eq_mod, Nat.pow_one] at hand
    have hfin : (if out.length < 8796093022208 then (spec_Nodes.l0 k (out ++ [(⟨(j : Int), shr .u64 (b : Int) (j : Int)⟩ : S49)]) (IntKind.u64.wrap ((b : Int) + (shl .u64 1 (j : Int)))) (e : Int)) else (none)) = spec_Nodes.l0 k (out ++ [inode (lev b e, b / 2 ^ lev b e)]) ((b + 2 ^ lev b e : Nat) : Int) (e : Int) := by
      rw [if_pos ho, hsr, hs1, hadd, ← hj]; rfl
    rw [Nat.add_zero, spec_Nodes.l1]
    by_cases h63 : j < 63
    · rw [if_pos (by omega), if_pos (Int.natCast_nonneg j)]
      by_cases hev : b / 2 ^ lev b e % 2 = 0
      · have h3 := hs.2.2 (by rw [Nat.pow_succ, Nat.mod_mul, hs.1, hev]; simp)
        have hw : IntKind.u64.wrap ((j : Int) + 1) = ((j + 1 : Nat) : Int) := u64add (a := j) (b := 1) (by omega)
        have hs2 : shl .u64 1 ((j + 1 : Nat) : Int) = ((2 ^ (lev b e + 1) : Nat) : Int) := by rw [← hj]; exact shl_one (by omega)
        have hsub := u64sub (a := e) (b := b) (by omega) he
        have hgt : ¬ ((2 ^ (lev b e + 1) : Nat) : Int) ≤ ((e - b : Nat) : Int) := by omega
        have hz : Go.bits .and .u64 (shr .u64 (b : Int) (j : Int)) 1 = 0 := by rw [hsr]; rw [hev] at hand; exact hand
        rw [if_pos hz, hw, if_pos (Int.natCast_nonneg _), hs2, hsub, if_neg hgt]
        exact hfin
      · have hz : ¬ Go.bits .and .u64 (shr .u64 (b : Int) (j : Int)) 1 = 0 := by
          rw [hsr]; intro h4
          have h5 : ((b / 2 ^ lev b e % 2 : Nat) : Int) = 0 := hand.symm.trans h4
          omega
        rw [if_neg hz]
        exact hfin
    · rw [if_neg (by omega), if_pos (Int.natCast_nonneg j)]
      exact hfin
  | succ d ih =>
    intro j k hj
    have hj63 : j < 63 := by omega
    have hdvd : b / 2 ^ j % 2 = 0 := by
      have h1 : b % 2 ^ (j + 1) = 0 := by
        have h2 : 2 ^ lev b e = 2 ^ (j + 1) * 2 ^ d := by rw [← Nat.pow_add, hj]; congr 1; omega
        have h3 := hs.1
        rw [h2] at h3
        have := Nat.mod_mul_right_mod b (2 ^ (j + 1)) (2 ^ d)
        rw [h3] at this; simpa using this.symm
      rw [Nat.pow_succ, Nat.mod_mul] at h1
      have hp := Nat.two_pow_pos j
      rcases Nat.mod_two_eq_zero_or_one (b / 2 ^ j) with h4 | h4
      · exact h4
      · rw [h4] at h1; omega
    have hle : 2 ^ (j + 1) ≤ e - b := by
      have h1 : 2 ^ (j + 1) ≤ 2 ^ lev b e := Nat.pow_le_pow_right (by decide) (by omega)
      omega
    have hsr : shr .u64 (b : Int) (j : Int) = ((b / 2 ^ j : Nat) : Int) := shr64' b j (by omega)
    have hand := and64 (b / 2 ^ j) 1 (by have := Nat.div_le_self b (2 ^ j); omega) (by decide)
    rw [show (1 : Nat) = 2 ^ 1 - 1 from rfl, Nat.and_two_pow_sub_one_eq_mod, Nat.pow_one, hdvd] at hand
    have hz : Go.bits .and .u64 (shr .u64 (b : Int) (j : Int)) 1 = 0 := by rw [hsr]; exact hand
    have hw : IntKind.u64.wrap ((j : Int) + 1) = ((j + 1 : Nat) : Int) := u64add (a := j) (b := 1) (by omega)
    have hs2 : shl .u64 1 ((j + 1 : Nat) : Int) = ((2 ^ (j + 1) : Nat) : Int) := shl_one (by omega)
    have hsub := u64sub (a := e) (b := b) (by omega) he
    have hgt : ((2 ^ (j + 1) : Nat) : Int) ≤ ((e - b : Nat) : Int) := by omega
    rw [show k + (d + 1) + 1 = (k + d + 1) + 1 by omega, spec_Nodes.l1, if_pos (by omega), if_pos (Int.natCast_nonneg j), if_pos hz, hw, if_pos (Int.natCast_nonneg _), hs2, hsub, if_pos hgt]
    exact ih (j + 1) k (by omega)
theorem nodes_loop (e : Nat) (he : e < 18446744073709551616) (m : Nat) : ∀ (b : Nat) (out : List S49) (K : Nat), (Nds 0 b e).length = m → out.length + m < 8796093022208 → 70 * m + 1 ≤ K → b ≤ e →
    spec_Nodes.l0 K out (b : Int) (e : Int) = some (out ++ (Nds 0 b e).map inode) := by
  induction m with
  | zero =>
    intro b out K hm ho hK hb
    obtain ⟨K, rfl⟩ : ∃ k, K = k + 1 := ⟨K - 1, by omega⟩
    have hge : e ≤ b := by
      rcases Nat.lt_or_ge b e with h | h
      · have := Nds_nonempty (l := 0) h; omega
      · exact h
    rw [spec_Nodes.l0, if_neg (by omega), Nds_empty hge]; simp
  | succ m ih =>
    intro b out K hm ho hK hb
    have hlt : b < e := by
      rcases Nat.lt_or_ge b e with h | h
      · exact h
      · rw [Nds_empty h] at hm; simp at hm
    have hl := lev_lt hlt he
    have hs := (lev_spec b e hlt).2.1
    have hst := Nds_step 0 b e hlt
    rw [Nat.zero_add] at hst
    have hlen : (Nds 0 (b + 2 ^ lev b e) e).length = m := by rw [hst] at hm; simpa using hm
    have h1 := level_loop b e hlt he out (by omega) (lev b e) 0 (K - 1 - lev b e - 1) (by omega)
    have h2 := ih (b + 2 ^ lev b e) (out ++ [inode (lev b e, b / 2 ^ lev b e)]) (K - 1 - lev b e - 1) hlen (by simp; omega) (by omega) hs
    rw [show K - 1 - lev b e - 1 + lev b e + 1 = K - 1 by omega] at h1
    obtain ⟨K, rfl⟩ : ∃ k, K = k + 1 := ⟨K - 1, by omega⟩
    rw [spec_Nodes.l0, if_pos (by omega)]
    rw [Nat.add_sub_cancel] at h1 h2
    rw [show (0 : Int) = ((0 : Nat) : Int) from rfl, h1, h2, hst, List.map_cons, List.append_assoc]; rfl
theorem spec_Nodes.eq (b e : Nat) (h : b ≤ e) (he : e < 18446744073709551616) (K : Nat) (hK : 9000 ≤ K) : spec_Nodes.f K (b : Int) (e : Int) = some ((Nds 0 b e).map inode) := by
  have hl := Nds_len 0 b e 64 he
  have := nodes_loop e he _ b [] K rfl (by simp; omega) (by omega) h
  unfold spec_Nodes.f
  rw [this, List.nil_append]
end Go.Proofs.YtielnphmcaecdaaDoor.PAll
