-- Written by a program of this session (wip/tools)
import Derived.Test.YtielnphmcaecdaaDoorQIMRanges
import Derived.Test.YtielnphmcaecdaaDoorQIMPAllx3
namespace Go.Proofs.YtielnphmcaecdaaDoor.PAll
open Go.RowKit Go.Proofs.YtielnphmcaecdaaDoor.Num Go.Proofs.YtielnphmcaecdaaDoor.Mth Go.Proofs.YtielnphmcaecdaaDoorW.PrintWords Go.Proofs.YtielnphmcaecdaaDoorW.PrintLast
theorem Nds_masks (b e : Nat) (h : b ≤ e) (h0 : 0 < b) : Nds 0 b e = Lft 0 (fork (b - 1) e - 1) b ++ RgtT (fork (b - 1) e - 1) e := by
  rw [Nds_parts (fork (b - 1) e - 1) 0 b e h0 (fork_below (by omega)), Rgt_eq]
theorem fork_64 {i n : Nat} (hi : i < 18446744073709551616) (hn : n < 18446744073709551616) : fork i n ≤ 64 := blen_lt64 (Nat.xor_lt_two_pow (n := 64) hi hn)
theorem Lft_len (n l b : Nat) : (Lft l n b).length ≤ n := by
  rw [ones_Lft]; exact ones_le _ _ (Nat.mod_lt _ (Nat.two_pow_pos n))
theorem RgtT_len (n e : Nat) : (RgtT n e).length ≤ n := by
  rw [ones_RgtT]; exact ones_le _ _ (Nat.mod_lt _ (Nat.two_pow_pos n))
theorem compact_RangeNodes.eq (b e : Nat) (h : b ≤ e) (he : e < 18446744073709551616) (out : List S99) (ho : out.length < 8796093022000) (K : Nat) (hK : 140 ≤ K) :
    compact_RangeNodes.f K (b : Int) (e : Int) out = some (out ++ (Nds 0 b e).map cnode) := by
  have hD := compact_Decompose.eq b e h he (K - 1)
  rw [show K - 1 + 1 = K by omega] at hD
  unfold compact_RangeNodes.f
  rw [hD, Option.bind_some]
  clear hD
  rcases Nat.eq_zero_or_pos b with h0 | h0
  · subst h0
    have hl := RgtT_len 64 e
    have hr := right_loop 64 e he out (K - 1 - (RgtT 64 e).length - 2) (by omega) (by omega)
    rw [Nat.mod_eq_of_lt he, Nat.div_eq_of_lt he, Nat.zero_mul, show K - 1 - (RgtT 64 e).length - 2 + (RgtT 64 e).length + 2 = K - 1 by omega] at hr
    rw [show masks 0 e = (0, e) from rfl]
    show compact_RangeNodes.l0 K out 0 (e : Int) 0 = _
    obtain ⟨K, rfl⟩ : ∃ m, K = m + 1 := ⟨K - 1, by omega⟩
    rw [compact_RangeNodes.l0, if_pos rfl, Nds_zero 64 0 e he, Rgt_eq]
    exact hr
  · have hm : masks b e = (negm (fork (b - 1) e - 1) b, e % 2 ^ (fork (b - 1) e - 1)) := by unfold masks; rw [if_neg (by omega)]
    have hf := fork_64 (i := b - 1) (n := e) (by omega) he
    have hbel := fork_below (x := b - 1) (e := e) (by omega)
    have hd63 : fork (b - 1) e - 1 ≤ 63 := by omega
    rw [hm, Nds_masks b e h h0]
    clear hf hm
    generalize fork (b - 1) e - 1 = d at *
    have hp := Nat.two_pow_pos d
    have hup : (b + (2 ^ d - 1)) / 2 ^ d = e / 2 ^ d := by
      rw [← hbel, show b + (2 ^ d - 1) = (b - 1) + 2 ^ d by omega, Nat.add_div_right _ hp]
    have hle : e / 2 ^ d * 2 ^ d ≤ e := Nat.div_mul_le_self e (2 ^ d)
    have h1 := Lft_len d 0 b
    have h2 := RgtT_len d e
    have hlf := left_loop d 0 b out ((e % 2 ^ d : Nat) : Int) (K - (Lft 0 d b).length - 1)
    rw [hup, Nat.zero_add, Nat.mul_comm (2 ^ d), Nat.pow_zero, Nat.one_mul, Nat.one_mul, show K - (Lft 0 d b).length - 1 + (Lft 0 d b).length + 1 = K by omega] at hlf
    have hr := right_loop d e he (out ++ (Lft 0 d b).map cnode) (K - (Lft 0 d b).length - 1 - (RgtT d e).length - 2) (by omega) (by simp; omega)
    rw [show K - (Lft 0 d b).length - 1 - (RgtT d e).length - 2 + (RgtT d e).length + 2 = K - (Lft 0 d b).length - 1 by omega] at hr
    show compact_RangeNodes.l0 K out ((negm d b : Nat) : Int) ((e % 2 ^ d : Nat) : Int) (b : Int) = _
    rw [hlf (by omega) (by omega) (by omega), hr, List.map_append, List.append_assoc]
theorem compact_RangeSize.eq (b e : Nat) (h : b ≤ e) (he : e < 18446744073709551616) (k : Nat) : compact_RangeSize.f (k + 1) (b : Int) (e : Int) = some (((Nds 0 b e).length : Nat) : Int) := by
  unfold compact_RangeSize.f
  rw [compact_Decompose.eq b e h he, Option.bind_some]
  rcases Nat.eq_zero_or_pos b with h0 | h0
  · subst h0
    have h1 : (Nds 0 0 e).length = ones e := by rw [Nds_zero 64 0 e he, Rgt_eq, ones_RgtT, Nat.mod_eq_of_lt he]
    have h2 := ones_le e 64 he
    have e0 : bits_OnesCount64.f 0 = some 0 := by
      have := bits_OnesCount64.eq 0 (by decide)
      rw [ones_zero] at this; exact this
    rw [show masks 0 e = (0, e) from rfl, h1]
    show (bits_OnesCount64.f 0).bind _ = _
    rw [e0, Option.bind_some, bits_OnesCount64.eq e he, Option.bind_some, Int.zero_add, w64 (by omega)]
  · have hm : masks b e = (negm (fork (b - 1) e - 1) b, e % 2 ^ (fork (b - 1) e - 1)) := by unfold masks; rw [if_neg (by omega)]
    have hf := fork_64 (i := b - 1) (n := e) (by omega) he
    rw [hm, Nds_masks b e h h0, List.length_append, ones_Lft, ones_RgtT]
    generalize hd : fork (b - 1) e - 1 = d at *
    have hd63 : d ≤ 63 := by omega
    have h1 := pow_lt64 hd63
    have h2 : negm d b < 2 ^ d := Nat.mod_lt _ (Nat.two_pow_pos d)
    have h3 : e % 2 ^ d < 2 ^ d := Nat.mod_lt _ (Nat.two_pow_pos d)
    have h4 := ones_le _ _ h2
    have h5 := ones_le _ _ h3
    rw [bits_OnesCount64.eq _ (Nat.lt_trans h2 h1), Option.bind_some, bits_OnesCount64.eq _ (Nat.lt_trans h3 h1), Option.bind_some, w64_add _ _ (by omega)]
end Go.Proofs.YtielnphmcaecdaaDoor.PAll
