-- Written by a program of this session (wip/tools)
import Derived.Test.YtielnphmcaecdaaDoorQTRRanges
import Derived.Test.YtielnphmcaecdaaDoorQTRExtTz
import Derived.Test.YtielnphmcaecdaaDoorQTRTexts
import Derived.Test.YtielnphmcaecdaaDoorQTRExtTree
import Derived.Test.YtielnphmcaecdaaDoorQTRPAllx24
import Derived.Test.YtielnphmcaecdaaDoorQTRV0
import Derived.Deep.Slices
import Derived.Lib.SmallJoins
namespace Go.Proofs.YtielnphmcaecdaaDoor.PAll
open Go.RowKit Go.Proofs.YtielnphmcaecdaaDoor.Num Go.Proofs.YtielnphmcaecdaaDoor.Mth Go.Proofs.YtielnphmcaecdaaDoorW.PrintWords Go.Proofs.YtielnphmcaecdaaDoorW.PrintLast
theorem Nds_masks (b e : Nat) (h : b ≤ e) (h0 : 0 < b) : Nds 0 b e = Lft 0 (fork (b - 1) e - 1) b ++ RgtT (fork (b - 1) e - 1) e := by
  rw [Nds_parts (fork (b - 1) e - 1) 0 b e h0 (fork_below (by omega)), Rgt_eq]
theorem fork_64 {i n : Nat} (hi : i < 18446744073709551616) (hn : n < 18446744073709551616) : fork i n ≤ 64 := blen_lt64 (Nat.xor_lt_two_pow (n := 64) hi hn)
theorem Lft_len (n l b : Nat) : (Lft l n b).length ≤ n := by
  rw [ones_Lft]; exact ones_le _ _ (Nat.mod_lt _ (Nat.two_pow_pos n))
theorem RgtT_len (n e : Nat) : (RgtT n e).length ≤ n := by
  rw [ones_RgtT]; exact ones_le _ _ (Nat.mod_lt _ (Nat.two_pow_pos n))
theorem compact_RangeNodes.eq (b e : Nat) (h : b ≤ e) (he : e < 18446744073709551616) (out : List S99) (ho : out.length < 8796093022000) (K : Nat) (hK : 140 ≤ K) :
    compact_RangeNodes.f K (b : Int) (e : Int) out = some (out ++ (Nds 0 b e).map cnode) := by
  have hD := compact_Decompose.eq b e h he (K - 1)
  rw [show K - 1 + 1 = K by omega] at hD
  unfold compact_RangeNodes.f
  rw [hD, Option.bind_some]
  clear hD
  rcases Nat.eq_zero_or_pos b with h0 | h0
  · subst h0
    have hl := RgtT_len 64 e
    have hr := right_loop 64 e he out (K - 1 - (RgtT 64 e).length - 2) (by omega) (by omega)
    rw [Nat.mod_eq_of_lt he, Nat.div_eq_of_lt he, Nat.zero_mul, show K - 1 - (RgtT 64 e).length - 2 + (RgtT 64 e).length + 2 = K - 1 by omega] at hr
    rw [show masks 0 e = (0, e) from rfl]
    show compact_RangeNodes.l0 K out 0 (e : Int) 0 = _
    obtain ⟨K, rfl⟩ : ∃ m, K = m + 1 := ⟨K - 1, by omega⟩
    rw [compact_RangeNodes.l0, if_pos rfl, Nds_zero 64 0 e he, Rgt_eq]
    exact hr
  · have hm : masks b e = (negm (fork (b - 1) e - 1) b, e % 2 ^ (fork (b - 1) e - 1)) := by unfold masks; rw [if_neg (by omega)]
    have hf := fork_64 (i := b - 1) (n := e) (by omega) he
    have hbel := fork_below (x := b - 1) (e := e) (by omega)
    have hd63 : fork (b - 1) e - 1 ≤ 63 := by omega
    rw [hm, Nds_masks b e h h0]
    clear hf hm
    generalize fork (b - 1) e - 1 = d at *
    have hp := Nat.two_pow_pos d
    have hup : (b + (2 ^ d - 1)) / 2 ^ d = e / 2 ^ d := by
      rw [← hbel, show b + (2 ^ d - 1) = (b - 1) + 2 ^ d by omega, Nat.add_div_right _ hp]
    have hle : e / 2 ^ d * 2 ^ d ≤ e := Nat.div_mul_le_self e (2 ^ d)
    have h1 := Lft_len d 0 b
    have h2 := RgtT_len d e
    have hlf := left_loop d 0 b out ((e % 2 ^ d : Nat) : Int) (K - (Lft 0 d b).length - 1)
    rw [hup, Nat.zero_add, Nat.mul_comm (2 ^ d), Nat.pow_zero, Nat.one_mul, Nat.one_mul, show K - (Lft 0 d b).length - 1 + (Lft 0 d b).length + 1 = K by omega] at hlf
    have hr := right_loop d e he (out ++ (Lft 0 d b).map cnode) (K - (Lft 0 d b).length - 1 - (RgtT d e).length - 2) (by omega) (by simp; omega)
    rw [show K - (Lft 0 d b).length - 1 - (RgtT d e).length - 2 + (RgtT d e).length + 2 = K - (Lft 0 d b).length - 1 by omega] at hr
    show compact_RangeNodes.l0 K out ((negm d b : Nat) : Int) ((e % 2 ^ d : Nat) : Int) (b : Int) = _
    rw [hlf (by omega) (by omega) (by omega), hr, List.map_append, List.append_assoc]
theorem compact_RangeSize.eq (b e : Nat) (h : b ≤ e) (he : e < 18446744073709551616) (k : Nat) : compact_RangeSize.f (k + 1) (b : Int) (e : Int) = some (((Nds 0 b e).length : Nat) : Int) := by
  unfold compact_RangeSize.f
  rw [compact_Decompose.eq b e h he, Option.bind_some]
  rcases Nat.eq_zero_or_pos b with h0 | h0
  · subst h0
    have h1 : (Nds 0 0 e).length = ones e := by rw [Nds_zero 64 0 e he, Rgt_eq, ones_RgtT, Nat.mod_eq_of_lt he]
    have h2 := ones_le e 64 he
    have e0 : bits_OnesCount64.f 0 = some 0 := by
      have := bits_OnesCount64.eq 0 (by decide)
      rw [ones_zero] at this; exact this
    rw [show masks 0 e = (0, e) from rfl, h1]
    show (bits_OnesCount64.f 0).bind _ = _
    rw [e0, Option.bind_some, bits_OnesCount64.eq e he, Option.bind_some, Int.zero_add, w64 (by omega)]
  · have hm : masks b e = (negm (fork (b - 1) e - 1) b, e % 2 ^ (fork (b - 1) e - 1)) := by unfold masks; rw [if_neg (by omega)]
    have hf := fork_64 (i := b - 1) (n := e) (by omega) he
    rw [hm, Nds_masks b e h h0, List.length_append, ones_Lft, ones_RgtT]
    generalize hd : fork (b - 1) e - 1 = d at *
    have hd63 : d ≤ 63 := by omega
    have h1 := pow_lt64 hd63
    have h2 : negm d b < 2 ^ d := Nat.mod_lt _ (Nat.two_pow_pos d)
    have h3 : e % 2 ^ d < 2 ^ d := Nat.mod_lt _ (Nat.two_pow_pos d)
    have h4 := ones_le _ _ h2
    have h5 := ones_le _ _ h3
    rw [bits_OnesCount64.eq _ (Nat.lt_trans h2 h1), Option.bind_some, bits_OnesCount64.eq _ (Nat.lt_trans h3 h1), Option.bind_some, w64_add _ _ (by omega)]
end Go.Proofs.YtielnphmcaecdaaDoor.PAll
namespace Go.Proofs.YtielnphmcaecdaaDoor.Hsh
open Go.RowKit Go.Proofs.YtielnphmcaecdaaDoor.Num Go.Proofs.YtielnphmcaecdaaDoor.Mth Go.Proofs.YtielnphmcaecdaaDoor.PAll Go.Proofs.YtielnphmcaecdaaDoorW.PrintWords Go.Proofs.YtielnphmcaecdaaDoorW.PrintLast
set_option linter.unusedVariables false
def empt (a0 a2 a3 : Int) : List Int := if a0 = 1 then wrd a3 (nb a2) else [2]
theorem hash_grows (a0 a2 a5 : Int) : Grows (hash a0 a2 a5) := hash_le a0 a2 a5
theorem impl_empty (a0 a1 a2 a3 a4 a5 : Int) {k : Nat} (hk : 20 ≤ k) : impl_toy_EmptyRoot.f k a0 a1 a2 a3 a4 a5 = some (empt a0 a2 a3) := by
  unfold impl_toy_EmptyRoot.f empt
  by_cases h : a0 = 1
  · rw [if_pos h, if_pos h, impl_word_eq _ _ hk, Option.bind_some]
  · rw [if_neg h, if_neg h]
theorem mem_bound {l : List (List Int)} {m : Nat} (h : ∀ j, j < l.length → (l.getD j []).length ≤ m) : ∀ x ∈ l, x.length ≤ m := by
  intro x hx
  obtain ⟨i, hi⟩ := List.getElem?_of_mem hx
  have := h i (List.getElem?_eq_some_iff.1 hi).1
  rw [List.getD_eq_getElem?_getD, hi] at this
  exact this
theorem node_eq (a0 a1 a2 a3 a4 a5 : Int) (L : List (List Int)) (hn : L.length ≤ 300) (hm : ∀ x ∈ L, x.length ≤ 5000) (K : Nat) (hK : 10000000 ≤ K) : ∀ (i j : Nat), (j + 1) * 2 ^ i ≤ L.length →
    node_ (impl_toy_HashChildren.f K a0 a1 a2 a3 a4 a5) L i j = some (nodeH (hash a0 a2 a5) (empt a0 a2 a3) L (i, j)) := by
  intro i
  induction i with
  | zero =>
    intro j hj
    rw [Nat.pow_zero, Nat.mul_one] at hj
    rw [node_, List.getElem?_eq_getElem (by omega)]
    show _ = some (mth _ _ (seg L (j * 2 ^ 0) ((j + 1) * 2 ^ 0)))
    rw [Nat.pow_zero, Nat.mul_one, Nat.mul_one, seg_one (by omega), mth_one]
  | succ i ih =>
    intro j hj
    have hp := Nat.two_pow_pos i
    have e3 : (j + 1) * 2 ^ (i + 1) = (2 * j + 1 + 1) * 2 ^ i := by rw [show 2 * j + 1 + 1 = 2 * (j + 1) by omega, Nat.pow_succ]; ac_rfl
    have e4 : (2 * j + 1 + 1) * 2 ^ i = (2 * j + 1) * 2 ^ i + 2 ^ i := by rw [Nat.add_mul (2 * j + 1), Nat.one_mul]
    have e5 : (2 * j + 1) * 2 ^ i = 2 * j * 2 ^ i + 2 ^ i := by rw [Nat.add_mul, Nat.one_mul]
    have l1 : (seg L (2 * j * 2 ^ i) ((2 * j + 1) * 2 ^ i)).length = 2 ^ i := by rw [seg_length (by omega)]; omega
    have l2 : (seg L ((2 * j + 1) * 2 ^ i) ((2 * j + 1 + 1) * 2 ^ i)).length = 2 ^ i := by rw [seg_length (by omega)]; omega
    have m1 := mth_length (hash_grows a0 a2 a5) (empt a0 a2 a3) 5000 _ _ l1 hp (seg_bound hm)
    have m2 := mth_length (hash_grows a0 a2 a5) (empt a0 a2 a3) 5000 _ _ l2 hp (seg_bound hm)
    have m3 : (5000 + 9) * 2 ^ i ≤ 5009 * 300 := Nat.mul_le_mul_left _ (by omega)
    rw [node_, ih (2 * j) (by omega), Option.bind_some, ih (2 * j + 1) (by omega), Option.bind_some]
    show impl_toy_HashChildren.f K a0 a1 a2 a3 a4 a5 (mth _ _ (seg L (2 * j * 2 ^ i) ((2 * j + 1) * 2 ^ i))) (mth _ _ (seg L ((2 * j + 1) * 2 ^ i) ((2 * j + 1 + 1) * 2 ^ i))) = some (mth _ _ (seg L (j * 2 ^ (i + 1)) ((j + 1) * 2 ^ (i + 1))))
    rw [impl_hash _ _ _ _ _ _ _ _ (by omega) (by omega) (by omega), mth_perfect _ _ hj]
theorem nodeV_eq (a0 a1 a2 a3 a4 a5 : Int) (L : List (List Int)) (hn : L.length ≤ 300) (hm : ∀ x ∈ L, x.length ≤ 5000) (K : Nat) (hK : 10000000 ≤ K) (i j : Nat) (h : (j + 1) * 2 ^ i ≤ L.length) :
    nodeV (impl_toy_HashChildren.f K a0 a1 a2 a3 a4 a5) L i j = nodeH (hash a0 a2 a5) (empt a0 a2 a3) L (i, j) := by
  unfold nodeV
  rw [node_eq a0 a1 a2 a3 a4 a5 L hn hm K hK i j h]; rfl
theorem allN_true (a0 a1 a2 a3 a4 a5 : Int) (L : List (List Int)) (hn : L.length ≤ 300) (hm : ∀ x ∈ L, x.length ≤ 5000) (K : Nat) (hK : 10000000 ≤ K) : allN (impl_toy_HashChildren.f K a0 a1 a2 a3 a4 a5) L L.length = true :=
  List.all_eq_true.mpr (fun i _ => List.all_eq_true.mpr (fun j hj => by
    have := List.mem_range.mp hj
    rw [node_eq a0 a1 a2 a3 a4 a5 L hn hm K hK i j ((Nat.le_div_iff_mul_le (Nat.two_pow_pos i)).mp (by omega))]; rfl))
theorem idsIn_nodes {n m : Nat} (h : n ≤ m) : idsIn m ((Nds 0 0 n).map cnode) = true := by
  refine List.all_eq_true.mpr (fun id hid => ?_)
  obtain ⟨p, hp, rfl⟩ := List.mem_map.mp hid
  have := (Nds_in n _ 0 rfl p hp).2
  simp only [Bool.and_eq_true, decide_eq_true_eq]
  refine ⟨Int.natCast_nonneg _, Int.natCast_nonneg _, ?_⟩
  show (((p.2 : Int)).toNat + 1) * 2 ^ ((p.1 : Int)).toNat ≤ m
  rw [Int.toNat_natCast, Int.toNat_natCast]; omega
theorem foldR_eq (a0 a1 a2 a3 a4 a5 : Int) (E : List Int) (K : Nat) : ∀ (l : List (List Int)) (b : Nat), l ≠ [] → (l.map List.length).sum + 9 * l.length ≤ b → b ≤ 1000000000 → 2000000100 ≤ K → foldR_ (impl_toy_HashChildren.f K a0 a1 a2 a3 a4 a5) l = some (foldR (hash a0 a2 a5) E l) ∧ (foldR (hash a0 a2 a5) E l).length ≤ b
  | [], _, h, _, _, _ => absurd rfl h
  | [x], b, _, hb, _, _ => ⟨rfl, by simp at hb; show x.length ≤ b; omega⟩
  | x :: y :: l, b, _, hb, hbb, hK => by
    have hb' : x.length + 9 + (((y :: l).map List.length).sum + 9 * (y :: l).length) ≤ b := by
      rw [List.map_cons, List.sum_cons, List.length_cons] at hb; omega
    obtain ⟨h1, h2⟩ := foldR_eq a0 a1 a2 a3 a4 a5 E K (y :: l) (b - x.length - 9) (by simp) (by omega) (by omega) hK
    have h3 := hash_le a0 a2 a5 x (foldR (hash a0 a2 a5) E (y :: l))
    rw [foldR_, h1, Option.bind_some, impl_hash _ _ _ _ _ _ _ _ (by omega) (by omega) (by omega)]
    exact ⟨rfl, by show (hash a0 a2 a5 x (foldR (hash a0 a2 a5) E (y :: l))).length ≤ b; omega⟩
theorem sum_le (m : Nat) : ∀ (l : List (List Int)), (∀ x ∈ l, x.length ≤ m) → (l.map List.length).sum ≤ m * l.length
  | [], _ => by simp
  | x :: l, h => by
    have h1 := sum_le m l (fun y hy => h y (List.mem_cons_of_mem _ hy))
    have h2 := h x List.mem_cons_self
    rw [List.map_cons, List.sum_cons, List.length_cons, Nat.mul_succ]; omega
theorem impl_TreeRoot.eq (a0 a1 a2 a3 a4 a5 : Int) (L : List (List Int)) (hn : L.length ≤ 300) (hm : ∀ x ∈ L, x.length ≤ 5000) (n : Nat) (hnL : n ≤ L.length) (K : Nat) (hK : 3000000000 ≤ K) :
    impl_TreeRoot.f (K + 1) a0 a1 a2 a3 a4 a5 L (n : Int) = some (mth (hash a0 a2 a5) (empt a0 a2 a3) (L.take n), true) := by
  have hw : IntKind.u64.wrap (L.length : Int) = (L.length : Int) := u64in (by omega)
  unfold impl_TreeRoot.f
  rw [hw, if_neg (by omega), if_pos (by omega), texts_eq L (by omega) (fun j hj => by
    have := hm (L.getD j []) (by rw [List.getD_eq_getElem?_getD, List.getElem?_eq_getElem hj]; exact List.getElem_mem hj)
    omega) (by omega), Option.bind_some, if_pos ⟨by omega, allN_true a0 a1 a2 a3 a4 a5 L hn hm (K + 1) (by omega)⟩]
  rcases Nat.eq_zero_or_pos n with h0 | h0
  · subst h0
    rw [if_pos (show ((0 : Nat) : Int) = 0 from rfl), impl_empty _ _ _ _ _ _ (by omega), Option.bind_some, List.take_zero, mth_nil]
  · have hlen := Nds_len 0 0 n 64 (by omega)
    rw [if_neg (by omega), show (0 : Int) = ((0 : Nat) : Int) from rfl, compact_RangeNodes.eq 0 n (by omega) (by omega) [] (by simp) (K + 1) (by omega), Option.bind_some, List.nil_append, if_pos ⟨by rw [List.length_map]; omega, idsIn_nodes hnL⟩, List.map_map]
    have e : (Nds 0 0 n).map ((fun id : S99 => nodeV (impl_toy_HashChildren.f (K + 1) a0 a1 a2 a3 a4 a5) L id.f0.toNat id.f1.toNat) ∘ cnode) = (Nds 0 0 n).map (nodeH (hash a0 a2 a5) (empt a0 a2 a3) L) := by
      refine List.map_congr_left (fun p hp => ?_)
      have h1 := (Nds_in n _ 0 rfl p hp).2
      show nodeV _ L ((p.1 : Int)).toNat ((p.2 : Int)).toNat = _
      rw [Int.toNat_natCast, Int.toNat_natCast]
      exact nodeV_eq a0 a1 a2 a3 a4 a5 L hn hm (K + 1) (by omega) p.1 p.2 (by omega)
    have hne : (Nds 0 0 n).map (nodeH (hash a0 a2 a5) (empt a0 a2 a3) L) ≠ [] := by
      intro h
      have h3 := congrArg List.length h
      rw [List.length_map] at h3
      have := Nds_nonempty (l := 0) (b := 0) (e := n) h0
      rw [h3] at this
      exact absurd this (Nat.lt_irrefl 0)
    have hbd : ∀ x ∈ (Nds 0 0 n).map (nodeH (hash a0 a2 a5) (empt a0 a2 a3) L), x.length ≤ 5009 * 300 := by
      intro x hx
      obtain ⟨p, hp, rfl⟩ := List.mem_map.mp hx
      obtain ⟨_, h1⟩ := Nds_in n _ 0 rfl p hp
      have hpp := Nat.two_pow_pos p.1
      have e1 : (p.2 + 1) * 2 ^ p.1 = p.2 * 2 ^ p.1 + 2 ^ p.1 := by rw [Nat.add_mul, Nat.one_mul]
      have l1 : (seg L (p.2 * 2 ^ p.1) ((p.2 + 1) * 2 ^ p.1)).length = 2 ^ p.1 := by rw [seg_length (by omega)]; omega
      have m1 := mth_length (hash_grows a0 a2 a5) (empt a0 a2 a3) 5000 _ _ l1 hpp (seg_bound hm)
      have m3 : (5000 + 9) * 2 ^ p.1 ≤ 5009 * 300 := Nat.mul_le_mul_left _ (by omega)
      show (mth _ _ _).length ≤ _
      omega
    have hs := sum_le _ _ hbd
    have hl2 : ((Nds 0 0 n).map (nodeH (hash a0 a2 a5) (empt a0 a2 a3) L)).length ≤ 128 := by rw [List.length_map]; omega
    have hs2 : 5009 * 300 * ((Nds 0 0 n).map (nodeH (hash a0 a2 a5) (empt a0 a2 a3) L)).length ≤ 5009 * 300 * 128 := Nat.mul_le_mul_left _ hl2
    have hf := (foldR_eq a0 a1 a2 a3 a4 a5 (empt a0 a2 a3) (K + 1) _ 200000000 hne (by omega) (by omega) (by omega)).1
    rw [e, hf, Option.bind_some, fold_nodes (hash a0 a2 a5) (empt a0 a2 a3) L n hnL _ n 0 rfl (Nat.zero_mod _) (by have := Nat.lt_two_pow_self (n := n); omega) h0, seg_zero]
end Go.Proofs.YtielnphmcaecdaaDoor.Hsh
namespace Go.Proofs.YtielnphmcaecdaaDoor.Hsh
open Go.RowKit Go.Proofs.YtielnphmcaecdaaDoor.Num Go.Proofs.YtielnphmcaecdaaDoor.Mth Go.Proofs.YtielnphmcaecdaaDoor.PAll Go.Proofs.YtielnphmcaecdaaDoorW.PrintWords Go.Proofs.YtielnphmcaecdaaDoorW.PrintLast
set_option linter.unusedVariables false
set_option linter.unusedSimpArgs false
theorem ones_full : ∀ D, ones (2 ^ D - 1) = D
  | 0 => by rw [Nat.pow_zero, Nat.sub_self, ones_zero]
  | D + 1 => by
    have hp := Nat.two_pow_pos D
    rw [ones_half, Nat.pow_succ, show (2 ^ D * 2 - 1) / 2 = 2 ^ D - 1 by omega, ones_full D]; omega
theorem pow_le_sub {D x : Nat} (hx : x ≤ 300) (h : 2 ^ D ≤ x + 1) : D ≤ 9 := by
  apply Nat.le_of_not_lt; intro h1
  have h2 := Nat.pow_le_pow_right (n := 2) (by decide) (show 10 ≤ D from h1)
  have : (2 : Nat) ^ 10 = 1024 := rfl
  omega
theorem tones_le {x : Nat} (hx : x ≤ 300) : tones x ≤ 9 ∧ 2 ^ tones x ≤ x + 1 ∧ x % 2 ^ tones x = 2 ^ tones x - 1 := by
  obtain ⟨_, _, h3⟩ := tones_spec x
  have hp := Nat.two_pow_pos (tones x)
  have hd := Nat.div_add_mod (x + 1) (2 ^ tones x)
  rw [h3, Nat.add_zero] at hd
  obtain ⟨q, hq⟩ : ∃ q, (x + 1) / 2 ^ tones x = q + 1 := by
    refine ⟨(x + 1) / 2 ^ tones x - 1, ?_⟩
    rcases Nat.eq_zero_or_pos ((x + 1) / 2 ^ tones x) with h | h
    · rw [h, Nat.mul_zero] at hd; omega
    · omega
  rw [hq, Nat.mul_add, Nat.mul_one] at hd
  have hle : 2 ^ tones x ≤ x + 1 := by omega
  refine ⟨pow_le_sub hx hle, hle, ?_⟩
  have key : ∀ T, x = (2 ^ T - 1) + 2 ^ T * q → x % 2 ^ T = 2 ^ T - 1 := fun T e => by
    have hpT := Nat.two_pow_pos T
    rw [e, Nat.add_mul_mod_self_left, Nat.mod_eq_of_lt (by omega)]
  exact key _ (by omega)
theorem path_num {X a b : Nat} (hX : 0 < X) (hz : 0 < tzn X) (ha : a + 1 = X ∨ a + 2 = X) (hb : b = X ∨ b = X + 1) : fork a b = tzn X + 1 := by
  obtain ⟨e, ho⟩ := tzn_spec hX
  obtain ⟨q, hq, hqo⟩ := odd_succ ho
  have hp : 2 ≤ 2 ^ tzn X := by
    obtain ⟨d, hd⟩ : ∃ d, tzn X = d + 1 := ⟨tzn X - 1, by omega⟩
    rw [hd, Nat.pow_succ]
    have := Nat.two_pow_pos d; omega
  rw [hq, Nat.mul_add, Nat.mul_one] at e
  have h1 : a / 2 ^ tzn X = q := by
    obtain ⟨r, hr, hr2⟩ : ∃ r, a = r + 2 ^ tzn X * q ∧ r < 2 ^ tzn X := ⟨a - 2 ^ tzn X * q, by omega, by omega⟩
    rw [hr, Nat.add_mul_div_left _ _ (by omega), Nat.div_eq_of_lt hr2, Nat.zero_add]
  have h2 : b / 2 ^ tzn X = q + 1 := by
    obtain ⟨r, hr, hr2⟩ : ∃ r, b = r + 2 ^ tzn X * (q + 1) ∧ r < 2 ^ tzn X := ⟨b - 2 ^ tzn X * (q + 1), by rw [Nat.mul_add, Nat.mul_one]; omega, by rw [Nat.mul_add, Nat.mul_one]; omega⟩
    rw [hr, Nat.add_mul_div_left _ _ (by omega), Nat.div_eq_of_lt hr2, Nat.zero_add]
  refine fork_is ?_ (by omega)
  rw [Nat.pow_succ, ← Nat.div_div_eq_div_mul, ← Nat.div_div_eq_div_mul, h1, h2]; omega
theorem tones_even {x : Nat} (h : x % 2 = 0) : tones x = 0 := by
  rcases Nat.eq_zero_or_pos (tones x) with h1 | h1
  · exact h1
  · have := (tones_spec x).1 0 h1
    rw [Nat.pow_zero, Nat.div_one] at this; omega
theorem tones_pos {x : Nat} (h : x % 2 = 1) : 0 < tones x := by
  rcases Nat.eq_zero_or_pos (tones x) with h1 | h1
  · have := (tones_spec x).2.1
    rw [h1, Nat.pow_zero, Nat.div_one] at this; omega
  · exact h1
theorem tzn_odd {x : Nat} (h : x % 2 = 1) : tzn x = 0 := by
  rcases Nat.eq_zero_or_pos (tzn x) with h1 | h1
  · exact h1
  · obtain ⟨e, _⟩ := tzn_spec (show 0 < x by omega)
    obtain ⟨d, hd⟩ : ∃ d, tzn x = d + 1 := ⟨tzn x - 1, by omega⟩
    rw [hd, Nat.pow_succ, Nat.mul_comm (2 ^ d), Nat.mul_assoc] at e
    omega
theorem tzn_pos {x : Nat} (h0 : 0 < x) (h : x % 2 = 0) : 0 < tzn x := by
  rcases Nat.eq_zero_or_pos (tzn x) with h1 | h1
  · obtain ⟨e, ho⟩ := tzn_spec h0
    rw [h1, Nat.pow_zero, Nat.div_one] at ho; omega
  · exact h1
theorem tz_eq {x : Nat} (h0 : 0 < x) (hx : x < 18446744073709551616) : bits_TrailingZeros64.f (x : Int) = some ((tzn x : Nat) : Int) := by
  obtain ⟨e, ho⟩ := tzn_spec h0
  have := bits_TrailingZeros64.eq (tzn x) (x / 2 ^ tzn x) ho (by rw [← e]; exact hx)
  rw [← e] at this
  exact this
theorem tzn_le {x : Nat} (h0 : 0 < x) (hx : x ≤ 301) : tzn x ≤ 9 := by
  obtain ⟨e, ho⟩ := tzn_spec h0
  obtain ⟨q, hq, _⟩ := odd_succ ho
  rw [hq, Nat.mul_add, Nat.mul_one] at e
  have : 2 ^ tzn x ≤ x := by omega
  apply Nat.le_of_not_lt; intro h1
  have h2 := Nat.pow_le_pow_right (n := 2) (by decide) (show 10 ≤ tzn x from h1)
  have : (2 : Nat) ^ 10 = 1024 := rfl
  omega
theorem mpOk_true (x k : Nat) (hx : x ≤ 300) : mpOk (k + 1) x = true := by
  obtain ⟨t1, t2, t3⟩ := tones_le hx
  have hones : ∀ low, low ≤ 64 → (0 < tones x → low = 0) → bits_OnesCount64.f (Go.bits .and .u64 ((x : Int) / 2 ^ min low 64) (IntKind.u64.wrap (IntKind.u64.wrap (2 ^ min (tones x) 64) - 1))) = some (tones x : Int) := by
    intro low hl h0
    have hp := Nat.two_pow_pos (tones x)
    have e1 : ((2 : Int) ^ min (tones x) 64) = ((2 ^ tones x : Nat) : Int) := by rw [Nat.min_eq_left (by omega), Int.natCast_pow]; rfl
    have e2 : (x : Int) / 2 ^ min low 64 = ((x / 2 ^ low : Nat) : Int) := by rw [Nat.min_eq_left hl, Int.natCast_ediv, Int.natCast_pow]; rfl
    have hq := Nat.div_le_self x (2 ^ low)
    rw [e1, e2, u64in (by omega), show ((2 ^ tones x : Nat) : Int) - 1 = ((2 ^ tones x : Nat) : Int) - ((1 : Nat) : Int) from rfl, u64sub (by omega) (by omega)]
    have e3 := u64_and_nat (x / 2 ^ low) (2 ^ tones x - 1) (by omega) (by omega)
    rw [Nat.and_two_pow_sub_one_eq_mod] at e3
    refine (congrArg bits_OnesCount64.f e3).trans ?_
    have e4 : x / 2 ^ low % 2 ^ tones x = 2 ^ tones x - 1 := by
      rcases Nat.eq_zero_or_pos (tones x) with h | h
      · rw [h, Nat.pow_zero, Nat.mod_one]
      · rw [h0 h, Nat.pow_zero, Nat.div_one]; exact t3
    rw [e4, bits_OnesCount64.eq _ (by omega), ones_full]
  unfold mpOk
  simp only [Bool.and_eq_true, decide_eq_true_eq]
  have htz : 0 < x → tzn x ≤ 9 := fun h => tzn_le h (by omega)
  refine ⟨⟨⟨?_, ?_⟩, ?_⟩, ?_⟩
  · unfold compact_getMergePath.f
    by_cases h0 : x = 0
    · subst h0
      have e1 : bits_TrailingZeros64.f ((0 : Nat) : Int) = some 64 := rfl
      have e2 : IntKind.u64.wrap (((0 : Nat) : Int) - 1) = ((18446744073709551615 : Nat) : Int) := by decide
      rw [e1, Option.bind_some, if_pos rfl, e2, xor64 _ _ (by omega) (by omega), bits_Len64.eq k _ (Nat.xor_lt_two_pow (n := 64) (by omega) (by omega)), Option.bind_some]
      have e3 : blen (18446744073709551615 ^^^ (0 + 1)) = 64 := by decide +kernel
      rw [e3, if_neg (by omega), if_pos rfl]; rfl
    · have hf : fork (x - 1) (x + 1) = (if tones x = 0 then tzn x else tones x) + 1 := by
        rcases Nat.mod_two_eq_zero_or_one x with h | h
        · rw [if_pos (tones_even h)]
          exact path_num (X := x) (by omega) (tzn_pos (by omega) h) (by omega) (by omega)
        · have hp := tones_pos h
          rw [if_neg (by omega)]
          exact path_num (X := x + 1) (by omega) hp (by omega) (by omega)
      have hfl : (if tones x = 0 then tzn x else tones x) ≤ 9 := by
        split
        · exact htz (by omega)
        · exact t1
      rw [tz_eq (by omega) (by omega), Option.bind_some, if_pos rfl, show (x : Int) - 1 = (x : Int) - ((1 : Nat) : Int) from rfl, u64sub (by omega) (by omega), xor64 _ _ (by omega) (by omega), bits_Len64.eq k _ (Nat.xor_lt_two_pow (n := 64) (by omega) (by omega)), Option.bind_some]
      have e3 : blen ((x - 1) ^^^ (x + 1)) = (if tones x = 0 then tzn x else tones x) + 1 := hf
      rw [e3, if_pos (by omega), if_neg h0]
      have e4 : IntKind.u64.wrap ((tzn x : Nat) : Int) = (((if tones x = 0 then tzn x else 0 : Nat)) : Int) := by
        rw [u64in (by have := htz (by omega); omega)]
        rcases Nat.mod_two_eq_zero_or_one x with h | h
        · rw [if_pos (tones_even h)]
        · rw [if_neg (by have := tones_pos h; omega), tzn_odd h]
      have e5 : IntKind.u64.wrap (wrap64 ((((if tones x = 0 then tzn x else tones x) + 1 : Nat) : Int) - 1)) = ((if tones x = 0 then tzn x else tones x : Nat) : Int) := by
        have : wrap64 ((((if tones x = 0 then tzn x else tones x) + 1 : Nat) : Int) - 1) = ((if tones x = 0 then tzn x else tones x : Nat) : Int) := by unfold wrap64; omega
        rw [this]
        exact u64in (by omega)
      rw [e4, e5]
  · refine hones _ ?_ (fun h => if_neg (by omega))
    split
    · rcases Nat.eq_zero_or_pos x with h | h
      · subst h
        have : tzn 0 = 0 := by unfold tzn; rw [lev, if_neg (by omega)]
        omega
      · have := htz h; omega
    · omega
  · intro h
    subst h
    have e1 : ((0 : Nat) : Int) / 2 ^ min 64 64 = ((0 : Nat) : Int) := by simp
    have e2 : Go.bits .and .u64 ((0 : Nat) : Int) ((0 : Nat) : Int) = ((0 &&& 0 : Nat) : Int) := u64_and_nat 0 0 (by omega) (by omega)
    rw [e1]
    refine (congrArg bits_OnesCount64.f e2).trans ?_
    rw [Nat.and_self, bits_OnesCount64.eq 0 (by omega), ones_zero]; rfl
  · split
    · rcases Nat.eq_zero_or_pos x with h | h
      · subst h
        have : tzn 0 = 0 := by unfold tzn; rw [lev, if_neg (by omega)]
        omega
      · have := htz h; omega
    · omega
end Go.Proofs.YtielnphmcaecdaaDoor.Hsh
namespace Go.Proofs.YtielnphmcaecdaaDoor.Hsh
open Go.RowKit Go.Proofs.YtielnphmcaecdaaDoor.Num Go.Proofs.YtielnphmcaecdaaDoor.Mth Go.Proofs.YtielnphmcaecdaaDoor.PAll Go.Proofs.YtielnphmcaecdaaDoorW.PrintWords Go.Proofs.YtielnphmcaecdaaDoorW.PrintLast
set_option linter.unusedVariables false
set_option linter.unusedSimpArgs false
theorem node_le (a0 a2 a3 a5 : Int) (L : List (List Int)) (hn : L.length ≤ 300) (hm : ∀ x ∈ L, x.length ≤ 5000) (p : Nat × Nat) (hp : (p.2 + 1) * 2 ^ p.1 ≤ L.length) : (nodeH (hash a0 a2 a5) (empt a0 a2 a3) L p).length ≤ 1502700 := by
  have h1 := seg_length (b := p.2 * 2 ^ p.1) hp
  have hp2 := Nat.two_pow_pos p.1
  have h0 : p.2 * 2 ^ p.1 < (p.2 + 1) * 2 ^ p.1 := Nat.mul_lt_mul_of_pos_right (by omega) hp2
  have h2 := mth_length (hash_grows a0 a2 a5) (empt a0 a2 a3) 5000 _ (seg L (p.2 * 2 ^ p.1) ((p.2 + 1) * 2 ^ p.1)) rfl (by rw [h1]; omega) (seg_bound hm)
  rw [h1] at h2
  have h3 : (p.2 + 1) * 2 ^ p.1 - p.2 * 2 ^ p.1 ≤ 300 := by omega
  have h4 := Nat.mul_le_mul_left (5000 + 9) h3
  unfold nodeH
  omega
def Rg (H : List Int → List Int → List Int) (E : List Int) (L : List (List Int)) (n : Nat) : List (List Int) := (Nds 0 0 n).map (nodeH H E L)
theorem Rg_len (H : List Int → List Int → List Int) (E : List Int) (L : List (List Int)) (n : Nat) : (Rg H E L n).length = (Nds 0 0 n).length := List.length_map _
theorem Rg_le (a0 a2 a3 a5 : Int) (L : List (List Int)) (hn : L.length ≤ 300) (hm : ∀ x ∈ L, x.length ≤ 5000) (n : Nat) (hnL : n ≤ L.length) : (Rg (hash a0 a2 a5) (empt a0 a2 a3) L n).length ≤ 128 ∧ ∀ x ∈ Rg (hash a0 a2 a5) (empt a0 a2 a3) L n, x.length ≤ 1502700 := by
  refine ⟨by rw [Rg_len]; have := Nds_len 0 0 n 64 (by omega); omega, fun x hx => ?_⟩
  obtain ⟨p, hp, rfl⟩ := List.mem_map.mp hx
  obtain ⟨_, h1⟩ := Nds_in n _ 0 rfl p hp
  exact node_le a0 a2 a3 a5 L hn hm p (by omega)
theorem up_in {x t : Nat} (h : t ≤ tones x) : (x / 2 ^ t + 1) * 2 ^ t ≤ x + 1 := by
  have hc := carry (n := x) (ℓ := t) (fun j hj => tones_odd x j (by omega))
  have := Nat.div_mul_le_self (x + 1) (2 ^ t)
  rw [hc] at this
  exact this
theorem mseed_nodes (a0 a1 a2 a3 a4 a5 : Int) (L : List (List Int)) (hn : L.length ≤ 300) (hm : ∀ x ∈ L, x.length ≤ 5000) (K : Nat) (hK : 10000000 ≤ K) (x : Nat) (hx : x < L.length) : ∀ t, t ≤ tones x →
    mseed (impl_toy_HashChildren.f K a0 a1 a2 a3 a4 a5) (Rg (hash a0 a2 a5) (empt a0 a2 a3) L x) (L.getD x []) t = some (nodeH (hash a0 a2 a5) (empt a0 a2 a3) L (t, x / 2 ^ t))
  | 0, _ => by
    rw [mseed]
    show _ = some (mth _ _ (seg L (x / 2 ^ 0 * 2 ^ 0) ((x / 2 ^ 0 + 1) * 2 ^ 0)))
    rw [Nat.pow_zero, Nat.div_one, Nat.mul_one, Nat.mul_one, seg_one hx, mth_one, List.getD_eq_getElem?_getD, List.getElem?_eq_getElem hx]; rfl
  | t + 1, ht => by
    have hat := Nds_at x t (by omega)
    have hod := tones_odd x t (by omega)
    have hu := up_in ht
    have hu0 := up_in (x := x) (t := t) (by omega)
    rw [mseed, mseed_nodes a0 a1 a2 a3 a4 a5 L hn hm K hK x hx t (by omega), Option.bind_some, Rg_len, List.getD_eq_getElem?_getD]
    unfold Rg
    rw [List.getElem?_map, hat]
    obtain ⟨j, hj⟩ : ∃ j, x / 2 ^ t = 2 * j + 1 := ⟨x / 2 ^ t / 2, by omega⟩
    have hj2 : x / 2 ^ (t + 1) = j := by rw [Nat.pow_succ, ← Nat.div_div_eq_div_mul, hj]; omega
    rw [hj2] at hu ⊢
    rw [hj] at hu0 ⊢
    have hp := Nat.two_pow_pos t
    have e1 : (2 * j + 1) * 2 ^ t ≤ (2 * j + 1 + 1) * 2 ^ t := Nat.mul_le_mul_right _ (by omega)
    have l1 := node_le a0 a2 a3 a5 L hn hm (t, 2 * j) (by show (2 * j + 1) * 2 ^ t ≤ _; omega)
    have l2 := node_le a0 a2 a3 a5 L hn hm (t, 2 * j + 1) (by show (2 * j + 1 + 1) * 2 ^ t ≤ _; omega)
    show impl_toy_HashChildren.f K a0 a1 a2 a3 a4 a5 (nodeH _ _ L (t, 2 * j + 1 - 1)) (nodeH _ _ L (t, 2 * j + 1)) = _
    rw [Nat.add_sub_cancel, impl_hash _ _ _ _ _ _ _ _ (by omega) (by omega) (by omega)]
    show some (hash a0 a2 a5 (mth _ _ (seg L (2 * j * 2 ^ t) ((2 * j + 1) * 2 ^ t))) (mth _ _ (seg L ((2 * j + 1) * 2 ^ t) ((2 * j + 1 + 1) * 2 ^ t)))) = some (mth _ _ (seg L (j * 2 ^ (t + 1)) ((j + 1) * 2 ^ (t + 1))))
    rw [mth_perfect _ _ (show (j + 1) * 2 ^ (t + 1) ≤ L.length by omega)]
theorem stepApp_eq (a0 a1 a2 a3 a4 a5 : Int) (L : List (List Int)) (hn : L.length ≤ 300) (hm : ∀ x ∈ L, x.length ≤ 5000) (K : Nat) (hK : 10000000 ≤ K) (x : Nat) (hx : x < L.length) (nv : Nat) (hv : nv ≤ 1000000) :
    ∃ V, V.length ≤ 130 ∧ stepApp (impl_toy_HashChildren.f K a0 a1 a2 a3 a4 a5) K x (Rg (hash a0 a2 a5) (empt a0 a2 a3) L x) (L.getD x []) nv = some (Rg (hash a0 a2 a5) (empt a0 a2 a3) L (x + 1), V) := by
  have hms := mseed_nodes a0 a1 a2 a3 a4 a5 L hn hm K hK x hx
  obtain ⟨t1, t2, t3⟩ := tones_le (show x ≤ 300 by omega)
  obtain ⟨m1, m2⟩ := Nds_more x
  obtain ⟨k, rfl⟩ : ∃ k, K = k + 1 := ⟨K - 1, by omega⟩
  have hl := (Rg_le a0 a2 a3 a5 L hn hm x (by omega)).1
  have hok : stepOk (impl_toy_HashChildren.f (k + 1) a0 a1 a2 a3 a4 a5) (k + 1) x (Rg (hash a0 a2 a5) (empt a0 a2 a3) L x) (L.getD x []) nv = true := by
    unfold stepOk
    simp only [Bool.and_eq_true, decide_eq_true_eq]
    refine ⟨mpOk_true x k (by omega), by rw [Rg_len]; exact m1, by omega, by omega, List.all_eq_true.mpr (fun t ht => ?_)⟩
    have ht := List.mem_range.mp ht
    have hu := up_in (x := x) (t := t) (by omega)
    have := node_le a0 a2 a3 a5 L hn hm (t, x / 2 ^ t) (by show (x / 2 ^ t + 1) * 2 ^ t ≤ _; omega)
    unfold sdsOf
    rw [hms t (by omega)]
    show decide ((nodeH _ _ L (t, x / 2 ^ t)).length ≤ _) = true
    rw [decide_eq_true_eq]; omega
  refine ⟨stepV (impl_toy_HashChildren.f (k + 1) a0 a1 a2 a3 a4 a5) x (Rg (hash a0 a2 a5) (empt a0 a2 a3) L x) (L.getD x []), ?_, ?_⟩
  · unfold stepV visA
    rw [List.length_cons, List.length_map, List.length_range]; omega
  · unfold stepApp
    rw [hms _ (Nat.le_refl _), Option.bind_some, if_pos hok]
    congr 2
    rw [Rg_len]
    unfold Rg
    rw [m2, List.map_append, List.map_take]; rfl
theorem appAll_eq (a0 a1 a2 a3 a4 a5 : Int) (L : List (List Int)) (hn : L.length ≤ 300) (hm : ∀ x ∈ L, x.length ≤ 5000) (K : Nat) (hK : 10000000 ≤ K) (m : Nat) (hmL : m ≤ L.length) : ∀ (d x : Nat) (vs : List S51), x + d = m → vs.length ≤ 130 * x →
    ∃ vs', appAll (impl_toy_HashChildren.f K a0 a1 a2 a3 a4 a5) K x (Rg (hash a0 a2 a5) (empt a0 a2 a3) L x) vs ((L.take m).drop x) = some (Rg (hash a0 a2 a5) (empt a0 a2 a3) L m, vs')
  | 0, x, vs, hx, hv => by
    obtain rfl : x = m := by omega
    rw [List.drop_of_length_le (by rw [List.length_take]; omega), appAll]
    exact ⟨vs, rfl⟩
  | d + 1, x, vs, hx, hv => by
    obtain ⟨V, v1, v2⟩ := stepApp_eq a0 a1 a2 a3 a4 a5 L hn hm K hK x (by omega) vs.length (by omega)
    obtain ⟨vs', h'⟩ := appAll_eq a0 a1 a2 a3 a4 a5 L hn hm K hK m hmL d (x + 1) (vs ++ V) (by omega) (by rw [List.length_append]; omega)
    have hd : (L.take m).drop x = L.getD x [] :: (L.take m).drop (x + 1) := by
      rw [List.drop_eq_getElem_cons (by rw [List.length_take]; omega), List.getElem_take, List.getD_eq_getElem?_getD, List.getElem?_eq_getElem (by omega)]; rfl
    rw [hd, appAll, v2, Option.bind_some]
    exact ⟨vs', h'⟩
theorem impl_Append.eq (a0 a1 a2 a3 a4 a5 : Int) (L : List (List Int)) (hn : L.length ≤ 300) (hm : ∀ x ∈ L, x.length ≤ 5000) (K : Nat) (hK : 3000000000 ≤ K) (x m : Nat) (hx : x ≤ m) (hmL : m ≤ L.length) :
    ∃ vs, impl_Append.f (K + 1) a0 a1 a2 a3 a4 a5 0 (x : Int) (Rg (hash a0 a2 a5) (empt a0 a2 a3) L x) ((L.take m).drop x) = some (0, (m : Int), Rg (hash a0 a2 a5) (empt a0 a2 a3) L m, vs, true) := by
  obtain ⟨r1, r2⟩ := Rg_le a0 a2 a3 a5 L hn hm x (by omega)
  obtain ⟨s1, s2⟩ := Rg_le a0 a2 a3 a5 L hn hm m hmL
  have hll : ((L.take m).drop x).length = m - x := by rw [List.length_drop, List.length_take]; omega
  have hlm : ∀ y ∈ (L.take m).drop x, y.length ≤ 5000 := fun y hy => hm y (List.mem_of_mem_take (List.mem_of_mem_drop hy))
  have htx : ∀ (l : List (List Int)) (b : Nat), l.length ≤ 1000 → (∀ y ∈ l, y.length ≤ b) → b ≤ 2147483647 → impl_texts.f (K + 1) l = some l := fun l b h1 h2 h3 => texts_eq l (by omega) (fun j hj => by
    rw [List.getD_eq_getElem?_getD, List.getElem?_eq_getElem hj]
    exact Nat.le_trans (h2 _ (List.getElem_mem hj)) h3) (by omega)
  obtain ⟨vs, hvs⟩ := appAll_eq a0 a1 a2 a3 a4 a5 L hn hm (K + 1) (by omega) m hmL (m - x) x [] (by omega) (by simp)
  refine ⟨vs, ?_⟩
  unfold impl_Append.f
  rw [if_pos ⟨rfl, by omega, by rw [hll]; omega, by rw [show (0 : Int) = ((0 : Nat) : Int) from rfl, compact_RangeSize.eq 0 x (Nat.zero_le _) (by omega) K, Rg_len]⟩, htx _ 1502700 (by omega) r2 (by omega), Option.bind_some, htx _ 5000 (by omega) hlm (by omega), Option.bind_some, if_pos ⟨rfl, rfl⟩, Int.toNat_natCast, hvs, Option.bind_some, htx _ 1502700 (by omega) s2 (by omega), Option.bind_some, hll, show x + (m - x) = m by omega]
theorem rseed_fold {F : List Int → List Int → Option (List Int)} {xs : List (List Int)} {M : Nat} (hM : xs.length = M + 1) : ∀ i, i ≤ M → rseed F xs M i = foldR_ F (xs.drop (M - i))
  | 0, _ => by
    rw [rseed, Nat.sub_zero, List.drop_eq_getElem_cons (by omega), List.drop_of_length_le (by omega), foldR_, List.getD_eq_getElem?_getD, List.getElem?_eq_getElem (by omega)]; rfl
  | i + 1, hi => by
    rw [rseed, rseed_fold hM i (by omega)]
    have hne : xs.drop (M - i) ≠ [] := by
      intro h
      have := congrArg List.length h
      rw [List.length_drop, List.length_nil] at this; omega
    have hd : xs.drop (M - (i + 1)) = xs.getD (M - 1 - i) [] :: xs.drop (M - i) := by
      rw [show M - (i + 1) = M - 1 - i by omega, List.drop_eq_getElem_cons (show M - 1 - i < xs.length by omega), List.getD_eq_getElem?_getD, List.getElem?_eq_getElem (show M - 1 - i < xs.length by omega), show M - 1 - i + 1 = M - i by omega]; rfl
    rw [hd, foldR_cons hne]
theorem zI_eq {n : Nat} (hn : n ≤ 300) : ∀ i, i < (Nds 0 0 n).length → zI (n : Int) i = ((zN n i : Nat) : Int) ∧ zN n i ≤ 300
  | 0, _ => ⟨rfl, hn⟩
  | i + 1, h => by
    obtain ⟨h1, h2⟩ := zI_eq hn i (by omega)
    have hp := (zN_pos (show i < (Nds 0 0 n).length by omega)).1
    obtain ⟨_, _, s3, s4⟩ := zN_step hp
    refine ⟨?_, Nat.le_trans (Nat.le.intro s3) h2⟩
    rw [zI, h1, show ((zN n i : Nat) : Int) - 1 = ((zN n i : Nat) : Int) - ((1 : Nat) : Int) from rfl, u64sub (by omega) (by omega)]
    exact (u64_and_nat (zN n i) (zN n i - 1) (by omega) (by omega)).trans (by rw [s4])
theorem fold_part (a0 a1 a2 a3 a4 a5 : Int) (L : List (List Int)) (hn : L.length ≤ 300) (hm : ∀ x ∈ L, x.length ≤ 5000) (K : Nat) (hK : 2000000100 ≤ K) (n : Nat) (hnL : n ≤ L.length) (i : Nat) (hi : i < (Nds 0 0 n).length) :
    foldR_ (impl_toy_HashChildren.f K a0 a1 a2 a3 a4 a5) ((Rg (hash a0 a2 a5) (empt a0 a2 a3) L n).drop ((Nds 0 0 n).length - 1 - i)) = some (mth (hash a0 a2 a5) (empt a0 a2 a3) (seg L (zN n (i + 1)) n)) ∧ (mth (hash a0 a2 a5) (empt a0 a2 a3) (seg L (zN n (i + 1)) n)).length ≤ 200000000 := by
  have hp := (zN_pos hi).1
  obtain ⟨n1, n2, n3⟩ := zN_near (n := n) i hi
  obtain ⟨s1, s2, s3, _⟩ := zN_step hp
  have hpl := (zN_pos hi).2
  have hpp := Nat.two_pow_pos (tzn (zN n i))
  have hlt : zN n (i + 1) < n := by omega
  -- the nodes behind the first ones
  have e1 : Nds 0 0 n = Nds 0 0 (zN n (i + 1)) ++ Nds 0 (zN n (i + 1)) n := by
    have hz : zN n (i + 1) % 2 ^ tzn (zN n i) = 0 := by rw [s1, Nat.mul_mod_right]
    have hlev : lev (zN n (i + 1)) n = tzn (zN n i) := lev_is' hlt hz (by omega) (by rw [Nat.pow_succ]; omega)
    rw [Nds_step 0 (zN n (i + 1)) n hlt, hlev, s3, Nat.zero_add]
    conv => lhs; rw [n3, s2, List.append_assoc]
    rw [show zN n (i + 1) / 2 ^ tzn (zN n i) = zN n i / 2 ^ tzn (zN n i) - 1 by rw [s1, Nat.mul_div_cancel_left _ hpp]]; rfl
  have hl1 : (Nds 0 0 (zN n (i + 1))).length = (Nds 0 0 n).length - 1 - i := by
    have := congrArg List.length s2
    rw [List.length_append, List.length_singleton] at this; omega
  have hdrop : (Rg (hash a0 a2 a5) (empt a0 a2 a3) L n).drop ((Nds 0 0 n).length - 1 - i) = (Nds 0 (zN n (i + 1)) n).map (nodeH (hash a0 a2 a5) (empt a0 a2 a3) L) := by
    obtain ⟨k, hk⟩ : ∃ k, (Nds 0 0 n).length - 1 - i = k := ⟨_, rfl⟩
    rw [hk] at hl1 ⊢
    unfold Rg
    rw [e1, List.map_append, ← hl1, List.drop_left' (by rw [List.length_map])]
  obtain ⟨r1, r2⟩ := Rg_le a0 a2 a3 a5 L hn hm n hnL
  have hne : (Nds 0 (zN n (i + 1)) n).map (nodeH (hash a0 a2 a5) (empt a0 a2 a3) L) ≠ [] := by
    intro h
    have h3 := congrArg List.length h
    rw [List.length_map] at h3
    have := Nds_nonempty (l := 0) hlt
    rw [h3] at this
    exact absurd this (Nat.lt_irrefl 0)
  have hbd : ∀ x ∈ (Nds 0 (zN n (i + 1)) n).map (nodeH (hash a0 a2 a5) (empt a0 a2 a3) L), x.length ≤ 1502700 := fun x hx => by
    rw [← hdrop] at hx
    exact r2 x (List.mem_of_mem_drop hx)
  have hs := sum_le _ _ hbd
  have hl2 : ((Nds 0 (zN n (i + 1)) n).map (nodeH (hash a0 a2 a5) (empt a0 a2 a3) L)).length ≤ 128 := by
    rw [← hdrop, List.length_drop]; omega
  have hs2 : 1502700 * ((Nds 0 (zN n (i + 1)) n).map (nodeH (hash a0 a2 a5) (empt a0 a2 a3) L)).length ≤ 1502700 * 128 := Nat.mul_le_mul_left _ hl2
  obtain ⟨f1, f2⟩ := foldR_eq a0 a1 a2 a3 a4 a5 (empt a0 a2 a3) K _ 200000000 hne (by omega) (by omega) hK
  have hz2 : zN n (i + 1) % 2 ^ (tzn (zN n i) + 1) = 0 := by
    obtain ⟨q, hq, hqo⟩ := odd_succ (tzn_spec hp).2
    rw [hq, Nat.add_sub_cancel] at s1
    obtain ⟨r, hr⟩ : ∃ r, q = 2 * r := ⟨q / 2, by omega⟩
    rw [s1, hr, Nat.pow_succ, ← Nat.mul_assoc, Nat.mul_mod_right]
  have hfn := fold_nodes (hash a0 a2 a5) (empt a0 a2 a3) L n hnL _ (tzn (zN n i) + 1) (zN n (i + 1)) rfl hz2 (by rw [Nat.pow_succ]; omega) hlt
  rw [hdrop, f1, hfn]
  rw [hfn] at f2
  exact ⟨rfl, f2⟩
theorem zN_end {n : Nat} (h : 0 < n) : zN n (Nds 0 0 n).length = 0 := by
  have hl := Nds_nonempty (l := 0) h
  obtain ⟨M, hM⟩ : ∃ M, (Nds 0 0 n).length = M + 1 := ⟨(Nds 0 0 n).length - 1, by omega⟩
  obtain ⟨h1, h2⟩ := zN_pos (show M < (Nds 0 0 n).length by omega)
  have h3 := congrArg List.length (zN_step h1).2.1
  rw [List.length_append, List.length_singleton] at h3
  rw [hM]
  rcases Nat.eq_zero_or_pos (zN n (M + 1)) with h0 | h0
  · exact h0
  · have := Nds_nonempty (l := 0) h0
    omega
theorem impl_RootHash.eq (a0 a1 a2 a3 a4 a5 : Int) (L : List (List Int)) (hn : L.length ≤ 300) (hm : ∀ x ∈ L, x.length ≤ 5000) (K : Nat) (hK : 3000000000 ≤ K) (n : Nat) (h0 : 0 < n) (hnL : n ≤ L.length) :
    impl_RootHash.f (K + 1) a0 a1 a2 a3 a4 a5 0 (n : Int) (Rg (hash a0 a2 a5) (empt a0 a2 a3) L n) = some (mth (hash a0 a2 a5) (empt a0 a2 a3) (L.take n), (List.range ((Nds 0 0 n).length - 1)).map (fun i => ⟨⟨((tzn (zN n (i + 1)) + 1 : Nat) : Int), ((zN n (i + 1) / 2 ^ (tzn (zN n (i + 1)) + 1) : Nat) : Int)⟩, mth (hash a0 a2 a5) (empt a0 a2 a3) (seg L (zN n (i + 2)) n)⟩), true) := by
  obtain ⟨r1, r2⟩ := Rg_le a0 a2 a3 a5 L hn hm n hnL
  have hl := Nds_nonempty (l := 0) h0
  obtain ⟨M, hM⟩ : ∃ M, (Nds 0 0 n).length = M + 1 := ⟨(Nds 0 0 n).length - 1, by omega⟩
  have hRM : (Rg (hash a0 a2 a5) (empt a0 a2 a3) L n).length = M + 1 := by rw [Rg_len]; exact hM
  have hrs : ∀ i, i ≤ M → rseed (impl_toy_HashChildren.f (K + 1) a0 a1 a2 a3 a4 a5) (Rg (hash a0 a2 a5) (empt a0 a2 a3) L n) M i = some (mth (hash a0 a2 a5) (empt a0 a2 a3) (seg L (zN n (i + 1)) n)) ∧ (mth (hash a0 a2 a5) (empt a0 a2 a3) (seg L (zN n (i + 1)) n)).length ≤ 200000000 := fun i hi => by
    obtain ⟨f1, f2⟩ := fold_part a0 a1 a2 a3 a4 a5 L hn hm (K + 1) (by omega) n hnL i (by omega)
    rw [show (Nds 0 0 n).length - 1 - i = M - i by omega] at f1
    exact ⟨(rseed_fold hRM i hi).trans f1, f2⟩
  have hrO : ∀ i, i ≤ M → rsOf (impl_toy_HashChildren.f (K + 1) a0 a1 a2 a3 a4 a5) (Rg (hash a0 a2 a5) (empt a0 a2 a3) L n) M i = mth (hash a0 a2 a5) (empt a0 a2 a3) (seg L (zN n (i + 1)) n) := fun i hi => by
    unfold rsOf
    rw [(hrs i hi).1]; rfl
  have htz : ∀ i, i < M → bits_TrailingZeros64.f (zI (n : Int) (i + 1)) = some ((tzn (zN n (i + 1)) : Nat) : Int) ∧ tzn (zN n (i + 1)) ≤ 9 ∧ 0 < zN n (i + 1) := fun i hi => by
    obtain ⟨z1, z2⟩ := zI_eq (show n ≤ 300 by omega) (i + 1) (by omega)
    have hp := (zN_pos (show i + 1 < (Nds 0 0 n).length by omega)).1
    rw [z1]
    exact ⟨tz_eq hp (by omega), tzn_le hp (by omega), hp⟩
  have hlv : ∀ i, i < M → lvI (n : Int) i = tzn (zN n (i + 1)) := fun i hi => by
    unfold lvI
    rw [(htz i hi).1]; rfl
  have hok : rootOk (impl_toy_HashChildren.f (K + 1) a0 a1 a2 a3 a4 a5) (n : Int) (Rg (hash a0 a2 a5) (empt a0 a2 a3) L n) M = true := by
    unfold rootOk
    simp only [Bool.and_eq_true, decide_eq_true_eq]
    refine ⟨by omega, List.all_eq_true.mpr (fun i hi => ?_), List.all_eq_true.mpr (fun i hi => ?_)⟩
    · have hi := List.mem_range.mp hi
      rw [hlv i hi, Bool.and_eq_true, decide_eq_true_eq, decide_eq_true_eq]
      exact ⟨(htz i hi).1, by have := (htz i hi).2.1; omega⟩
    · have hi := List.mem_range.mp hi
      rw [hrO i (by omega), decide_eq_true_eq]
      have := (hrs i (by omega)).2; omega
  have hroot : mth (hash a0 a2 a5) (empt a0 a2 a3) (seg L (zN n (M + 1)) n) = mth (hash a0 a2 a5) (empt a0 a2 a3) (L.take n) := by
    have := zN_end h0
    rw [hM] at this
    rw [this, seg_zero]
  have htx : impl_texts.f (K + 1) (Rg (hash a0 a2 a5) (empt a0 a2 a3) L n) = some (Rg (hash a0 a2 a5) (empt a0 a2 a3) L n) := texts_eq _ (by omega) (fun j hj => by
    rw [List.getD_eq_getElem?_getD, List.getElem?_eq_getElem hj]
    exact Nat.le_trans (r2 _ (List.getElem_mem hj)) (by omega)) (by omega)
  unfold impl_RootHash.f
  rw [if_pos ⟨rfl, by omega, by rw [show (0 : Int) = ((0 : Nat) : Int) from rfl, compact_RangeSize.eq 0 n (Nat.zero_le _) (by omega) K, Rg_len]⟩, htx, Option.bind_some, if_pos ⟨rfl, by omega⟩, hRM, Nat.add_sub_cancel]
  unfold rootF
  rw [(hrs M (Nat.le_refl _)).1, Option.bind_some, if_pos hok, hroot, hM, Nat.add_sub_cancel]
  congr 3
  unfold rootV visR
  refine List.map_congr_left (fun i hi => ?_)
  have hi := List.mem_range.mp hi
  have h64 := (htz i hi).2.1
  dsimp only
  rw [hlv i hi, hrO (i + 1) (by omega), (zI_eq (show n ≤ 300 by omega) (i + 1) (by omega)).1]
  have e : ((zN n (i + 1) : Nat) : Int) / 2 ^ min (tzn (zN n (i + 1)) + 1) 64 = ((zN n (i + 1) / 2 ^ (tzn (zN n (i + 1)) + 1) : Nat) : Int) := by
    rw [Nat.min_eq_left (by omega), Int.natCast_ediv, Int.natCast_pow]; rfl
  rw [e]
end Go.Proofs.YtielnphmcaecdaaDoor.Hsh
namespace Go.Proofs.YtielnphmcaecdaaDoor.Pure
open Go.RowKit Go.Proofs.YtielnphmcaecdaaDoor.Num Go.Proofs.YtielnphmcaecdaaDoor.Mth Go.Proofs.YtielnphmcaecdaaDoor.Hsh Go.Proofs.YtielnphmcaecdaaDoor.PAll Go.Proofs.YtielnphmcaecdaaDoorW.PrintWords Go.Proofs.YtielnphmcaecdaaDoorW.PrintLast
set_option linter.unusedVariables false
set_option linter.unusedSimpArgs false
theorem text_same (l : List Int) : spec_SameText.f l l = some true := by
  unfold spec_SameText.f
  rw [beq_self_eq_true]
theorem FnTreeIsRange (x0 : S24) (l1 : List (List (Int))) (a2 : Int) (w0 : ((Lit.int .i64 x0.f0).wf = true) ∧ ((Lit.int .i64 x0.f1).wf = true) ∧ ((Lit.int .i64 x0.f2).wf = true) ∧ ((Lit.int .u64 x0.f3).wf = true) ∧ ((Lit.int .u64 x0.f4).wf = true) ∧ ((Lit.int .u64 x0.f5).wf = true)) (w1 : l1.length ≤ maxLen ∧ ∀ l1' ∈ l1, l1'.length ≤ maxLen ∧ ∀ l1'' ∈ l1', (Lit.int .u8 l1'').wf = true) (w2 : (Lit.int .u64 a2).wf = true) : ∃ k, laws_FnTreeIsRange.f k x0.f0 x0.f1 x0.f2 x0.f3 x0.f4 x0.f5 l1 a2 = some true := by
  obtain ⟨a0, b1, b2, b3, a4, a5⟩ := x0
  show ∃ k, laws_FnTreeIsRange.f k a0 b1 b2 b3 a4 a5 l1 a2 = some true
  obtain ⟨n, rfl, hn64⟩ := wf_u64 w2
  obtain ⟨z, kz, hz, hfit⟩ := fits l1
  cases z with
  | false => exact ⟨kz, by unfold laws_FnTreeIsRange.f; rw [hz, Option.bind_some, if_neg (by decide)]⟩
  | true =>
  obtain ⟨f1, f2⟩ := hfit rfl
  obtain ⟨z, hz2, hsm⟩ := small l1 f1
  obtain ⟨K, hK⟩ : ∃ K, K = kz + l1.length + 4000000000 := ⟨_, rfl⟩
  refine ⟨K + 2, ?_⟩
  unfold laws_FnTreeIsRange.f
  rw [lift (fun k => laws_zzFits2.mono l1 k) hz (show kz ≤ K + 2 by omega), Option.bind_some, if_pos rfl, lift (fun k => laws_logSmall.mono l1 k) hz2 (show l1.length + 1 ≤ K + 2 by omega), Option.bind_some]
  cases z with
  | false => rw [if_neg (by decide), laws_FnTreeIsRange.j0, if_pos rfl]
  | true =>
  obtain ⟨g1, g2⟩ := hsm rfl
  have hm := mem_bound g2
  have hw : IntKind.u64.wrap (l1.length : Int) = (l1.length : Int) := u64in (by omega)
  rw [if_pos rfl]
  by_cases h0 : (n : Int) = 0
  · rw [if_pos h0, laws_FnTreeIsRange.j0, if_pos rfl]
  rw [if_neg h0, hw, laws_FnTreeIsRange.j0]
  by_cases h : (n : Int) > (l1.length : Int)
  · rw [if_pos (decide_eq_true h)]
  have hn0 : 0 < n := by omega
  have hnL : n ≤ l1.length := by omega
  obtain ⟨v1, e1⟩ := impl_Append.eq a0 b1 b2 b3 a4 a5 l1 g1 hm K (by omega) 0 n (Nat.zero_le _) hnL
  obtain ⟨v2, e2⟩ := impl_Append.eq a0 b1 b2 b3 a4 a5 l1 g1 hm K (by omega) n l1.length hnL (Nat.le_refl _)
  rw [show Rg (hash a0 b2 a5) (empt a0 b2 b3) l1 0 = [] by unfold Rg; rw [Nds_empty (Nat.le_refl _)]; rfl, List.drop_zero] at e1
  rw [List.take_of_length_le (Nat.le_refl _)] at e2
  have e1 : impl_Append.f (K + 1) a0 b1 b2 b3 a4 a5 0 0 [] (l1.take n) = _ := e1
  have r1 := impl_RootHash.eq a0 b1 b2 b3 a4 a5 l1 g1 hm K (by omega) n hn0 hnL
  have r2 := impl_RootHash.eq a0 b1 b2 b3 a4 a5 l1 g1 hm K (by omega) l1.length (by omega) (Nat.le_refl _)
  have t1 := impl_TreeRoot.eq a0 b1 b2 b3 a4 a5 l1 g1 hm n hnL K (by omega)
  have t2 := impl_TreeRoot.eq a0 b1 b2 b3 a4 a5 l1 g1 hm l1.length (Nat.le_refl _) K (by omega)
  rw [if_neg (by rw [decide_eq_false h]; decide), if_pos (by omega), if_pos (by omega), Int.toNat_natCast, e1, Option.bind_some]
  dsimp only
  rw [e2, Option.bind_some]
  dsimp only
  rw [r1, Option.bind_some, r2, Option.bind_some, t1, Option.bind_some, hw, t2, Option.bind_some]
  dsimp only
  rw [if_pos rfl, if_pos rfl, if_pos rfl, if_pos rfl, if_pos rfl, if_pos rfl, text_same, Option.bind_some, if_pos rfl, text_same, Option.bind_some]
end Go.Proofs.YtielnphmcaecdaaDoor.Pure
namespace Go.Proofs.YtielnphmcaecdaaDoorW.PrintWords
open Go.RowKit Go.ChangeShapes Go.WideShapes
structure Opens {α : Type} (P : Program) (d : Kd α) (t : TypeId) (wf : α → Prop) : Prop where
  cells : P.cellsOf t = d.sz
  opens : ∀ {H : Type} {enc : TypeId × Value → H} {w : World} {base : Nat} {spare : Nat → Bool} {held : Bool} {n : Nat} {cs : List Value} {y : DataW H × List MemPlace},
    DataW.trod enc P w base spare held n t cs = some y → ∃ x, d.K w x cs ∧ wf x
theorem Opens.int {P : Program} {k : IntKind} {t : TypeId} (ht : P.underlying t = some (.int k)) (hc : P.cellsOf t = 1) : Opens P (Kd.int k) t (fun x => (Lit.int k x).wf = true) where
  cells := hc
  opens := fun h => by
    obtain ⟨n, rfl, _, hw⟩ := DataW.trod_int ht h
    exact ⟨n, rfl, hw⟩
theorem cells_of {w : World} {base : Nat} {a : Addr} {m : Nat} {cs : List Value} (h : w.cells? base a m = some cs) : cs.length = m ∧ ∀ i u, cs[i]? = some u → w.cell? (a.add i) = some u := by
  obtain ⟨_, h1, h2⟩ := World.cells?_some h
  exact ⟨h1, fun i u hu => (h2 i (by have := (List.getElem?_eq_some_iff.1 hu).1; omega)).trans hu⟩
theorem Opens.slice {α : Type} {P : Program} {d : Kd α} {t e : TypeId} {wf : α → Prop} (hd : Opens P d e wf) (ht : P.underlying t = some (.slice e)) (hc : P.cellsOf t = 1) :
    Opens P (Kd.slice e d) t (fun xs => xs.length ≤ maxLen ∧ ∀ x ∈ xs, wf x) where
  cells := hc
  opens := fun {H enc w base spare held n cs y} h => by
    rcases Deep.open_slice ht h with ⟨rfl, _⟩ | ⟨a, len, cap, m, n', D, Pl, rfl, _, hl, hm, hmm, _, hi⟩
    · exact ⟨[], ⟨none, 0, rfl, Nat.le_refl _, rfl, by simp, fun h => absurd h (by simp)⟩, by simp, fun x hx => by simp at hx⟩
    · have hle : len ≤ m := by rw [hmm]; split <;> omega
      have hx : ∀ i, i < len → ∃ x : α, wf x ∧ ∃ cs', d.K w x cs' ∧ w.cells? base (a.add (i * P.cellsOf e)) (P.cellsOf e) = some cs' := fun i h2 => by
        obtain ⟨cs', h3, h4⟩ := hi i (by omega)
        obtain ⟨x, h5, h6⟩ := hd.opens h4
        exact ⟨x, h6, cs', h5, h3⟩
      have hlist : ∀ j, j ≤ len → ∃ xs : List α, xs.length = j ∧ (∀ x ∈ xs, wf x) ∧ ∀ (i : Nat) p, xs[i]? = some p → ∃ cs', d.K w p cs' ∧ w.cells? base (a.add (i * P.cellsOf e)) (P.cellsOf e) = some cs' := by
        intro j
        induction j with
        | zero => exact fun _ => ⟨[], rfl, fun x hx => by simp at hx, fun i p hp => by simp at hp⟩
        | succ j ih =>
          intro hj
          obtain ⟨xs, h1, h2, h3⟩ := ih (by omega)
          obtain ⟨x, h4, cs', h5, h6⟩ := hx j (by omega)
          refine ⟨xs ++ [x], by simp [h1], fun z hz => ?_, fun i p hp => ?_⟩
          · rcases List.mem_append.1 hz with h7 | h7
            · exact h2 z h7
            · rw [List.mem_singleton.1 h7]; exact h4
          · by_cases hij : i < xs.length
            · rw [List.getElem?_append_left hij] at hp
              exact h3 i p hp
            · rw [List.getElem?_append_right (by omega)] at hp
              have : i = j := by
                have := (List.getElem?_eq_some_iff.1 hp).1
                simp at this; omega
              subst this
              rw [h1, Nat.sub_self] at hp
              simp at hp
              subst hp
              exact ⟨cs', h5, h6⟩
      obtain ⟨xs, h1, h2, h3⟩ := hlist len (Nat.le_refl _)
      subst h1
      refine ⟨xs, ⟨some a, cap, rfl, hl, rfl, by unfold maxLen at hm; omega, fun _ => ⟨a, rfl, fun j p hp => ?_⟩⟩, by omega, h2⟩
      obtain ⟨cs', h4, h5⟩ := h3 j p hp
      obtain ⟨h6, h7⟩ := cells_of h5
      refine ⟨cs', d.K_len h4, h4, fun i u hu => ?_⟩
      have := h7 i u hu
      rwa [Deep.add_add, hd.cells] at this
structure OpensFs {α : Type} (P : Program) (d : Kd α) (fs : List Field) (off : Nat) (wf : α → Prop) : Prop where
  opens : ∀ {H : Type} {enc : TypeId × Value → H} {w : World} {base : Nat} {spare : Nat → Bool} {held : Bool} {n : Nat} {cs : List Value},
    (∀ f ∈ fs, ∃ y, DataW.trod enc P w base spare held n f.type ((cs.drop f.offset).take (P.cellsOf f.type)) = some y) → ∃ x, d.K w x ((cs.drop off).take d.sz) ∧ wf x
theorem OpensFs.last {α : Type} {P : Program} {d : Kd α} {f : Field} {off : Nat} {wf : α → Prop} (h : Opens P d f.type wf) (ho : f.offset = off) : OpensFs P d [f] off wf where
  opens := fun hf => by
    obtain ⟨y, hy⟩ := hf f (by simp)
    rw [h.cells, ho] at hy
    exact h.opens hy
theorem OpensFs.cons {α β : Type} {P : Program} {d : Kd α} {d' : Kd β} {f : Field} {fs : List Field} {off : Nat} {wf : α → Prop} {wf' : β → Prop} (h : Opens P d f.type wf) (ho : f.offset = off) (h' : OpensFs P d' fs (off + d.sz) wf') :
    OpensFs P (Kd.pair d d') (f :: fs) off (fun x => wf x.1 ∧ wf' x.2) where
  opens := fun {H enc w base spare held n cs} hf => by
    obtain ⟨y, hy⟩ := hf f (by simp)
    rw [h.cells, ho] at hy
    obtain ⟨x, h1, h2⟩ := h.opens hy
    obtain ⟨x', h3, h4⟩ := h'.opens (cs := cs) fun g hg => hf g (by simp [hg])
    exact ⟨(x, x'), ⟨_, _, by rw [show (Kd.pair d d').sz = d.sz + d'.sz from rfl, List.take_add, List.drop_drop], h1, h3⟩, h2, h4⟩
theorem Opens.struct {α β : Type} {P : Program} {d : Kd α} {t : TypeId} {fs : Array Field} {wf : α → Prop} (ht : P.underlying t = some (.struct fs)) (h : OpensFs P d fs.toList 0 wf) (hc : P.cellsOf t = d.sz) (f : β → α) (g : α → β) (hfg : ∀ a, f (g a) = a) :
    Opens P (Kd.iso d f) t (fun x => wf (f x)) where
  cells := hc
  opens := fun {H enc w base spare held n cs y} hy => by
    obtain ⟨xs, m, _, _, hl, hn, hi⟩ := DataW.trod_struct ht hy
    obtain ⟨x, h1, h2⟩ := h.opens (cs := cs) (enc := enc) (n := m) fun f0 hf0 => by
      obtain ⟨i, hlt, rfl⟩ := List.mem_iff_getElem.1 hf0
      rw [Array.length_toList] at hlt
      have h3 := hi i fs[i] (Array.getElem?_eq_getElem hlt)
      have h4 : i < xs.length := by rw [hn]; exact hlt
      rw [List.getElem?_eq_getElem h4] at h3
      exact ⟨_, by simpa using h3⟩
    rw [List.drop_zero, List.take_of_length_le (by rw [hl, hc]; exact Nat.le_refl _)] at h1
    exact ⟨g x, by show d.K w (f (g x)) cs; rw [hfg]; exact h1, by rw [hfg]; exact h2⟩
section
variable {H : Type} {enc : TypeId × Value → H} {P : Program} {w : World} {base : Nat} {spare : Nat → Bool} {held : Bool} {r : Reach} {b0 : Nat} {t : TypeId} {v : Value} {dat : DataW H} {p : List MemPlace}
theorem Opens.arg_slice {α : Type} {d : Kd α} {e : TypeId} {wf : List α → Prop} (h : Opens P (Kd.slice e d) t wf) (ht : P.underlying t = some (.slice e)) (hv : Value.okWide P w r b0 t v) (hT : DataW.Trod enc P w base spare held t v dat p) :
    ∃ (A : Option Addr) (xs : List α) (c : Nat), v = .slice A xs.length c ∧ xs.length ≤ c ∧ d.C w A xs.length xs ∧ wf xs := by
  obtain ⟨a, len, cap, rfl⟩ := okWide_slice ht hv
  obtain ⟨fuel, hf⟩ := hT
  obtain ⟨xs, ⟨A, c, hcs, hle, hC⟩, hw⟩ := h.opens hf
  simp [Value.cells] at hcs
  obtain ⟨rfl, rfl, rfl⟩ := hcs
  exact ⟨_, xs, _, rfl, hle, hC, hw⟩
theorem Opens.arg_struct {α : Type} {d : Kd α} {fs : Array Field} {wf : α → Prop} (h : Opens P d t wf) (ht : P.underlying t = some (.struct fs)) (hv : Value.okWide P w r b0 t v) (hT : DataW.Trod enc P w base spare held t v dat p) :
    ∃ (x : α) (cs : List Value), v = .agg cs.toArray ∧ d.K w x cs ∧ wf x := by
  obtain ⟨cs, rfl, _⟩ := okWide_struct ht hv
  obtain ⟨fuel, hf⟩ := hT
  obtain ⟨x, h1, h2⟩ := h.opens hf
  exact ⟨x, cs.toList, by simp, h1, h2⟩
end
end Go.Proofs.YtielnphmcaecdaaDoorW.PrintWords
