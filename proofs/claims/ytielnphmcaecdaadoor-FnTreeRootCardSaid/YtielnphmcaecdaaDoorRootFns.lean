import Derived.Test.YtielnphmcaecdaaDoorRoots
import Derived.Test.YtielnphmcaecdaaDoorTexts
import Derived.Test.YtielnphmcaecdaaDoorPaths
import Derived.Test.YtielnphmcaecdaaDoorRangeFns
import Derived.Test.YtielnphmcaecdaaDoorPAllx7
import Derived.Test.YtielnphmcaecdaaDoorExtTree
/-! The reference's Root and the thin package's TreeRoot, over numbers and lists alone. -/
namespace Go.Proofs.YtielnphmcaecdaaDoor.Hsh
open Go.RowKit Go.Proofs.YtielnphmcaecdaaDoor.Num Go.Proofs.YtielnphmcaecdaaDoor.Mth Go.Proofs.YtielnphmcaecdaaDoor.PAll Go.Proofs.YtielnphmcaecdaaDoorW.PrintWords Go.Proofs.YtielnphmcaecdaaDoorW.PrintLast
set_option linter.unusedVariables false
/-- The hash of no leaves. -/
def empt (a0 a2 a3 : Int) : List Int := if a0 = 1 then wrd a3 (nb a2) else [2]
theorem empt_le (a0 a2 a3 : Int) : (empt a0 a2 a3).length ≤ 8 := by
  unfold empt
  have := nb_le a2
  split
  · rw [wrd_length]; exact this
  · simp
theorem hash_grows (a0 a2 a5 : Int) : Grows (hash a0 a2 a5) := hash_le a0 a2 a5
theorem impl_empty (a0 a1 a2 a3 a4 a5 : Int) {k : Nat} (hk : 20 ≤ k) : impl_toy_EmptyRoot.f k a0 a1 a2 a3 a4 a5 = some (empt a0 a2 a3) := by
  unfold impl_toy_EmptyRoot.f empt
  by_cases h : a0 = 1
  · rw [if_pos h, if_pos h, impl_word_eq _ _ hk, Option.bind_some]
  · rw [if_neg h, if_neg h]
theorem spec_empty (a0 a1 a2 a3 a4 a5 : Int) {k : Nat} (hk : 30 ≤ k) : spec_EmptyRoot.f k a0 a1 a2 a3 a4 a5 = some (empt a0 a2 a3) := by
  unfold spec_EmptyRoot.f spec_Terms.f empt
  rw [Option.bind_some]
  by_cases h : a0 = 1
  · rw [if_neg (by subst h; decide), if_pos h, spec_word_eq a0 a1 a2 a3 a4 a5 a3 [] (by simp) (by simp only [List.length_nil]; omega)]; rfl
  · rw [if_pos (by exact bne_iff_ne.mpr h), if_neg h]
theorem mem_bound {l : List (List Int)} {m : Nat} (h : ∀ j, j < l.length → (l.getD j []).length ≤ m) : ∀ x ∈ l, x.length ≤ m := by
  intro x hx
  obtain ⟨i, hi⟩ := List.getElem?_of_mem hx
  have := h i (List.getElem?_eq_some_iff.1 hi).1
  rw [List.getD_eq_getElem?_getD, hi] at this
  exact this
theorem spec_Root.eq (a0 a1 a2 a3 a4 a5 : Int) : ∀ (n : Nat) (L : List (List Int)), L.length = n → n ≤ 300 → (∀ x ∈ L, x.length ≤ 5000) → ∀ K, 10000000 + n ≤ K →
    spec_Root.f K a0 a1 a2 a3 a4 a5 L = some (mth (hash a0 a2 a5) (empt a0 a2 a3) L) := by
  intro n
  induction n using Nat.strongRecOn with
  | _ n ih =>
  intro L hL hn hm K hK
  obtain ⟨K, rfl⟩ : ∃ k, K = k + 1 := ⟨K - 1, by omega⟩
  rw [spec_Root.f]
  match L, hL with
  | [], hL =>
    rw [if_pos (show ((([] : List (List Int)).length : Nat) : Int) = 0 from rfl), spec_empty _ _ _ _ _ _ (by omega), Option.bind_some, mth_nil]
  | [x], hL =>
    rw [if_neg (by simp), if_pos (show ((([x] : List (List Int)).length : Nat) : Int) = 1 from rfl), if_pos (by simp), mth_one]; rfl
  | x :: y :: l, hL =>
    generalize hLL : x :: y :: l = L at *
    have h2 : 2 ≤ L.length := by rw [← hLL]; simp
    have hp := psplit_lt h2
    have hp0 := psplit_pos L.length
    have hw : IntKind.u64.wrap (L.length : Int) = (L.length : Int) := u64in (by omega)
    have t1 : (L.take (psplit L.length)).length = psplit L.length := by rw [List.length_take]; omega
    have t2 : (L.drop (psplit L.length)).length = L.length - psplit L.length := by rw [List.length_drop]
    have b1 : ∀ x ∈ L.take (psplit L.length), x.length ≤ 5000 := fun x hx => hm x (List.mem_of_mem_take hx)
    have b2 : ∀ x ∈ L.drop (psplit L.length), x.length ≤ 5000 := fun x hx => hm x (List.mem_of_mem_drop hx)
    have m1 := mth_length (hash_grows a0 a2 a5) (empt a0 a2 a3) 5000 _ _ t1 hp0 b1
    have m2 := mth_length (hash_grows a0 a2 a5) (empt a0 a2 a3) 5000 _ _ t2 (by omega) b2
    have m3 : (5000 + 9) * psplit L.length ≤ 5009 * 300 := Nat.mul_le_mul_left _ (by omega)
    have m4 : (5000 + 9) * (L.length - psplit L.length) ≤ 5009 * 300 := Nat.mul_le_mul_left _ (by omega)
    rw [if_neg (by omega), if_neg (by omega), hw, spec_split.eq L.length h2 (by omega) K (by omega), Option.bind_some, if_pos (by omega), if_pos (by omega), Int.toNat_natCast,
      ih (psplit L.length) (by omega) _ t1 (by omega) b1 K (by omega), Option.bind_some, ih (L.length - psplit L.length) (by omega) _ t2 (by omega) b2 K (by omega), Option.bind_some,
      spec_hash _ _ _ _ _ _ _ _ (by omega) (by omega) (by omega), Option.bind_some, mth_split _ _ h2]
/-- The nodes of a small log are there. -/
theorem node_eq (a0 a1 a2 a3 a4 a5 : Int) (L : List (List Int)) (hn : L.length ≤ 300) (hm : ∀ x ∈ L, x.length ≤ 5000) (K : Nat) (hK : 10000000 ≤ K) : ∀ (i j : Nat), (j + 1) * 2 ^ i ≤ L.length →
    node_ (impl_toy_HashChildren.f K a0 a1 a2 a3 a4 a5) L i j = some (nodeH (hash a0 a2 a5) (empt a0 a2 a3) L (i, j)) := by
  intro i
  induction i with
  | zero =>
    intro j hj
    rw [Nat.pow_zero, Nat.mul_one] at hj
    rw [node_, List.getElem?_eq_getElem (by omega)]
    show _ = some (mth _ _ (seg L (j * 2 ^ 0) ((j + 1) * 2 ^ 0)))
    rw [Nat.pow_zero, Nat.mul_one, Nat.mul_one, seg_one (by omega), mth_one]
  | succ i ih =>
    intro j hj
    have hp := Nat.two_pow_pos i
    have e3 : (j + 1) * 2 ^ (i + 1) = (2 * j + 1 + 1) * 2 ^ i := by rw [show 2 * j + 1 + 1 = 2 * (j + 1) by omega, Nat.pow_succ]; ac_rfl
    have e4 : (2 * j + 1 + 1) * 2 ^ i = (2 * j + 1) * 2 ^ i + 2 ^ i := by rw [Nat.add_mul (2 * j + 1), Nat.one_mul]
    have e5 : (2 * j + 1) * 2 ^ i = 2 * j * 2 ^ i + 2 ^ i := by rw [Nat.add_mul, Nat.one_mul]
    have l1 : (seg L (2 * j * 2 ^ i) ((2 * j + 1) * 2 ^ i)).length = 2 ^ i := by rw [seg_length (by omega)]; omega
    have l2 : (seg L ((2 * j + 1) * 2 ^ i) ((2 * j + 1 + 1) * 2 ^ i)).length = 2 ^ i := by rw [seg_length (by omega)]; omega
    have m1 := mth_length (hash_grows a0 a2 a5) (empt a0 a2 a3) 5000 _ _ l1 hp (seg_bound hm)
    have m2 := mth_length (hash_grows a0 a2 a5) (empt a0 a2 a3) 5000 _ _ l2 hp (seg_bound hm)
    have m3 : (5000 + 9) * 2 ^ i ≤ 5009 * 300 := Nat.mul_le_mul_left _ (by omega)
    rw [node_, ih (2 * j) (by omega), Option.bind_some, ih (2 * j + 1) (by omega), Option.bind_some]
    show impl_toy_HashChildren.f K a0 a1 a2 a3 a4 a5 (mth _ _ (seg L (2 * j * 2 ^ i) ((2 * j + 1) * 2 ^ i))) (mth _ _ (seg L ((2 * j + 1) * 2 ^ i) ((2 * j + 1 + 1) * 2 ^ i))) = some (mth _ _ (seg L (j * 2 ^ (i + 1)) ((j + 1) * 2 ^ (i + 1))))
    rw [impl_hash _ _ _ _ _ _ _ _ (by omega) (by omega) (by omega), mth_perfect _ _ hj]
theorem nodeV_eq (a0 a1 a2 a3 a4 a5 : Int) (L : List (List Int)) (hn : L.length ≤ 300) (hm : ∀ x ∈ L, x.length ≤ 5000) (K : Nat) (hK : 10000000 ≤ K) (i j : Nat) (h : (j + 1) * 2 ^ i ≤ L.length) :
    nodeV (impl_toy_HashChildren.f K a0 a1 a2 a3 a4 a5) L i j = nodeH (hash a0 a2 a5) (empt a0 a2 a3) L (i, j) := by
  unfold nodeV
  rw [node_eq a0 a1 a2 a3 a4 a5 L hn hm K hK i j h]; rfl
theorem allN_true (a0 a1 a2 a3 a4 a5 : Int) (L : List (List Int)) (hn : L.length ≤ 300) (hm : ∀ x ∈ L, x.length ≤ 5000) (K : Nat) (hK : 10000000 ≤ K) : allN (impl_toy_HashChildren.f K a0 a1 a2 a3 a4 a5) L L.length = true :=
  List.all_eq_true.mpr (fun i _ => List.all_eq_true.mpr (fun j hj => by
    have := List.mem_range.mp hj
    rw [node_eq a0 a1 a2 a3 a4 a5 L hn hm K hK i j ((Nat.le_div_iff_mul_le (Nat.two_pow_pos i)).mp (by omega))]; rfl))
theorem idsIn_nodes {n m : Nat} (h : n ≤ m) : idsIn m ((Nds 0 0 n).map cnode) = true := by
  refine List.all_eq_true.mpr (fun id hid => ?_)
  obtain ⟨p, hp, rfl⟩ := List.mem_map.mp hid
  have := (Nds_in n _ 0 rfl p hp).2
  simp only [Bool.and_eq_true, decide_eq_true_eq]
  refine ⟨Int.natCast_nonneg _, Int.natCast_nonneg _, ?_⟩
  show (((p.2 : Int)).toNat + 1) * 2 ^ ((p.1 : Int)).toNat ≤ m
  rw [Int.toNat_natCast, Int.toNat_natCast]; omega
theorem foldR_eq (a0 a1 a2 a3 a4 a5 : Int) (E : List Int) (K : Nat) : ∀ (l : List (List Int)) (b : Nat), l ≠ [] → (l.map List.length).sum + 9 * l.length ≤ b → b ≤ 1000000000 → 2000000100 ≤ K → foldR_ (impl_toy_HashChildren.f K a0 a1 a2 a3 a4 a5) l = some (foldR (hash a0 a2 a5) E l) ∧ (foldR (hash a0 a2 a5) E l).length ≤ b
  | [], _, h, _, _, _ => absurd rfl h
  | [x], b, _, hb, _, _ => ⟨rfl, by simp at hb; show x.length ≤ b; omega⟩
  | x :: y :: l, b, _, hb, hbb, hK => by
    have hb' : x.length + 9 + (((y :: l).map List.length).sum + 9 * (y :: l).length) ≤ b := by
      rw [List.map_cons, List.sum_cons, List.length_cons] at hb; omega
    obtain ⟨h1, h2⟩ := foldR_eq a0 a1 a2 a3 a4 a5 E K (y :: l) (b - x.length - 9) (by simp) (by omega) (by omega) hK
    have h3 := hash_le a0 a2 a5 x (foldR (hash a0 a2 a5) E (y :: l))
    rw [foldR_, h1, Option.bind_some, impl_hash _ _ _ _ _ _ _ _ (by omega) (by omega) (by omega)]
    exact ⟨rfl, by show (hash a0 a2 a5 x (foldR (hash a0 a2 a5) E (y :: l))).length ≤ b; omega⟩
theorem sum_le (m : Nat) : ∀ (l : List (List Int)), (∀ x ∈ l, x.length ≤ m) → (l.map List.length).sum ≤ m * l.length
  | [], _ => by simp
  | x :: l, h => by
    have h1 := sum_le m l (fun y hy => h y (List.mem_cons_of_mem _ hy))
    have h2 := h x List.mem_cons_self
    rw [List.map_cons, List.sum_cons, List.length_cons, Nat.mul_succ]; omega
/-- The thin package's TreeRoot. -/
theorem impl_TreeRoot.eq (a0 a1 a2 a3 a4 a5 : Int) (L : List (List Int)) (hn : L.length ≤ 300) (hm : ∀ x ∈ L, x.length ≤ 5000) (n : Nat) (hnL : n ≤ L.length) (K : Nat) (hK : 3000000000 ≤ K) :
    impl_TreeRoot.f (K + 1) a0 a1 a2 a3 a4 a5 L (n : Int) = some (mth (hash a0 a2 a5) (empt a0 a2 a3) (L.take n), true) := by
  have hw : IntKind.u64.wrap (L.length : Int) = (L.length : Int) := u64in (by omega)
  unfold impl_TreeRoot.f
  rw [hw, if_neg (by omega), if_pos (by omega), texts_eq L (by omega) (fun j hj => by
    have := hm (L.getD j []) (by rw [List.getD_eq_getElem?_getD, List.getElem?_eq_getElem hj]; exact List.getElem_mem hj)
    omega) (by omega), Option.bind_some, if_pos ⟨by omega, allN_true a0 a1 a2 a3 a4 a5 L hn hm (K + 1) (by omega)⟩]
  rcases Nat.eq_zero_or_pos n with h0 | h0
  · subst h0
    rw [if_pos (show ((0 : Nat) : Int) = 0 from rfl), impl_empty _ _ _ _ _ _ (by omega), Option.bind_some, List.take_zero, mth_nil]
  · have hlen := Nds_len 0 0 n 64 (by omega)
    rw [if_neg (by omega), show (0 : Int) = ((0 : Nat) : Int) from rfl, compact_RangeNodes.eq 0 n (by omega) (by omega) [] (by simp) (K + 1) (by omega), Option.bind_some, List.nil_append, if_pos ⟨by rw [List.length_map]; omega, idsIn_nodes hnL⟩, List.map_map]
    have e : (Nds 0 0 n).map ((fun id : S99 => nodeV (impl_toy_HashChildren.f (K + 1) a0 a1 a2 a3 a4 a5) L id.f0.toNat id.f1.toNat) ∘ cnode) = (Nds 0 0 n).map (nodeH (hash a0 a2 a5) (empt a0 a2 a3) L) := by
      refine List.map_congr_left (fun p hp => ?_)
      have h1 := (Nds_in n _ 0 rfl p hp).2
      show nodeV _ L ((p.1 : Int)).toNat ((p.2 : Int)).toNat = _
      rw [Int.toNat_natCast, Int.toNat_natCast]
      exact nodeV_eq a0 a1 a2 a3 a4 a5 L hn hm (K + 1) (by omega) p.1 p.2 (by omega)
    have hne : (Nds 0 0 n).map (nodeH (hash a0 a2 a5) (empt a0 a2 a3) L) ≠ [] := by
      intro h
      have h3 := congrArg List.length h
      rw [List.length_map] at h3
      have := Nds_nonempty (l := 0) (b := 0) (e := n) h0
      rw [h3] at this
      exact absurd this (Nat.lt_irrefl 0)
    have hbd : ∀ x ∈ (Nds 0 0 n).map (nodeH (hash a0 a2 a5) (empt a0 a2 a3) L), x.length ≤ 5009 * 300 := by
      intro x hx
      obtain ⟨p, hp, rfl⟩ := List.mem_map.mp hx
      obtain ⟨_, h1⟩ := Nds_in n _ 0 rfl p hp
      have hpp := Nat.two_pow_pos p.1
      have e1 : (p.2 + 1) * 2 ^ p.1 = p.2 * 2 ^ p.1 + 2 ^ p.1 := by rw [Nat.add_mul, Nat.one_mul]
      have l1 : (seg L (p.2 * 2 ^ p.1) ((p.2 + 1) * 2 ^ p.1)).length = 2 ^ p.1 := by rw [seg_length (by omega)]; omega
      have m1 := mth_length (hash_grows a0 a2 a5) (empt a0 a2 a3) 5000 _ _ l1 hpp (seg_bound hm)
      have m3 : (5000 + 9) * 2 ^ p.1 ≤ 5009 * 300 := Nat.mul_le_mul_left _ (by omega)
      show (mth _ _ _).length ≤ _
      omega
    have hs := sum_le _ _ hbd
    have hl2 : ((Nds 0 0 n).map (nodeH (hash a0 a2 a5) (empt a0 a2 a3) L)).length ≤ 128 := by rw [List.length_map]; omega
    have hs2 : 5009 * 300 * ((Nds 0 0 n).map (nodeH (hash a0 a2 a5) (empt a0 a2 a3) L)).length ≤ 5009 * 300 * 128 := Nat.mul_le_mul_left _ hl2
    have hf := (foldR_eq a0 a1 a2 a3 a4 a5 (empt a0 a2 a3) (K + 1) _ 200000000 hne (by omega) (by omega) (by omega)).1
    rw [e, hf, Option.bind_some, fold_nodes (hash a0 a2 a5) (empt a0 a2 a3) L n hnL _ n 0 rfl (Nat.zero_mod _) (by have := Nat.lt_two_pow_self (n := n); omega) h0, seg_zero]
end Go.Proofs.YtielnphmcaecdaaDoor.Hsh
