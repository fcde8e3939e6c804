import Derived.Test.YthfgegaakfgjkaaDoorPAllx11
import Derived.Test.YthfgegaakfgjkaaDoorPAllx11
import Derived.Test.YthfgegaakfgjkaaDoorNodeLists
import Derived.Test.YthfgegaakfgjkaaDoorExtInc
/-! The law that the nodes of an audit path are those of two ranges, over numbers and lists alone. -/
namespace Go.Proofs.YthfgegaakfgjkaaDoor.Pure
open Go.RowKit Go.Proofs.YthfgegaakfgjkaaDoor.Num Go.Proofs.YthfgegaakfgjkaaDoor.Mth Go.Proofs.YthfgegaakfgjkaaDoor.PAll Go.Proofs.YthfgegaakfgjkaaDoorW.PrintWords Go.Proofs.YthfgegaakfgjkaaDoorW.PrintLast
set_option linter.unusedVariables false
namespace Two
theorem ndM0 (i n : Nat) : ndM i 0 n = fork i n - 1 := by unfold ndM; rw [Nat.pow_zero, Nat.div_one]
theorem ndB0 (i n : Nat) : ndB i 0 n = i / 2 ^ ndM i 0 n * 2 ^ ndM i 0 n := by unfold ndB; rw [Nat.zero_add]
theorem ndE0 (i n : Nat) : ndE i 0 n = (i / 2 ^ ndM i 0 n + 1) * 2 ^ ndM i 0 n := by unfold ndE; rw [Nat.zero_add]
theorem ndS0 (i n : Nat) : ndS i 0 n = sibs i (ndM i 0 n) := by
  unfold ndS sibs
  apply List.map_congr_left
  intro t _
  rw [Nat.zero_add]; rfl
theorem block_le (i : Nat) {s m : Nat} (h : s ≤ m) : (i / 2 ^ s + 1) * 2 ^ s ≤ (i / 2 ^ m + 1) * 2 ^ m := by
  have e : i / 2 ^ m = i / 2 ^ s / 2 ^ (m - s) := by rw [Nat.div_div_eq_div_mul, ← Nat.pow_add, show s + (m - s) = m by omega]
  have h1 : i / 2 ^ s < (i / 2 ^ s / 2 ^ (m - s) + 1) * 2 ^ (m - s) := (Nat.div_lt_iff_lt_mul (Nat.two_pow_pos _)).1 (Nat.lt_succ_self _)
  rw [e]
  calc (i / 2 ^ s + 1) * 2 ^ s ≤ ((i / 2 ^ s / 2 ^ (m - s) + 1) * 2 ^ (m - s)) * 2 ^ s := Nat.mul_le_mul_right _ h1
    _ = (i / 2 ^ s / 2 ^ (m - s) + 1) * 2 ^ m := by rw [Nat.mul_assoc, ← Nat.pow_add, show m - s + s = m by omega]
/-- The last node of what is ahead of an odd place. -/
theorem left_odd (x t : Nat) (h : x % 2 = 1) : Nds 0 0 (x * 2 ^ t) = Nds 0 0 ((x - 1) * 2 ^ t) ++ [(t, x - 1)] := by
  have a := Nds_shift t 0 x
  have b := Nds_shift t 0 (x - 1)
  rw [Nat.zero_mul] at a b
  rw [a, b, Nds_some (show 0 < x by omega), if_neg (by omega), if_pos h, List.nil_append]
  congr 1
  by_cases hx : x = 1
  · subst hx; rw [Nds_empty (by omega), Nds_empty (by omega)]
  · rw [Nds_some (show 0 < x - 1 by omega), if_neg (by omega), if_neg (by omega), List.nil_append, List.append_nil, show (x - 1) / 2 = x / 2 by omega]
theorem lev_odd (y t e : Nat) (h : y % 2 = 1) (he : (y + 1) * 2 ^ t ≤ e) : lev (y * 2 ^ t) e = t := by
  have hm : (y + 1) * 2 ^ t = y * 2 ^ t + 2 ^ t := by rw [Nat.add_mul, Nat.one_mul]
  have hp := Nat.two_pow_pos t
  obtain ⟨s1, s2, s3⟩ := lev_spec (y * 2 ^ t) e (by omega)
  generalize lev (y * 2 ^ t) e = v at s1 s2 s3 ⊢
  rcases Nat.lt_trichotomy v t with hv | hv | hv
  · exfalso
    have hd : 2 ^ (v + 1) ∣ y * 2 ^ t := Nat.dvd_trans (Nat.pow_dvd_pow 2 hv) (Nat.dvd_mul_left _ _)
    have := s3 (Nat.mod_eq_zero_of_dvd hd)
    have := Nat.pow_le_pow_right (n := 2) (by decide) (show v + 1 ≤ t from hv)
    omega
  · exact hv
  · exfalso
    have hd : 2 ^ (t + 1) ∣ y * 2 ^ t := Nat.dvd_trans (Nat.pow_dvd_pow 2 hv) (Nat.dvd_of_mod_eq_zero s1)
    rw [Nat.pow_succ, Nat.mul_comm (2 ^ t) 2] at hd
    have := Nat.dvd_of_mul_dvd_mul_right hp hd
    omega
theorem right_even (x t e : Nat) (h : x % 2 = 0) (he : (x + 2) * 2 ^ t ≤ e) : Nds 0 ((x + 1) * 2 ^ t) e = (t, x + 1) :: Nds 0 ((x + 2) * 2 ^ t) e := by
  have hm : (x + 2) * 2 ^ t = (x + 1) * 2 ^ t + 2 ^ t := by rw [show x + 2 = x + 1 + 1 from rfl, Nat.add_mul (x + 1), Nat.one_mul]
  have hp := Nat.two_pow_pos t
  have hl := lev_odd (x + 1) t e (by omega) he
  rw [Nds_step 0 ((x + 1) * 2 ^ t) e (by omega), hl, Nat.zero_add, Nat.mul_div_cancel _ hp, ← hm]
theorem two_up (i n m : Nat) (hE : (i / 2 ^ m + 1) * 2 ^ m ≤ n) : ∀ t, t ≤ m → (Nds 0 0 i ++ Nds 0 (i + 1) n).Perm (sibs i t ++ (Nds 0 0 (i / 2 ^ t * 2 ^ t) ++ Nds 0 ((i / 2 ^ t + 1) * 2 ^ t) n)) := by
  intro t
  induction t with
  | zero => intro _; rw [Nat.pow_zero, Nat.div_one, Nat.mul_one, Nat.mul_one]; exact List.Perm.refl _
  | succ t ih =>
    intro ht
    refine (ih (by omega)).trans ?_
    have hx : i / 2 ^ (t + 1) = i / 2 ^ t / 2 := by rw [Nat.pow_succ, ← Nat.div_div_eq_div_mul]
    have hbl := Nat.le_trans (block_le i (show t + 1 ≤ m from ht)) hE
    have e1 : i / 2 ^ (t + 1) * 2 ^ (t + 1) = 2 * (i / 2 ^ t / 2) * 2 ^ t := by rw [hx, Nat.pow_succ]; ac_rfl
    have e2 : (i / 2 ^ (t + 1) + 1) * 2 ^ (t + 1) = (2 * (i / 2 ^ t / 2) + 2) * 2 ^ t := by
      rw [hx, Nat.pow_succ, show 2 * (i / 2 ^ t / 2) + 2 = 2 * (i / 2 ^ t / 2 + 1) by omega]; ac_rfl
    rw [e2] at hbl
    rw [sibs_succ, e1, e2, List.append_assoc]
    refine List.Perm.append_left _ ?_
    unfold sib
    generalize i / 2 ^ t = x at hbl ⊢
    by_cases hev : x % 2 = 0
    · rw [if_pos hev]
      have h2 : 2 * (x / 2) = x := by omega
      rw [h2] at hbl ⊢
      rw [right_even x t n hev hbl]
      exact List.perm_middle
    · rw [if_neg hev]
      have h2 : 2 * (x / 2) = x - 1 := by omega
      rw [h2, show x - 1 + 2 = x + 1 by omega, left_odd x t (by omega), List.append_assoc]
      exact List.perm_middle
theorem inc_perm (i n : Nat) (hi : i < n) : (incIds i n).Perm (Nds 0 0 i ++ Nds 0 (i + 1) n) := by
  have h1 : i < n / 2 ^ 0 := by rw [Nat.pow_zero, Nat.div_one]; exact hi
  have hE := (ndE_le i 0 n h1).2
  rw [ndE0] at hE
  refine List.Perm.trans ?_ (two_up i n _ hE _ (Nat.le_refl _)).symm
  unfold incIds
  rw [ndS0, ndE0, ndB0, List.append_assoc]
  exact List.Perm.append_left _ (((List.reverse_perm _).append (List.reverse_perm _)).trans List.perm_append_comm)
end Two
theorem has_loop (l : List S36) (x : S36) (hl : l.length < 1099511627776) (d : Nat) : ∀ j k, j + d = l.length → d < k → x ∈ l.drop j → spec_HasNode.l0 k l (l.length : Int) (j : Int) x.f0 x.f1 = some true := by
  induction d with
  | zero =>
    intro j k hj hk hx
    rw [List.drop_of_length_le (by omega)] at hx
    simp at hx
  | succ d ih =>
    intro j k hj hk hx
    obtain ⟨k, rfl⟩ : ∃ m, k = m + 1 := ⟨k - 1, by omega⟩
    rw [spec_HasNode.l0, if_pos (by omega), if_pos (Int.natCast_nonneg _), if_pos (by omega)]
    rw [drop_rd l j z36 (by omega)] at hx
    by_cases h : (((rd_T36 l (j : Int)).f0) == x.f0 && (((rd_T36 l (j : Int)).f1) == x.f1)) = true
    · rw [if_pos h]
    · rw [if_neg h, show wrap64 ((j : Int) + 1) = ((j + 1 : Nat) : Int) from w64_add j 1 (by omega)]
      refine ih (j + 1) k (by omega) (by omega) ?_
      rcases List.mem_cons.1 hx with e | e
      · exfalso
        apply h
        have e2 : rd_T36 l (j : Int) = x := by rw [e]; rfl
        rw [e2]; simp
      · exact e
theorem has_eq (l : List S36) (x : S36) (hl : l.length < 1099511627776) (k : Nat) (hk : l.length < k) (hx : x ∈ l) : spec_HasNode.f k l x.f0 x.f1 = some true :=
  has_loop l x hl l.length 0 k (Nat.zero_add _) hk hx
theorem two_l1 (two ids : List S36) (e1 e2 b e : Int) (h2 : two.length ≤ 1000) (h1 : ids.length ≤ 1000) (hs : ∀ x ∈ two, x ∈ ids) (hl : ids.length = two.length) (d : Nat) : ∀ j k, j + d = two.length → d + 2000 < k →
    laws_FnInclusionIsTwoRanges.l1 k true two two (two.length : Int) (j : Int) ids e1 e2 b e = some true := by
  induction d with
  | zero =>
    intro j k hj hk
    obtain ⟨k, rfl⟩ : ∃ m, k = m + 1 := ⟨k - 1, by omega⟩
    rw [laws_FnInclusionIsTwoRanges.l1, if_neg (by omega), if_pos rfl, hl]
    simp
  | succ d ih =>
    intro j k hj hk
    obtain ⟨k, rfl⟩ : ∃ m, k = m + 1 := ⟨k - 1, by omega⟩
    have hm : rd_T36 two (j : Int) ∈ two := by
      unfold rd_T36
      rw [Int.toNat_natCast, List.getD_eq_getElem?_getD, List.getElem?_eq_getElem (by omega)]
      exact List.getElem_mem _
    rw [laws_FnInclusionIsTwoRanges.l1, if_pos (by omega), if_pos (Int.natCast_nonneg _), if_pos (by omega), has_eq ids _ (by omega) k (by omega) (hs _ hm), Option.bind_some, if_pos rfl, show wrap64 ((j : Int) + 1) = ((j + 1 : Nat) : Int) from w64_add j 1 (by omega)]
    exact ih (j + 1) k (by omega) (by omega)
theorem two_l0 (two ids : List S36) (e1 e2 b e : Int) (h2 : two.length ≤ 1000) (h1 : ids.length ≤ 1000) (hs : ∀ x, x ∈ two ↔ x ∈ ids) (hl : ids.length = two.length) (d : Nat) : ∀ j k, j + d = ids.length → d + 5000 < k →
    laws_FnInclusionIsTwoRanges.l0 k true two ids (ids.length : Int) (j : Int) ids e1 e2 b e = some true := by
  induction d with
  | zero =>
    intro j k hj hk
    obtain ⟨k, rfl⟩ : ∃ m, k = m + 1 := ⟨k - 1, by omega⟩
    rw [laws_FnInclusionIsTwoRanges.l0, if_neg (by omega)]
    exact two_l1 two ids e1 e2 b e h2 h1 (fun x hx => (hs x).1 hx) hl two.length 0 k (Nat.zero_add _) (by omega)
  | succ d ih =>
    intro j k hj hk
    obtain ⟨k, rfl⟩ : ∃ m, k = m + 1 := ⟨k - 1, by omega⟩
    have hm : rd_T36 ids (j : Int) ∈ ids := by
      unfold rd_T36
      rw [Int.toNat_natCast, List.getD_eq_getElem?_getD, List.getElem?_eq_getElem (by omega)]
      exact List.getElem_mem _
    rw [laws_FnInclusionIsTwoRanges.l0, if_pos (by omega), if_pos (Int.natCast_nonneg _), if_pos (by omega), has_eq two _ (by omega) k (by omega) ((hs _).2 hm), Option.bind_some, if_pos rfl, show wrap64 ((j : Int) + 1) = ((j + 1 : Nat) : Int) from w64_add j 1 (by omega)]
    exact ih (j + 1) k (by omega) (by omega)
theorem FnInclusionIsTwoRanges (a0 : Int) (a1 : Int) (w0 : (Lit.int .u64 a0).wf = true) (w1 : (Lit.int .u64 a1).wf = true) : ∃ k, laws_FnInclusionIsTwoRanges.f k a0 a1 = some true := by
  obtain ⟨i, rfl, hi64⟩ := wf_u64 w0
  obtain ⟨n, rfl, hn⟩ := wf_u64 w1
  clear w0 w1
  by_cases hc : n ≤ i
  · exact ⟨1, by unfold laws_FnInclusionIsTwoRanges.f; rw [if_pos (by omega)]⟩
  · have hi : i < n := by omega
    refine ⟨30000, ?_⟩
    have hlen := incIds_len i n hi hn
    have hP := Two.inc_perm i n hi
    have hf : impl_Inclusion.f 30000 (i : Int) (n : Int) = some ((incIds i n).map inode, ((ndEph i 0 n).1 : Int), ((ndEph i 0 n).2 : Int), (incBegin i n : Int), (incEnd i n : Int), true) := by
      unfold impl_Inclusion.f
      rw [if_neg (by omega), if_pos ⟨by omega, by omega⟩, Int.toNat_natCast, Int.toNat_natCast]
    have l1 : (Nds 0 0 i).length ≤ 128 := Nds_len 0 _ _ 64 hi64
    have r1 := impl_RangeNodes.eq 0 i (Nat.zero_le _) hi64 [] (by simp) 30000 (by simp)
    rw [List.nil_append] at r1
    have r2 := impl_RangeNodes.eq (i + 1) n (by omega) hn ((Nds 0 0 i).map inode) (by rw [List.length_map]; omega) 30000 (by rw [List.length_map]; omega)
    rw [← List.map_append] at r2
    have hl2 := hP.length_eq
    unfold laws_FnInclusionIsTwoRanges.f
    rw [if_neg (by omega), hf, Option.bind_some, show (0 : Int) = ((0 : Nat) : Int) from rfl, r1, Option.bind_some, show IntKind.u64.wrap ((i : Int) + 1) = ((i + 1 : Nat) : Int) from u64add (b := 1) (by omega), r2, Option.bind_some]
    refine two_l0 ((Nds 0 0 i ++ Nds 0 (i + 1) n).map inode) ((incIds i n).map inode) _ _ _ _ (by rw [List.length_map]; omega) (by rw [List.length_map]; omega) (fun x => ?_) (by rw [List.length_map, List.length_map, hl2]) ((incIds i n).map inode).length 0 30000 (Nat.zero_add _) (by rw [List.length_map]; omega)
    exact ((hP.map inode).mem_iff).symm
end Go.Proofs.YthfgegaakfgjkaaDoor.Pure
