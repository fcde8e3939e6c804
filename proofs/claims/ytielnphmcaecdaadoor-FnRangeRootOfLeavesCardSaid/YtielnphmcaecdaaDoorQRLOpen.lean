-- Written by a program of this session (wip/tools)
import Derived.Test.YtielnphmcaecdaaDoorQRLRootFns
import Derived.Test.YtielnphmcaecdaaDoorQRLExtRange
import Derived.Test.YtielnphmcaecdaaDoorQRLPAllx19
import Derived.Test.YtielnphmcaecdaaDoorQRLV0
import Derived.Deep.Slices
import Derived.Lib.SmallJoins
namespace Go.Proofs.YtielnphmcaecdaaDoor.Hsh
open Go.RowKit Go.Proofs.YtielnphmcaecdaaDoor.Num Go.Proofs.YtielnphmcaecdaaDoor.Mth Go.Proofs.YtielnphmcaecdaaDoor.PAll Go.Proofs.YtielnphmcaecdaaDoorW.PrintWords Go.Proofs.YtielnphmcaecdaaDoorW.PrintLast
set_option linter.unusedVariables false
set_option linter.unusedSimpArgs false
theorem ones_full : ∀ D, ones (2 ^ D - 1) = D
  | 0 => by rw [Nat.pow_zero, Nat.sub_self, ones_zero]
  | D + 1 => by
    have hp := Nat.two_pow_pos D
    rw [ones_half, Nat.pow_succ, show (2 ^ D * 2 - 1) / 2 = 2 ^ D - 1 by omega, ones_full D]; omega
theorem pow_le_sub {D x : Nat} (hx : x ≤ 300) (h : 2 ^ D ≤ x + 1) : D ≤ 9 := by
  apply Nat.le_of_not_lt; intro h1
  have h2 := Nat.pow_le_pow_right (n := 2) (by decide) (show 10 ≤ D from h1)
  have : (2 : Nat) ^ 10 = 1024 := rfl
  omega
theorem tones_le {x : Nat} (hx : x ≤ 300) : tones x ≤ 9 ∧ 2 ^ tones x ≤ x + 1 ∧ x % 2 ^ tones x = 2 ^ tones x - 1 := by
  obtain ⟨_, _, h3⟩ := tones_spec x
  have hp := Nat.two_pow_pos (tones x)
  have hd := Nat.div_add_mod (x + 1) (2 ^ tones x)
  rw [h3, Nat.add_zero] at hd
  obtain ⟨q, hq⟩ : ∃ q, (x + 1) / 2 ^ tones x = q + 1 := by
    refine ⟨(x + 1) / 2 ^ tones x - 1, ?_⟩
    rcases Nat.eq_zero_or_pos ((x + 1) / 2 ^ tones x) with h | h
    · rw [h, Nat.mul_zero] at hd; omega
    · omega
  rw [hq, Nat.mul_add, Nat.mul_one] at hd
  have hle : 2 ^ tones x ≤ x + 1 := by omega
  refine ⟨pow_le_sub hx hle, hle, ?_⟩
  have key : ∀ T, x = (2 ^ T - 1) + 2 ^ T * q → x % 2 ^ T = 2 ^ T - 1 := fun T e => by
    have hpT := Nat.two_pow_pos T
    rw [e, Nat.add_mul_mod_self_left, Nat.mod_eq_of_lt (by omega)]
  exact key _ (by omega)
theorem path_num {X a b : Nat} (hX : 0 < X) (hz : 0 < tzn X) (ha : a + 1 = X ∨ a + 2 = X) (hb : b = X ∨ b = X + 1) : fork a b = tzn X + 1 := by
  obtain ⟨e, ho⟩ := tzn_spec hX
  obtain ⟨q, hq, hqo⟩ := odd_succ ho
  have hp : 2 ≤ 2 ^ tzn X := by
    obtain ⟨d, hd⟩ : ∃ d, tzn X = d + 1 := ⟨tzn X - 1, by omega⟩
    rw [hd, Nat.pow_succ]
    have := Nat.two_pow_pos d; omega
  rw [hq, Nat.mul_add, Nat.mul_one] at e
  have h1 : a / 2 ^ tzn X = q := by
    obtain ⟨r, hr, hr2⟩ : ∃ r, a = r + 2 ^ tzn X * q ∧ r < 2 ^ tzn X := ⟨a - 2 ^ tzn X * q, by omega, by omega⟩
    rw [hr, Nat.add_mul_div_left _ _ (by omega), Nat.div_eq_of_lt hr2, Nat.zero_add]
  have h2 : b / 2 ^ tzn X = q + 1 := by
    obtain ⟨r, hr, hr2⟩ : ∃ r, b = r + 2 ^ tzn X * (q + 1) ∧ r < 2 ^ tzn X := ⟨b - 2 ^ tzn X * (q + 1), by rw [Nat.mul_add, Nat.mul_one]; omega, by rw [Nat.mul_add, Nat.mul_one]; omega⟩
    rw [hr, Nat.add_mul_div_left _ _ (by omega), Nat.div_eq_of_lt hr2, Nat.zero_add]
  refine fork_is ?_ (by omega)
  rw [Nat.pow_succ, ← Nat.div_div_eq_div_mul, ← Nat.div_div_eq_div_mul, h1, h2]; omega
theorem tones_even {x : Nat} (h : x % 2 = 0) : tones x = 0 := by
  rcases Nat.eq_zero_or_pos (tones x) with h1 | h1
  · exact h1
  · have := (tones_spec x).1 0 h1
    rw [Nat.pow_zero, Nat.div_one] at this; omega
theorem tones_pos {x : Nat} (h : x % 2 = 1) : 0 < tones x := by
  rcases Nat.eq_zero_or_pos (tones x) with h1 | h1
  · have := (tones_spec x).2.1
    rw [h1, Nat.pow_zero, Nat.div_one] at this; omega
  · exact h1
theorem tzn_odd {x : Nat} (h : x % 2 = 1) : tzn x = 0 := by
  rcases Nat.eq_zero_or_pos (tzn x) with h1 | h1
  · exact h1
  · obtain ⟨e, _⟩ := tzn_spec (show 0 < x by omega)
    obtain ⟨d, hd⟩ : ∃ d, tzn x = d + 1 := ⟨tzn x - 1, by omega⟩
    rw [hd, Nat.pow_succ, Nat.mul_comm (2 ^ d), Nat.mul_assoc] at e
    omega
theorem tzn_pos {x : Nat} (h0 : 0 < x) (h : x % 2 = 0) : 0 < tzn x := by
  rcases Nat.eq_zero_or_pos (tzn x) with h1 | h1
  · obtain ⟨e, ho⟩ := tzn_spec h0
    rw [h1, Nat.pow_zero, Nat.div_one] at ho; omega
  · exact h1
theorem tz_eq {x : Nat} (h0 : 0 < x) (hx : x < 18446744073709551616) : bits_TrailingZeros64.f (x : Int) = some ((tzn x : Nat) : Int) := by
  obtain ⟨e, ho⟩ := tzn_spec h0
  have := bits_TrailingZeros64.eq (tzn x) (x / 2 ^ tzn x) ho (by rw [← e]; exact hx)
  rw [← e] at this
  exact this
theorem tzn_le {x : Nat} (h0 : 0 < x) (hx : x ≤ 301) : tzn x ≤ 9 := by
  obtain ⟨e, ho⟩ := tzn_spec h0
  obtain ⟨q, hq, _⟩ := odd_succ ho
  rw [hq, Nat.mul_add, Nat.mul_one] at e
  have : 2 ^ tzn x ≤ x := by omega
  apply Nat.le_of_not_lt; intro h1
  have h2 := Nat.pow_le_pow_right (n := 2) (by decide) (show 10 ≤ tzn x from h1)
  have : (2 : Nat) ^ 10 = 1024 := rfl
  omega
theorem mpOk_true (x k : Nat) (hx : x ≤ 300) : mpOk (k + 1) x = true := by
  obtain ⟨t1, t2, t3⟩ := tones_le hx
  have hones : ∀ low, low ≤ 64 → (0 < tones x → low = 0) → bits_OnesCount64.f (Go.bits .and .u64 ((x : Int) / 2 ^ min low 64) (IntKind.u64.wrap (IntKind.u64.wrap (2 ^ min (tones x) 64) - 1))) = some (tones x : Int) := by
    intro low hl h0
    have hp := Nat.two_pow_pos (tones x)
    have e1 : ((2 : Int) ^ min (tones x) 64) = ((2 ^ tones x : Nat) : Int) := by rw [Nat.min_eq_left (by omega), Int.natCast_pow]; rfl
    have e2 : (x : Int) / 2 ^ min low 64 = ((x / 2 ^ low : Nat) : Int) := by rw [Nat.min_eq_left hl, Int.natCast_ediv, Int.natCast_pow]; rfl
    have hq := Nat.div_le_self x (2 ^ low)
    rw [e1, e2, u64in (by omega), show ((2 ^ tones x : Nat) : Int) - 1 = ((2 ^ tones x : Nat) : Int) - ((1 : Nat) : Int) from rfl, u64sub (by omega) (by omega)]
    have e3 := u64_and_nat (x / 2 ^ low) (2 ^ tones x - 1) (by omega) (by omega)
    rw [Nat.and_two_pow_sub_one_eq_mod] at e3
    refine (congrArg bits_OnesCount64.f e3).trans ?_
    have e4 : x / 2 ^ low % 2 ^ tones x = 2 ^ tones x - 1 := by
      rcases Nat.eq_zero_or_pos (tones x) with h | h
      · rw [h, Nat.pow_zero, Nat.mod_one]
      · rw [h0 h, Nat.pow_zero, Nat.div_one]; exact t3
    rw [e4, bits_OnesCount64.eq _ (by omega), ones_full]
  unfold mpOk
  simp only [Bool.and_eq_true, decide_eq_true_eq]
  have htz : 0 < x → tzn x ≤ 9 := fun h => tzn_le h (by omega)
  refine ⟨⟨⟨?_, ?_⟩, ?_⟩, ?_⟩
  · unfold compact_getMergePath.f
    by_cases h0 : x = 0
    · subst h0
      have e1 : bits_TrailingZeros64.f ((0 : Nat) : Int) = some 64 := rfl
      have e2 : IntKind.u64.wrap (((0 : Nat) : Int) - 1) = ((18446744073709551615 : Nat) : Int) := by decide
      rw [e1, Option.bind_some, if_pos rfl, e2, xor64 _ _ (by omega) (by omega), bits_Len64.eq k _ (Nat.xor_lt_two_pow (n := 64) (by omega) (by omega)), Option.bind_some]
      have e3 : blen (18446744073709551615 ^^^ (0 + 1)) = 64 := by decide +kernel
      rw [e3, if_neg (by omega), if_pos rfl]; rfl
    · have hf : fork (x - 1) (x + 1) = (if tones x = 0 then tzn x else tones x) + 1 := by
        rcases Nat.mod_two_eq_zero_or_one x with h | h
        · rw [if_pos (tones_even h)]
          exact path_num (X := x) (by omega) (tzn_pos (by omega) h) (by omega) (by omega)
        · have hp := tones_pos h
          rw [if_neg (by omega)]
          exact path_num (X := x + 1) (by omega) hp (by omega) (by omega)
      have hfl : (if tones x = 0 then tzn x else tones x) ≤ 9 := by
        split
        · exact htz (by omega)
        · exact t1
      rw [tz_eq (by omega) (by omega), Option.bind_some, if_pos rfl, show (x : Int) - 1 = (x : Int) - ((1 : Nat) : Int) from rfl, u64sub (by omega) (by omega), xor64 _ _ (by omega) (by omega), bits_Len64.eq k _ (Nat.xor_lt_two_pow (n := 64) (by omega) (by omega)), Option.bind_some]
      have e3 : blen ((x - 1) ^^^ (x + 1)) = (if tones x = 0 then tzn x else tones x) + 1 := hf
      rw [e3, if_pos (by omega), if_neg h0]
      have e4 : IntKind.u64.wrap ((tzn x : Nat) : Int) = (((if tones x = 0 then tzn x else 0 : Nat)) : Int) := by
        rw [u64in (by have := htz (by omega); omega)]
        rcases Nat.mod_two_eq_zero_or_one x with h | h
        · rw [if_pos (tones_even h)]
        · rw [if_neg (by have := tones_pos h; omega), tzn_odd h]
      have e5 : IntKind.u64.wrap (wrap64 ((((if tones x = 0 then tzn x else tones x) + 1 : Nat) : Int) - 1)) = ((if tones x = 0 then tzn x else tones x : Nat) : Int) := by
        have : wrap64 ((((if tones x = 0 then tzn x else tones x) + 1 : Nat) : Int) - 1) = ((if tones x = 0 then tzn x else tones x : Nat) : Int) := by unfold wrap64; omega
        rw [this]
        exact u64in (by omega)
      rw [e4, e5]
  · refine hones _ ?_ (fun h => if_neg (by omega))
    split
    · rcases Nat.eq_zero_or_pos x with h | h
      · subst h
        have : tzn 0 = 0 := by unfold tzn; rw [lev, if_neg (by omega)]
        omega
      · have := htz h; omega
    · omega
  · intro h
    subst h
    have e1 : ((0 : Nat) : Int) / 2 ^ min 64 64 = ((0 : Nat) : Int) := by simp
    have e2 : Go.bits .and .u64 ((0 : Nat) : Int) ((0 : Nat) : Int) = ((0 &&& 0 : Nat) : Int) := u64_and_nat 0 0 (by omega) (by omega)
    rw [e1]
    refine (congrArg bits_OnesCount64.f e2).trans ?_
    rw [Nat.and_self, bits_OnesCount64.eq 0 (by omega), ones_zero]; rfl
  · split
    · rcases Nat.eq_zero_or_pos x with h | h
      · subst h
        have : tzn 0 = 0 := by unfold tzn; rw [lev, if_neg (by omega)]
        omega
      · have := htz h; omega
    · omega
end Go.Proofs.YtielnphmcaecdaaDoor.Hsh
namespace Go.Proofs.YtielnphmcaecdaaDoor.Hsh
open Go.RowKit Go.Proofs.YtielnphmcaecdaaDoor.Num Go.Proofs.YtielnphmcaecdaaDoor.Mth Go.Proofs.YtielnphmcaecdaaDoor.PAll Go.Proofs.YtielnphmcaecdaaDoorW.PrintWords Go.Proofs.YtielnphmcaecdaaDoorW.PrintLast
set_option linter.unusedVariables false
set_option linter.unusedSimpArgs false
theorem node_le (a0 a2 a3 a5 : Int) (L : List (List Int)) (hn : L.length ≤ 300) (hm : ∀ x ∈ L, x.length ≤ 5000) (p : Nat × Nat) (hp : (p.2 + 1) * 2 ^ p.1 ≤ L.length) : (nodeH (hash a0 a2 a5) (empt a0 a2 a3) L p).length ≤ 1502700 := by
  have h1 := seg_length (b := p.2 * 2 ^ p.1) hp
  have hp2 := Nat.two_pow_pos p.1
  have h0 : p.2 * 2 ^ p.1 < (p.2 + 1) * 2 ^ p.1 := Nat.mul_lt_mul_of_pos_right (by omega) hp2
  have h2 := mth_length (hash_grows a0 a2 a5) (empt a0 a2 a3) 5000 _ (seg L (p.2 * 2 ^ p.1) ((p.2 + 1) * 2 ^ p.1)) rfl (by rw [h1]; omega) (seg_bound hm)
  rw [h1] at h2
  have h3 : (p.2 + 1) * 2 ^ p.1 - p.2 * 2 ^ p.1 ≤ 300 := by omega
  have h4 := Nat.mul_le_mul_left (5000 + 9) h3
  unfold nodeH
  omega
def Rg (H : List Int → List Int → List Int) (E : List Int) (L : List (List Int)) (n : Nat) : List (List Int) := (Nds 0 0 n).map (nodeH H E L)
theorem Rg_len (H : List Int → List Int → List Int) (E : List Int) (L : List (List Int)) (n : Nat) : (Rg H E L n).length = (Nds 0 0 n).length := List.length_map _
theorem Rg_le (a0 a2 a3 a5 : Int) (L : List (List Int)) (hn : L.length ≤ 300) (hm : ∀ x ∈ L, x.length ≤ 5000) (n : Nat) (hnL : n ≤ L.length) : (Rg (hash a0 a2 a5) (empt a0 a2 a3) L n).length ≤ 128 ∧ ∀ x ∈ Rg (hash a0 a2 a5) (empt a0 a2 a3) L n, x.length ≤ 1502700 := by
  refine ⟨by rw [Rg_len]; have := Nds_len 0 0 n 64 (by omega); omega, fun x hx => ?_⟩
  obtain ⟨p, hp, rfl⟩ := List.mem_map.mp hx
  obtain ⟨_, h1⟩ := Nds_in n _ 0 rfl p hp
  exact node_le a0 a2 a3 a5 L hn hm p (by omega)
theorem up_in {x t : Nat} (h : t ≤ tones x) : (x / 2 ^ t + 1) * 2 ^ t ≤ x + 1 := by
  have hc := carry (n := x) (ℓ := t) (fun j hj => tones_odd x j (by omega))
  have := Nat.div_mul_le_self (x + 1) (2 ^ t)
  rw [hc] at this
  exact this
theorem mseed_nodes (a0 a1 a2 a3 a4 a5 : Int) (L : List (List Int)) (hn : L.length ≤ 300) (hm : ∀ x ∈ L, x.length ≤ 5000) (K : Nat) (hK : 10000000 ≤ K) (x : Nat) (hx : x < L.length) : ∀ t, t ≤ tones x →
    mseed (impl_toy_HashChildren.f K a0 a1 a2 a3 a4 a5) (Rg (hash a0 a2 a5) (empt a0 a2 a3) L x) (L.getD x []) t = some (nodeH (hash a0 a2 a5) (empt a0 a2 a3) L (t, x / 2 ^ t))
  | 0, _ => by
    rw [mseed]
    show _ = some (mth _ _ (seg L (x / 2 ^ 0 * 2 ^ 0) ((x / 2 ^ 0 + 1) * 2 ^ 0)))
    rw [Nat.pow_zero, Nat.div_one, Nat.mul_one, Nat.mul_one, seg_one hx, mth_one, List.getD_eq_getElem?_getD, List.getElem?_eq_getElem hx]; rfl
  | t + 1, ht => by
    have hat := Nds_at x t (by omega)
    have hod := tones_odd x t (by omega)
    have hu := up_in ht
    have hu0 := up_in (x := x) (t := t) (by omega)
    rw [mseed, mseed_nodes a0 a1 a2 a3 a4 a5 L hn hm K hK x hx t (by omega), Option.bind_some, Rg_len, List.getD_eq_getElem?_getD]
    unfold Rg
    rw [List.getElem?_map, hat]
    obtain ⟨j, hj⟩ : ∃ j, x / 2 ^ t = 2 * j + 1 := ⟨x / 2 ^ t / 2, by omega⟩
    have hj2 : x / 2 ^ (t + 1) = j := by rw [Nat.pow_succ, ← Nat.div_div_eq_div_mul, hj]; omega
    rw [hj2] at hu ⊢
    rw [hj] at hu0 ⊢
    have hp := Nat.two_pow_pos t
    have e1 : (2 * j + 1) * 2 ^ t ≤ (2 * j + 1 + 1) * 2 ^ t := Nat.mul_le_mul_right _ (by omega)
    have l1 := node_le a0 a2 a3 a5 L hn hm (t, 2 * j) (by show (2 * j + 1) * 2 ^ t ≤ _; omega)
    have l2 := node_le a0 a2 a3 a5 L hn hm (t, 2 * j + 1) (by show (2 * j + 1 + 1) * 2 ^ t ≤ _; omega)
    show impl_toy_HashChildren.f K a0 a1 a2 a3 a4 a5 (nodeH _ _ L (t, 2 * j + 1 - 1)) (nodeH _ _ L (t, 2 * j + 1)) = _
    rw [Nat.add_sub_cancel, impl_hash _ _ _ _ _ _ _ _ (by omega) (by omega) (by omega)]
    show some (hash a0 a2 a5 (mth _ _ (seg L (2 * j * 2 ^ t) ((2 * j + 1) * 2 ^ t))) (mth _ _ (seg L ((2 * j + 1) * 2 ^ t) ((2 * j + 1 + 1) * 2 ^ t)))) = some (mth _ _ (seg L (j * 2 ^ (t + 1)) ((j + 1) * 2 ^ (t + 1))))
    rw [mth_perfect _ _ (show (j + 1) * 2 ^ (t + 1) ≤ L.length by omega)]
theorem stepApp_eq (a0 a1 a2 a3 a4 a5 : Int) (L : List (List Int)) (hn : L.length ≤ 300) (hm : ∀ x ∈ L, x.length ≤ 5000) (K : Nat) (hK : 10000000 ≤ K) (x : Nat) (hx : x < L.length) (nv : Nat) (hv : nv ≤ 1000000) :
    ∃ V, V.length ≤ 130 ∧ stepApp (impl_toy_HashChildren.f K a0 a1 a2 a3 a4 a5) K x (Rg (hash a0 a2 a5) (empt a0 a2 a3) L x) (L.getD x []) nv = some (Rg (hash a0 a2 a5) (empt a0 a2 a3) L (x + 1), V) := by
  have hms := mseed_nodes a0 a1 a2 a3 a4 a5 L hn hm K hK x hx
  obtain ⟨t1, t2, t3⟩ := tones_le (show x ≤ 300 by omega)
  obtain ⟨m1, m2⟩ := Nds_more x
  obtain ⟨k, rfl⟩ : ∃ k, K = k + 1 := ⟨K - 1, by omega⟩
  have hl := (Rg_le a0 a2 a3 a5 L hn hm x (by omega)).1
  have hok : stepOk (impl_toy_HashChildren.f (k + 1) a0 a1 a2 a3 a4 a5) (k + 1) x (Rg (hash a0 a2 a5) (empt a0 a2 a3) L x) (L.getD x []) nv = true := by
    unfold stepOk
    simp only [Bool.and_eq_true, decide_eq_true_eq]
    refine ⟨mpOk_true x k (by omega), by rw [Rg_len]; exact m1, by omega, by omega, List.all_eq_true.mpr (fun t ht => ?_)⟩
    have ht := List.mem_range.mp ht
    have hu := up_in (x := x) (t := t) (by omega)
    have := node_le a0 a2 a3 a5 L hn hm (t, x / 2 ^ t) (by show (x / 2 ^ t + 1) * 2 ^ t ≤ _; omega)
    unfold sdsOf
    rw [hms t (by omega)]
    show decide ((nodeH _ _ L (t, x / 2 ^ t)).length ≤ _) = true
    rw [decide_eq_true_eq]; omega
  refine ⟨stepV (impl_toy_HashChildren.f (k + 1) a0 a1 a2 a3 a4 a5) x (Rg (hash a0 a2 a5) (empt a0 a2 a3) L x) (L.getD x []), ?_, ?_⟩
  · unfold stepV visA
    rw [List.length_cons, List.length_map, List.length_range]; omega
  · unfold stepApp
    rw [hms _ (Nat.le_refl _), Option.bind_some, if_pos hok]
    congr 2
    rw [Rg_len]
    unfold Rg
    rw [m2, List.map_append, List.map_take]; rfl
theorem appAll_eq (a0 a1 a2 a3 a4 a5 : Int) (L : List (List Int)) (hn : L.length ≤ 300) (hm : ∀ x ∈ L, x.length ≤ 5000) (K : Nat) (hK : 10000000 ≤ K) (m : Nat) (hmL : m ≤ L.length) : ∀ (d x : Nat) (vs : List S51), x + d = m → vs.length ≤ 130 * x →
    ∃ vs', appAll (impl_toy_HashChildren.f K a0 a1 a2 a3 a4 a5) K x (Rg (hash a0 a2 a5) (empt a0 a2 a3) L x) vs ((L.take m).drop x) = some (Rg (hash a0 a2 a5) (empt a0 a2 a3) L m, vs')
  | 0, x, vs, hx, hv => by
    obtain rfl : x = m := by omega
    rw [List.drop_of_length_le (by rw [List.length_take]; omega), appAll]
    exact ⟨vs, rfl⟩
  | d + 1, x, vs, hx, hv => by
    obtain ⟨V, v1, v2⟩ := stepApp_eq a0 a1 a2 a3 a4 a5 L hn hm K hK x (by omega) vs.length (by omega)
    obtain ⟨vs', h'⟩ := appAll_eq a0 a1 a2 a3 a4 a5 L hn hm K hK m hmL d (x + 1) (vs ++ V) (by omega) (by rw [List.length_append]; omega)
    have hd : (L.take m).drop x = L.getD x [] :: (L.take m).drop (x + 1) := by
      rw [List.drop_eq_getElem_cons (by rw [List.length_take]; omega), List.getElem_take, List.getD_eq_getElem?_getD, List.getElem?_eq_getElem (by omega)]; rfl
    rw [hd, appAll, v2, Option.bind_some]
    exact ⟨vs', h'⟩
theorem impl_Append.eq (a0 a1 a2 a3 a4 a5 : Int) (L : List (List Int)) (hn : L.length ≤ 300) (hm : ∀ x ∈ L, x.length ≤ 5000) (K : Nat) (hK : 3000000000 ≤ K) (x m : Nat) (hx : x ≤ m) (hmL : m ≤ L.length) :
    ∃ vs, impl_Append.f (K + 1) a0 a1 a2 a3 a4 a5 0 (x : Int) (Rg (hash a0 a2 a5) (empt a0 a2 a3) L x) ((L.take m).drop x) = some (0, (m : Int), Rg (hash a0 a2 a5) (empt a0 a2 a3) L m, vs, true) := by
  obtain ⟨r1, r2⟩ := Rg_le a0 a2 a3 a5 L hn hm x (by omega)
  obtain ⟨s1, s2⟩ := Rg_le a0 a2 a3 a5 L hn hm m hmL
  have hll : ((L.take m).drop x).length = m - x := by rw [List.length_drop, List.length_take]; omega
  have hlm : ∀ y ∈ (L.take m).drop x, y.length ≤ 5000 := fun y hy => hm y (List.mem_of_mem_take (List.mem_of_mem_drop hy))
  have htx : ∀ (l : List (List Int)) (b : Nat), l.length ≤ 1000 → (∀ y ∈ l, y.length ≤ b) → b ≤ 2147483647 → impl_texts.f (K + 1) l = some l := fun l b h1 h2 h3 => texts_eq l (by omega) (fun j hj => by
    rw [List.getD_eq_getElem?_getD, List.getElem?_eq_getElem hj]
    exact Nat.le_trans (h2 _ (List.getElem_mem hj)) h3) (by omega)
  obtain ⟨vs, hvs⟩ := appAll_eq a0 a1 a2 a3 a4 a5 L hn hm (K + 1) (by omega) m hmL (m - x) x [] (by omega) (by simp)
  refine ⟨vs, ?_⟩
  unfold impl_Append.f
  rw [if_pos ⟨rfl, by omega, by rw [hll]; omega, by rw [show (0 : Int) = ((0 : Nat) : Int) from rfl, compact_RangeSize.eq 0 x (Nat.zero_le _) (by omega) K, Rg_len]⟩, htx _ 1502700 (by omega) r2 (by omega), Option.bind_some, htx _ 5000 (by omega) hlm (by omega), Option.bind_some, if_pos ⟨rfl, rfl⟩, Int.toNat_natCast, hvs, Option.bind_some, htx _ 1502700 (by omega) s2 (by omega), Option.bind_some, hll, show x + (m - x) = m by omega]
theorem rseed_fold {F : List Int → List Int → Option (List Int)} {xs : List (List Int)} {M : Nat} (hM : xs.length = M + 1) : ∀ i, i ≤ M → rseed F xs M i = foldR_ F (xs.drop (M - i))
  | 0, _ => by
    rw [rseed, Nat.sub_zero, List.drop_eq_getElem_cons (by omega), List.drop_of_length_le (by omega), foldR_, List.getD_eq_getElem?_getD, List.getElem?_eq_getElem (by omega)]; rfl
  | i + 1, hi => by
    rw [rseed, rseed_fold hM i (by omega)]
    have hne : xs.drop (M - i) ≠ [] := by
      intro h
      have := congrArg List.length h
      rw [List.length_drop, List.length_nil] at this; omega
    have hd : xs.drop (M - (i + 1)) = xs.getD (M - 1 - i) [] :: xs.drop (M - i) := by
      rw [show M - (i + 1) = M - 1 - i by omega, List.drop_eq_getElem_cons (show M - 1 - i < xs.length by omega), List.getD_eq_getElem?_getD, List.getElem?_eq_getElem (show M - 1 - i < xs.length by omega), show M - 1 - i + 1 = M - i by omega]; rfl
    rw [hd, foldR_cons hne]
theorem zI_eq {n : Nat} (hn : n ≤ 300) : ∀ i, i < (Nds 0 0 n).length → zI (n : Int) i = ((zN n i : Nat) : Int) ∧ zN n i ≤ 300
  | 0, _ => ⟨rfl, hn⟩
  | i + 1, h => by
    obtain ⟨h1, h2⟩ := zI_eq hn i (by omega)
    have hp := (zN_pos (show i < (Nds 0 0 n).length by omega)).1
    obtain ⟨_, _, s3, s4⟩ := zN_step hp
    refine ⟨?_, Nat.le_trans (Nat.le.intro s3) h2⟩
    rw [zI, h1, show ((zN n i : Nat) : Int) - 1 = ((zN n i : Nat) : Int) - ((1 : Nat) : Int) from rfl, u64sub (by omega) (by omega)]
    exact (u64_and_nat (zN n i) (zN n i - 1) (by omega) (by omega)).trans (by rw [s4])
theorem fold_part (a0 a1 a2 a3 a4 a5 : Int) (L : List (List Int)) (hn : L.length ≤ 300) (hm : ∀ x ∈ L, x.length ≤ 5000) (K : Nat) (hK : 2000000100 ≤ K) (n : Nat) (hnL : n ≤ L.length) (i : Nat) (hi : i < (Nds 0 0 n).length) :
    foldR_ (impl_toy_HashChildren.f K a0 a1 a2 a3 a4 a5) ((Rg (hash a0 a2 a5) (empt a0 a2 a3) L n).drop ((Nds 0 0 n).length - 1 - i)) = some (mth (hash a0 a2 a5) (empt a0 a2 a3) (seg L (zN n (i + 1)) n)) ∧ (mth (hash a0 a2 a5) (empt a0 a2 a3) (seg L (zN n (i + 1)) n)).length ≤ 200000000 := by
  have hp := (zN_pos hi).1
  obtain ⟨n1, n2, n3⟩ := zN_near (n := n) i hi
  obtain ⟨s1, s2, s3, _⟩ := zN_step hp
  have hpl := (zN_pos hi).2
  have hpp := Nat.two_pow_pos (tzn (zN n i))
  have hlt : zN n (i + 1) < n := by omega
  -- the nodes behind the first ones
  have e1 : Nds 0 0 n = Nds 0 0 (zN n (i + 1)) ++ Nds 0 (zN n (i + 1)) n := by
    have hz : zN n (i + 1) % 2 ^ tzn (zN n i) = 0 := by rw [s1, Nat.mul_mod_right]
    have hlev : lev (zN n (i + 1)) n = tzn (zN n i) := lev_is' hlt hz (by omega) (by rw [Nat.pow_succ]; omega)
    rw [Nds_step 0 (zN n (i + 1)) n hlt, hlev, s3, Nat.zero_add]
    conv => lhs; rw [n3, s2, List.append_assoc]
    rw [show zN n (i + 1) / 2 ^ tzn (zN n i) = zN n i / 2 ^ tzn (zN n i) - 1 by rw [s1, Nat.mul_div_cancel_left _ hpp]]; rfl
  have hl1 : (Nds 0 0 (zN n (i + 1))).length = (Nds 0 0 n).length - 1 - i := by
    have := congrArg List.length s2
    rw [List.length_append, List.length_singleton] at this; omega
  have hdrop : (Rg (hash a0 a2 a5) (empt a0 a2 a3) L n).drop ((Nds 0 0 n).length - 1 - i) = (Nds 0 (zN n (i + 1)) n).map (nodeH (hash a0 a2 a5) (empt a0 a2 a3) L) := by
    obtain ⟨k, hk⟩ : ∃ k, (Nds 0 0 n).length - 1 - i = k := ⟨_, rfl⟩
    rw [hk] at hl1 ⊢
    unfold Rg
    rw [e1, List.map_append, ← hl1, List.drop_left' (by rw [List.length_map])]
  obtain ⟨r1, r2⟩ := Rg_le a0 a2 a3 a5 L hn hm n hnL
  have hne : (Nds 0 (zN n (i + 1)) n).map (nodeH (hash a0 a2 a5) (empt a0 a2 a3) L) ≠ [] := by
    intro h
    have h3 := congrArg List.length h
    rw [List.length_map] at h3
    have := Nds_nonempty (l := 0) hlt
    rw [h3] at this
    exact absurd this (Nat.lt_irrefl 0)
  have hbd : ∀ x ∈ (Nds 0 (zN n (i + 1)) n).map (nodeH (hash a0 a2 a5) (empt a0 a2 a3) L), x.length ≤ 1502700 := fun x hx => by
    rw [← hdrop] at hx
    exact r2 x (List.mem_of_mem_drop hx)
  have hs := sum_le _ _ hbd
  have hl2 : ((Nds 0 (zN n (i + 1)) n).map (nodeH (hash a0 a2 a5) (empt a0 a2 a3) L)).length ≤ 128 := by
    rw [← hdrop, List.length_drop]; omega
  have hs2 : 1502700 * ((Nds 0 (zN n (i + 1)) n).map (nodeH (hash a0 a2 a5) (empt a0 a2 a3) L)).length ≤ 1502700 * 128 := Nat.mul_le_mul_left _ hl2
  obtain ⟨f1, f2⟩ := foldR_eq a0 a1 a2 a3 a4 a5 (empt a0 a2 a3) K _ 200000000 hne (by omega) (by omega) hK
  have hz2 : zN n (i + 1) % 2 ^ (tzn (zN n i) + 1) = 0 := by
    obtain ⟨q, hq, hqo⟩ := odd_succ (tzn_spec hp).2
    rw [hq, Nat.add_sub_cancel] at s1
    obtain ⟨r, hr⟩ : ∃ r, q = 2 * r := ⟨q / 2, by omega⟩
    rw [s1, hr, Nat.pow_succ, ← Nat.mul_assoc, Nat.mul_mod_right]
  have hfn := fold_nodes (hash a0 a2 a5) (empt a0 a2 a3) L n hnL _ (tzn (zN n i) + 1) (zN n (i + 1)) rfl hz2 (by rw [Nat.pow_succ]; omega) hlt
  rw [hdrop, f1, hfn]
  rw [hfn] at f2
  exact ⟨rfl, f2⟩
theorem zN_end {n : Nat} (h : 0 < n) : zN n (Nds 0 0 n).length = 0 := by
  have hl := Nds_nonempty (l := 0) h
  obtain ⟨M, hM⟩ : ∃ M, (Nds 0 0 n).length = M + 1 := ⟨(Nds 0 0 n).length - 1, by omega⟩
  obtain ⟨h1, h2⟩ := zN_pos (show M < (Nds 0 0 n).length by omega)
  have h3 := congrArg List.length (zN_step h1).2.1
  rw [List.length_append, List.length_singleton] at h3
  rw [hM]
  rcases Nat.eq_zero_or_pos (zN n (M + 1)) with h0 | h0
  · exact h0
  · have := Nds_nonempty (l := 0) h0
    omega
theorem impl_RootHash.eq (a0 a1 a2 a3 a4 a5 : Int) (L : List (List Int)) (hn : L.length ≤ 300) (hm : ∀ x ∈ L, x.length ≤ 5000) (K : Nat) (hK : 3000000000 ≤ K) (n : Nat) (h0 : 0 < n) (hnL : n ≤ L.length) :
    impl_RootHash.f (K + 1) a0 a1 a2 a3 a4 a5 0 (n : Int) (Rg (hash a0 a2 a5) (empt a0 a2 a3) L n) = some (mth (hash a0 a2 a5) (empt a0 a2 a3) (L.take n), (List.range ((Nds 0 0 n).length - 1)).map (fun i => ⟨⟨((tzn (zN n (i + 1)) + 1 : Nat) : Int), ((zN n (i + 1) / 2 ^ (tzn (zN n (i + 1)) + 1) : Nat) : Int)⟩, mth (hash a0 a2 a5) (empt a0 a2 a3) (seg L (zN n (i + 2)) n)⟩), true) := by
  obtain ⟨r1, r2⟩ := Rg_le a0 a2 a3 a5 L hn hm n hnL
  have hl := Nds_nonempty (l := 0) h0
  obtain ⟨M, hM⟩ : ∃ M, (Nds 0 0 n).length = M + 1 := ⟨(Nds 0 0 n).length - 1, by omega⟩
  have hRM : (Rg (hash a0 a2 a5) (empt a0 a2 a3) L n).length = M + 1 := by rw [Rg_len]; exact hM
  have hrs : ∀ i, i ≤ M → rseed (impl_toy_HashChildren.f (K + 1) a0 a1 a2 a3 a4 a5) (Rg (hash a0 a2 a5) (empt a0 a2 a3) L n) M i = some (mth (hash a0 a2 a5) (empt a0 a2 a3) (seg L (zN n (i + 1)) n)) ∧ (mth (hash a0 a2 a5) (empt a0 a2 a3) (seg L (zN n (i + 1)) n)).length ≤ 200000000 := fun i hi => by
    obtain ⟨f1, f2⟩ := fold_part a0 a1 a2 a3 a4 a5 L hn hm (K + 1) (by omega) n hnL i (by omega)
    rw [show (Nds 0 0 n).length - 1 - i = M - i by omega] at f1
    exact ⟨(rseed_fold hRM i hi).trans f1, f2⟩
  have hrO : ∀ i, i ≤ M → rsOf (impl_toy_HashChildren.f (K + 1) a0 a1 a2 a3 a4 a5) (Rg (hash a0 a2 a5) (empt a0 a2 a3) L n) M i = mth (hash a0 a2 a5) (empt a0 a2 a3) (seg L (zN n (i + 1)) n) := fun i hi => by
    unfold rsOf
    rw [(hrs i hi).1]; rfl
  have htz : ∀ i, i < M → bits_TrailingZeros64.f (zI (n : Int) (i + 1)) = some ((tzn (zN n (i + 1)) : Nat) : Int) ∧ tzn (zN n (i + 1)) ≤ 9 ∧ 0 < zN n (i + 1) := fun i hi => by
    obtain ⟨z1, z2⟩ := zI_eq (show n ≤ 300 by omega) (i + 1) (by omega)
    have hp := (zN_pos (show i + 1 < (Nds 0 0 n).length by omega)).1
    rw [z1]
    exact ⟨tz_eq hp (by omega), tzn_le hp (by omega), hp⟩
  have hlv : ∀ i, i < M → lvI (n : Int) i = tzn (zN n (i + 1)) := fun i hi => by
    unfold lvI
    rw [(htz i hi).1]; rfl
  have hok : rootOk (impl_toy_HashChildren.f (K + 1) a0 a1 a2 a3 a4 a5) (n : Int) (Rg (hash a0 a2 a5) (empt a0 a2 a3) L n) M = true := by
    unfold rootOk
    simp only [Bool.and_eq_true, decide_eq_true_eq]
    refine ⟨by omega, List.all_eq_true.mpr (fun i hi => ?_), List.all_eq_true.mpr (fun i hi => ?_)⟩
    · have hi := List.mem_range.mp hi
      rw [hlv i hi, Bool.and_eq_true, decide_eq_true_eq, decide_eq_true_eq]
      exact ⟨(htz i hi).1, by have := (htz i hi).2.1; omega⟩
    · have hi := List.mem_range.mp hi
      rw [hrO i (by omega), decide_eq_true_eq]
      have := (hrs i (by omega)).2; omega
  have hroot : mth (hash a0 a2 a5) (empt a0 a2 a3) (seg L (zN n (M + 1)) n) = mth (hash a0 a2 a5) (empt a0 a2 a3) (L.take n) := by
    have := zN_end h0
    rw [hM] at this
    rw [this, seg_zero]
  have htx : impl_texts.f (K + 1) (Rg (hash a0 a2 a5) (empt a0 a2 a3) L n) = some (Rg (hash a0 a2 a5) (empt a0 a2 a3) L n) := texts_eq _ (by omega) (fun j hj => by
    rw [List.getD_eq_getElem?_getD, List.getElem?_eq_getElem hj]
    exact Nat.le_trans (r2 _ (List.getElem_mem hj)) (by omega)) (by omega)
  unfold impl_RootHash.f
  rw [if_pos ⟨rfl, by omega, by rw [show (0 : Int) = ((0 : Nat) : Int) from rfl, compact_RangeSize.eq 0 n (Nat.zero_le _) (by omega) K, Rg_len]⟩, htx, Option.bind_some, if_pos ⟨rfl, by omega⟩, hRM, Nat.add_sub_cancel]
  unfold rootF
  rw [(hrs M (Nat.le_refl _)).1, Option.bind_some, if_pos hok, hroot, hM, Nat.add_sub_cancel]
  congr 3
  unfold rootV visR
  refine List.map_congr_left (fun i hi => ?_)
  have hi := List.mem_range.mp hi
  have h64 := (htz i hi).2.1
  dsimp only
  rw [hlv i hi, hrO (i + 1) (by omega), (zI_eq (show n ≤ 300 by omega) (i + 1) (by omega)).1]
  have e : ((zN n (i + 1) : Nat) : Int) / 2 ^ min (tzn (zN n (i + 1)) + 1) 64 = ((zN n (i + 1) / 2 ^ (tzn (zN n (i + 1)) + 1) : Nat) : Int) := by
    rw [Nat.min_eq_left (by omega), Int.natCast_ediv, Int.natCast_pow]; rfl
  rw [e]
end Go.Proofs.YtielnphmcaecdaaDoor.Hsh
namespace Go.Proofs.YtielnphmcaecdaaDoor.Pure
open Go.RowKit Go.Proofs.YtielnphmcaecdaaDoor.Num Go.Proofs.YtielnphmcaecdaaDoor.Mth Go.Proofs.YtielnphmcaecdaaDoor.Hsh Go.Proofs.YtielnphmcaecdaaDoor.PAll Go.Proofs.YtielnphmcaecdaaDoorW.PrintWords Go.Proofs.YtielnphmcaecdaaDoorW.PrintLast
set_option linter.unusedVariables false
set_option linter.unusedSimpArgs false
theorem texts_same (l : List Int) : spec_SameText.f l l = some true := by
  unfold spec_SameText.f
  rw [beq_self_eq_true]
theorem leaves_of (l c : Nat) (hl : l ≤ 63) (h : (c + 1) * 2 ^ l < 18446744073709551616) : spec_Leaves.f (l : Int) (c : Int) = some (((c * 2 ^ l : Nat) : Int), (((c + 1) * 2 ^ l : Nat) : Int)) := by
  have hp := Nat.two_pow_pos l
  have h1 : c + 1 ≤ (c + 1) * 2 ^ l := Nat.le_mul_of_pos_right _ hp
  have h2 : c * 2 ^ l ≤ (c + 1) * 2 ^ l := Nat.mul_le_mul_right _ (by omega)
  unfold spec_Leaves.f
  rw [if_pos (by omega), shl64 _ _ (by omega), show IntKind.u64.wrap ((c : Int) + 1) = ((c + 1 : Nat) : Int) from u64add (b := 1) (by omega), shl64 _ _ (by omega), Nat.mod_eq_of_lt (by omega), Nat.mod_eq_of_lt h]
theorem shown_leaves {n i : Nat} (hn : n ≤ 300) (hi : i + 1 < (Nds 0 0 n).length) : spec_Leaves.f ((tzn (zN n (i + 1)) + 1 : Nat) : Int) ((zN n (i + 1) / 2 ^ (tzn (zN n (i + 1)) + 1) : Nat) : Int) = some ((zN n (i + 2) : Int), ((zN n (i + 1) + 2 ^ tzn (zN n (i + 1)) : Nat) : Int)) ∧ zN n (i + 2) < n ∧ n < zN n (i + 1) + 2 ^ tzn (zN n (i + 1)) := by
  have hp := (zN_pos hi).1
  obtain ⟨n1, n2, _⟩ := zN_near (n := n) (i + 1) hi
  obtain ⟨s1, _, s3, _⟩ := zN_step hp
  have s1 : zN n (i + 2) = 2 ^ tzn (zN n (i + 1)) * (zN n (i + 1) / 2 ^ tzn (zN n (i + 1)) - 1) := s1
  have s3 : zN n (i + 2) + 2 ^ tzn (zN n (i + 1)) = zN n (i + 1) := s3
  obtain ⟨e, ho⟩ := tzn_spec hp
  obtain ⟨q, hq, hqo⟩ := odd_succ ho
  have hpp := Nat.two_pow_pos (tzn (zN n (i + 1)))
  have ht := tzn_le hp (by omega)
  have hc : zN n (i + 1) / 2 ^ (tzn (zN n (i + 1)) + 1) = q / 2 := by
    rw [Nat.pow_succ, ← Nat.div_div_eq_div_mul, hq]; omega
  rw [hq, Nat.add_sub_cancel] at s1
  obtain ⟨r, hr⟩ : ∃ r, q = 2 * r := ⟨q / 2, by omega⟩
  have e1 : r * 2 ^ (tzn (zN n (i + 1)) + 1) = zN n (i + 2) := by
    rw [s1, hr, Nat.pow_succ]; ac_rfl
  have e2 : (r + 1) * 2 ^ (tzn (zN n (i + 1)) + 1) = zN n (i + 1) + 2 ^ tzn (zN n (i + 1)) := by
    rw [Nat.add_mul, e1, Nat.one_mul, Nat.pow_succ]; omega
  have hb9 : 2 ^ tzn (zN n (i + 1)) ≤ 2 ^ 9 := Nat.pow_le_pow_right (by decide) ht
  have h512 : (2 : Nat) ^ 9 = 512 := rfl
  refine ⟨?_, by omega, n1⟩
  rw [hc, show q / 2 = r by omega, leaves_of _ r (by omega) (by rw [e2]; omega), e1, e2]
theorem root_loop (a0 a1 a2 a3 a4 a5 : Int) (L : List (List Int)) (hn : L.length ≤ 300) (hm : ∀ x ∈ L, x.length ≤ 5000) (V : List S51) (M : Nat) (hM : (Nds 0 0 L.length).length = M + 1) (hV : V.length = M)
    (hVi : ∀ i, i < M → V.getD i z51 = ⟨⟨((tzn (zN L.length (i + 1)) + 1 : Nat) : Int), ((zN L.length (i + 1) / 2 ^ (tzn (zN L.length (i + 1)) + 1) : Nat) : Int)⟩, mth (hash a0 a2 a5) (empt a0 a2 a3) (seg L (zN L.length (i + 2)) L.length)⟩)
    (b e : Int) (hs : List (List Int)) (hh : hs.length = M + 1) (hM2 : M < 1000) (K0 : Nat) (hK0 : 20000000 ≤ K0) (d : Nat) : ∀ (j : Nat), j + d = M →
    laws_FnRangeRootOfLeaves.l0 (K0 + d + 1) L V V (V.length : Int) (j : Int) a0 a1 a2 a3 a4 a5 b e hs = some true := by
  induction d with
  | zero =>
    intro j hj
    have e1 : wrap64 ((hs.length : Int) - 1) = (V.length : Int) := by rw [hh, hV]; unfold wrap64; omega
    rw [laws_FnRangeRootOfLeaves.l0, if_neg (by omega), e1, beq_self_eq_true]
  | succ d ih =>
    intro j hj
    obtain ⟨l1, l2, l3⟩ := shown_leaves hn (show j + 1 < (Nds 0 0 L.length).length by omega)
    have hrd : rd_T51 V (j : Int) = ⟨⟨((tzn (zN L.length (j + 1)) + 1 : Nat) : Int), ((zN L.length (j + 1) / 2 ^ (tzn (zN L.length (j + 1)) + 1) : Nat) : Int)⟩, mth (hash a0 a2 a5) (empt a0 a2 a3) (seg L (zN L.length (j + 2)) L.length)⟩ := by
      unfold rd_T51
      rw [Int.toNat_natCast]
      exact hVi j (by omega)
    have hw : IntKind.u64.wrap (L.length : Int) = (L.length : Int) := u64in (by omega)
    have hdr : L.drop (zN L.length (j + 2)) = seg L (zN L.length (j + 2)) L.length := by unfold seg; rw [List.take_of_length_le (Nat.le_refl _)]
    rw [laws_FnRangeRootOfLeaves.l0, if_pos (by omega), if_pos (by omega), if_pos (by omega), hrd]
    dsimp only
    rw [l1, Option.bind_some, hw]
    dsimp only
    rw [if_neg (by omega), if_neg (by omega), if_pos (by omega), if_pos (by omega), Int.toNat_natCast, hdr, spec_Root.eq a0 a1 a2 a3 a4 a5 (L.length - zN L.length (j + 2)) _ (seg_length (Nat.le_refl _)) (by omega) (seg_bound hm) _ (by omega), Option.bind_some, texts_same, Option.bind_some, if_pos rfl, next64 (by omega), show K0 + (d + 1) = K0 + d + 1 by omega]
    exact ih (j + 1) (by omega)
theorem FnRangeRootOfLeaves (x0 : S24) (l1 : List (List (Int))) (w0 : ((Lit.int .i64 x0.f0).wf = true) ∧ ((Lit.int .i64 x0.f1).wf = true) ∧ ((Lit.int .i64 x0.f2).wf = true) ∧ ((Lit.int .u64 x0.f3).wf = true) ∧ ((Lit.int .u64 x0.f4).wf = true) ∧ ((Lit.int .u64 x0.f5).wf = true)) (w1 : l1.length ≤ maxLen ∧ ∀ l1' ∈ l1, l1'.length ≤ maxLen ∧ ∀ l1'' ∈ l1', (Lit.int .u8 l1'').wf = true) : ∃ k, laws_FnRangeRootOfLeaves.f k x0.f0 x0.f1 x0.f2 x0.f3 x0.f4 x0.f5 l1 = some true := by
  obtain ⟨a0, b1, b2, b3, a4, a5⟩ := x0
  show ∃ k, laws_FnRangeRootOfLeaves.f k a0 b1 b2 b3 a4 a5 l1 = some true
  obtain ⟨z, kz, hz, hfit⟩ := fits l1
  cases z with
  | false => exact ⟨kz, by unfold laws_FnRangeRootOfLeaves.f; rw [hz, Option.bind_some, if_neg (by decide)]⟩
  | true =>
  obtain ⟨f1, f2⟩ := hfit rfl
  obtain ⟨z, hz2, hsm⟩ := small l1 f1
  obtain ⟨K, hK⟩ : ∃ K, K = kz + l1.length + 4000000000 := ⟨_, rfl⟩
  refine ⟨K + 2, ?_⟩
  unfold laws_FnRangeRootOfLeaves.f
  rw [lift (fun k => laws_zzFits2.mono l1 k) hz (show kz ≤ K + 2 by omega), Option.bind_some, if_pos rfl, lift (fun k => laws_logSmall.mono l1 k) hz2 (show l1.length + 1 ≤ K + 2 by omega), Option.bind_some]
  cases z with
  | false => rw [if_neg (by decide), laws_FnRangeRootOfLeaves.j0, if_pos rfl]
  | true =>
  obtain ⟨g1, g2⟩ := hsm rfl
  have hm := mem_bound g2
  rw [if_pos rfl, laws_FnRangeRootOfLeaves.j0]
  by_cases h0 : l1.length = 0
  · rw [if_pos (by rw [h0]; rfl)]
  have hnz : ¬ (((l1.length : Int) == 0) = true) := by
    rw [beq_iff_eq]; omega
  obtain ⟨v1, e1⟩ := impl_Append.eq a0 b1 b2 b3 a4 a5 l1 g1 hm K (by omega) 0 l1.length (Nat.zero_le _) (Nat.le_refl _)
  rw [show Rg (hash a0 b2 a5) (empt a0 b2 b3) l1 0 = [] by unfold Rg; rw [Nds_empty (Nat.le_refl _)]; rfl, List.drop_zero, List.take_of_length_le (Nat.le_refl _)] at e1
  have e1 : impl_Append.f (K + 1) a0 b1 b2 b3 a4 a5 0 0 [] l1 = _ := e1
  have r1 := impl_RootHash.eq a0 b1 b2 b3 a4 a5 l1 g1 hm K (by omega) l1.length (by omega) (Nat.le_refl _)
  rw [List.take_of_length_le (Nat.le_refl _)] at r1
  rw [if_neg hnz, e1, Option.bind_some]
  dsimp only
  rw [r1, Option.bind_some]
  dsimp only
  rw [if_pos rfl, if_pos rfl, spec_Root.eq a0 b1 b2 b3 a4 a5 l1.length l1 rfl g1 hm (K + 1) (by omega), Option.bind_some, texts_same, Option.bind_some, laws_FnRangeRootOfLeaves.j1, if_neg (by decide)]
  obtain ⟨M, hM⟩ : ∃ M, (Nds 0 0 l1.length).length = M + 1 := ⟨(Nds 0 0 l1.length).length - 1, by have := Nds_nonempty (l := 0) (b := 0) (e := l1.length) (by omega); omega⟩
  have hM64 := Nds_len 0 0 l1.length 64 (by omega)
  rw [hM, Nat.add_sub_cancel]
  have hl := root_loop a0 b1 b2 b3 a4 a5 l1 g1 hm ((List.range M).map (fun i => (⟨⟨((tzn (zN l1.length (i + 1)) + 1 : Nat) : Int), ((zN l1.length (i + 1) / 2 ^ (tzn (zN l1.length (i + 1)) + 1) : Nat) : Int)⟩, mth (hash a0 b2 a5) (empt a0 b2 b3) (seg l1 (zN l1.length (i + 2)) l1.length)⟩ : S51))) M hM (by simp) (fun i hi => by
    rw [List.getD_eq_getElem?_getD, List.getElem?_map, List.getElem?_range hi]; rfl) 0 (l1.length : Int) (Rg (hash a0 b2 a5) (empt a0 b2 b3) l1 l1.length) (by rw [Rg_len]; exact hM) (by omega) (K - M - 1) (by omega) M 0 (by omega)
  rw [show K - M - 1 + M + 1 = K by omega] at hl
  exact hl
end Go.Proofs.YtielnphmcaecdaaDoor.Pure
namespace Go.Proofs.YtielnphmcaecdaaDoorW.PrintWords
open Go.RowKit Go.ChangeShapes Go.WideShapes
structure Opens {α : Type} (P : Program) (d : Kd α) (t : TypeId) (wf : α → Prop) : Prop where
  cells : P.cellsOf t = d.sz
  opens : ∀ {H : Type} {enc : TypeId × Value → H} {w : World} {base : Nat} {spare : Nat → Bool} {held : Bool} {n : Nat} {cs : List Value} {y : DataW H × List MemPlace},
    DataW.trod enc P w base spare held n t cs = some y → ∃ x, d.K w x cs ∧ wf x
theorem Opens.int {P : Program} {k : IntKind} {t : TypeId} (ht : P.underlying t = some (.int k)) (hc : P.cellsOf t = 1) : Opens P (Kd.int k) t (fun x => (Lit.int k x).wf = true) where
  cells := hc
  opens := fun h => by
    obtain ⟨n, rfl, _, hw⟩ := DataW.trod_int ht h
    exact ⟨n, rfl, hw⟩
theorem cells_of {w : World} {base : Nat} {a : Addr} {m : Nat} {cs : List Value} (h : w.cells? base a m = some cs) : cs.length = m ∧ ∀ i u, cs[i]? = some u → w.cell? (a.add i) = some u := by
  obtain ⟨_, h1, h2⟩ := World.cells?_some h
  exact ⟨h1, fun i u hu => (h2 i (by have := (List.getElem?_eq_some_iff.1 hu).1; omega)).trans hu⟩
theorem Opens.slice {α : Type} {P : Program} {d : Kd α} {t e : TypeId} {wf : α → Prop} (hd : Opens P d e wf) (ht : P.underlying t = some (.slice e)) (hc : P.cellsOf t = 1) :
    Opens P (Kd.slice e d) t (fun xs => xs.length ≤ maxLen ∧ ∀ x ∈ xs, wf x) where
  cells := hc
  opens := fun {H enc w base spare held n cs y} h => by
    rcases Deep.open_slice ht h with ⟨rfl, _⟩ | ⟨a, len, cap, m, n', D, Pl, rfl, _, hl, hm, hmm, _, hi⟩
    · exact ⟨[], ⟨none, 0, rfl, Nat.le_refl _, rfl, by simp, fun h => absurd h (by simp)⟩, by simp, fun x hx => by simp at hx⟩
    · have hle : len ≤ m := by rw [hmm]; split <;> omega
      have hx : ∀ i, i < len → ∃ x : α, wf x ∧ ∃ cs', d.K w x cs' ∧ w.cells? base (a.add (i * P.cellsOf e)) (P.cellsOf e) = some cs' := fun i h2 => by
        obtain ⟨cs', h3, h4⟩ := hi i (by omega)
        obtain ⟨x, h5, h6⟩ := hd.opens h4
        exact ⟨x, h6, cs', h5, h3⟩
      have hlist : ∀ j, j ≤ len → ∃ xs : List α, xs.length = j ∧ (∀ x ∈ xs, wf x) ∧ ∀ (i : Nat) p, xs[i]? = some p → ∃ cs', d.K w p cs' ∧ w.cells? base (a.add (i * P.cellsOf e)) (P.cellsOf e) = some cs' := by
        intro j
        induction j with
        | zero => exact fun _ => ⟨[], rfl, fun x hx => by simp at hx, fun i p hp => by simp at hp⟩
        | succ j ih =>
          intro hj
          obtain ⟨xs, h1, h2, h3⟩ := ih (by omega)
          obtain ⟨x, h4, cs', h5, h6⟩ := hx j (by omega)
          refine ⟨xs ++ [x], by simp [h1], fun z hz => ?_, fun i p hp => ?_⟩
          · rcases List.mem_append.1 hz with h7 | h7
            · exact h2 z h7
            · rw [List.mem_singleton.1 h7]; exact h4
          · by_cases hij : i < xs.length
            · rw [List.getElem?_append_left hij] at hp
              exact h3 i p hp
            · rw [List.getElem?_append_right (by omega)] at hp
              have : i = j := by
                have := (List.getElem?_eq_some_iff.1 hp).1
                simp at this; omega
              subst this
              rw [h1, Nat.sub_self] at hp
              simp at hp
              subst hp
              exact ⟨cs', h5, h6⟩
      obtain ⟨xs, h1, h2, h3⟩ := hlist len (Nat.le_refl _)
      subst h1
      refine ⟨xs, ⟨some a, cap, rfl, hl, rfl, by unfold maxLen at hm; omega, fun _ => ⟨a, rfl, fun j p hp => ?_⟩⟩, by omega, h2⟩
      obtain ⟨cs', h4, h5⟩ := h3 j p hp
      obtain ⟨h6, h7⟩ := cells_of h5
      refine ⟨cs', d.K_len h4, h4, fun i u hu => ?_⟩
      have := h7 i u hu
      rwa [Deep.add_add, hd.cells] at this
structure OpensFs {α : Type} (P : Program) (d : Kd α) (fs : List Field) (off : Nat) (wf : α → Prop) : Prop where
  opens : ∀ {H : Type} {enc : TypeId × Value → H} {w : World} {base : Nat} {spare : Nat → Bool} {held : Bool} {n : Nat} {cs : List Value},
    (∀ f ∈ fs, ∃ y, DataW.trod enc P w base spare held n f.type ((cs.drop f.offset).take (P.cellsOf f.type)) = some y) → ∃ x, d.K w x ((cs.drop off).take d.sz) ∧ wf x
theorem OpensFs.last {α : Type} {P : Program} {d : Kd α} {f : Field} {off : Nat} {wf : α → Prop} (h : Opens P d f.type wf) (ho : f.offset = off) : OpensFs P d [f] off wf where
  opens := fun hf => by
    obtain ⟨y, hy⟩ := hf f (by simp)
    rw [h.cells, ho] at hy
    exact h.opens hy
theorem OpensFs.cons {α β : Type} {P : Program} {d : Kd α} {d' : Kd β} {f : Field} {fs : List Field} {off : Nat} {wf : α → Prop} {wf' : β → Prop} (h : Opens P d f.type wf) (ho : f.offset = off) (h' : OpensFs P d' fs (off + d.sz) wf') :
    OpensFs P (Kd.pair d d') (f :: fs) off (fun x => wf x.1 ∧ wf' x.2) where
  opens := fun {H enc w base spare held n cs} hf => by
    obtain ⟨y, hy⟩ := hf f (by simp)
    rw [h.cells, ho] at hy
    obtain ⟨x, h1, h2⟩ := h.opens hy
    obtain ⟨x', h3, h4⟩ := h'.opens (cs := cs) fun g hg => hf g (by simp [hg])
    exact ⟨(x, x'), ⟨_, _, by rw [show (Kd.pair d d').sz = d.sz + d'.sz from rfl, List.take_add, List.drop_drop], h1, h3⟩, h2, h4⟩
theorem Opens.struct {α β : Type} {P : Program} {d : Kd α} {t : TypeId} {fs : Array Field} {wf : α → Prop} (ht : P.underlying t = some (.struct fs)) (h : OpensFs P d fs.toList 0 wf) (hc : P.cellsOf t = d.sz) (f : β → α) (g : α → β) (hfg : ∀ a, f (g a) = a) :
    Opens P (Kd.iso d f) t (fun x => wf (f x)) where
  cells := hc
  opens := fun {H enc w base spare held n cs y} hy => by
    obtain ⟨xs, m, _, _, hl, hn, hi⟩ := DataW.trod_struct ht hy
    obtain ⟨x, h1, h2⟩ := h.opens (cs := cs) (enc := enc) (n := m) fun f0 hf0 => by
      obtain ⟨i, hlt, rfl⟩ := List.mem_iff_getElem.1 hf0
      rw [Array.length_toList] at hlt
      have h3 := hi i fs[i] (Array.getElem?_eq_getElem hlt)
      have h4 : i < xs.length := by rw [hn]; exact hlt
      rw [List.getElem?_eq_getElem h4] at h3
      exact ⟨_, by simpa using h3⟩
    rw [List.drop_zero, List.take_of_length_le (by rw [hl, hc]; exact Nat.le_refl _)] at h1
    exact ⟨g x, by show d.K w (f (g x)) cs; rw [hfg]; exact h1, by rw [hfg]; exact h2⟩
section
variable {H : Type} {enc : TypeId × Value → H} {P : Program} {w : World} {base : Nat} {spare : Nat → Bool} {held : Bool} {r : Reach} {b0 : Nat} {t : TypeId} {v : Value} {dat : DataW H} {p : List MemPlace}
theorem Opens.arg_slice {α : Type} {d : Kd α} {e : TypeId} {wf : List α → Prop} (h : Opens P (Kd.slice e d) t wf) (ht : P.underlying t = some (.slice e)) (hv : Value.okWide P w r b0 t v) (hT : DataW.Trod enc P w base spare held t v dat p) :
    ∃ (A : Option Addr) (xs : List α) (c : Nat), v = .slice A xs.length c ∧ xs.length ≤ c ∧ d.C w A xs.length xs ∧ wf xs := by
  obtain ⟨a, len, cap, rfl⟩ := okWide_slice ht hv
  obtain ⟨fuel, hf⟩ := hT
  obtain ⟨xs, ⟨A, c, hcs, hle, hC⟩, hw⟩ := h.opens hf
  simp [Value.cells] at hcs
  obtain ⟨rfl, rfl, rfl⟩ := hcs
  exact ⟨_, xs, _, rfl, hle, hC, hw⟩
theorem Opens.arg_struct {α : Type} {d : Kd α} {fs : Array Field} {wf : α → Prop} (h : Opens P d t wf) (ht : P.underlying t = some (.struct fs)) (hv : Value.okWide P w r b0 t v) (hT : DataW.Trod enc P w base spare held t v dat p) :
    ∃ (x : α) (cs : List Value), v = .agg cs.toArray ∧ d.K w x cs ∧ wf x := by
  obtain ⟨cs, rfl, _⟩ := okWide_struct ht hv
  obtain ⟨fuel, hf⟩ := hT
  obtain ⟨x, h1, h2⟩ := h.opens hf
  exact ⟨x, cs.toList, by simp, h1, h2⟩
end
end Go.Proofs.YtielnphmcaecdaaDoorW.PrintWords
