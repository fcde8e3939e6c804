import Derived.Test.YthfgegaakfgjkaaDoorPAllx5
import Derived.Test.YthfgegaakfgjkaaDoorPAllx4
import Derived.Test.YthfgegaakfgjkaaDoorNodeLists
/-! The law on the nodes of a scaled range, over numbers and lists alone. -/
namespace Go.Proofs.YthfgegaakfgjkaaDoor.Pure
open Go.RowKit Go.Proofs.YthfgegaakfgjkaaDoor.Num Go.Proofs.YthfgegaakfgjkaaDoor.Mth Go.Proofs.YthfgegaakfgjkaaDoor.PAll Go.Proofs.YthfgegaakfgjkaaDoorW.PrintWords Go.Proofs.YthfgegaakfgjkaaDoorW.PrintLast
def lift (k : Nat) (x : S36) : S36 := ⟨IntKind.u64.wrap (x.f0 + IntKind.u64.wrap (k : Int)), x.f1⟩
theorem raised_loop (c : Nat) (l : List S36) (hl : l.length < 4398046511104) (d : Nat) : ∀ (i k : Nat) (out : List S36), i + d = l.length → out.length + d < 8796093022208 → d < k →
    laws_raised.l0 k (c : Int) out l (l.length : Int) (i : Int) = some (out ++ (l.drop i).map (lift c)) := by
  induction d with
  | zero =>
    intro i k out hi ho hk
    obtain ⟨k, rfl⟩ : ∃ m, k = m + 1 := ⟨k - 1, by omega⟩
    rw [laws_raised.l0, if_neg (by omega), List.drop_of_length_le (by omega)]; simp
  | succ d ih =>
    intro i k out hi ho hk
    obtain ⟨k, rfl⟩ : ∃ m, k = m + 1 := ⟨k - 1, by omega⟩
    have hlt : i < l.length := by omega
    have hlen : out.length < 8796093022208 := by omega
    have hw : wrap64 ((i : Int) + 1) = ((i + 1 : Nat) : Int) := w64_add i 1 (by omega)
    have hi := ih (i + 1) k (out ++ [lift c (rd_T36 l (i : Int))]) (by omega) (by simp; omega) (by omega)
    rw [laws_raised.l0, if_pos (by omega), if_pos (Int.natCast_nonneg i), if_pos (by omega)]
    show (if out.length < 8796093022208 then laws_raised.l0 k (c : Int) (out ++ [lift c (rd_T36 l (i : Int))]) l (l.length : Int) (wrap64 ((i : Int) + 1)) else none) = _
    rw [if_pos hlen, hw, hi, drop_rd l i z36 hlt, List.map_cons, List.append_assoc]; rfl
theorem raised_eq (c : Nat) (l : List S36) (hl : l.length < 4398046511104) (K : Nat) (hK : l.length < K) : laws_raised.f K l (c : Int) = some (l.map (lift c)) := by
  have := raised_loop c l hl l.length 0 K [] (by omega) (by simp; omega) (by omega)
  unfold laws_raised.f
  rw [show (0 : Int) = ((0 : Nat) : Int) from rfl, this]; rfl
/-- The levels of a range's nodes are below 64. -/
theorem Nds_level (l b e m : Nat) (he : e < 2 ^ m) : ∀ p ∈ Nds l b e, p.1 < l + m := by
  induction m generalizing l b e with
  | zero => intro p hp; rw [Nds_empty (by simp at he; omega)] at hp; simp at hp
  | succ m ih =>
    intro p hp
    by_cases h : b < e
    · rw [Nds_some h] at hp
      have hi := ih (l + 1) ((b + 1) / 2) (e / 2) (by rw [Nat.pow_succ] at he; omega) p
      simp only [List.mem_append] at hp
      rcases hp with (hp | hp) | hp
      · split at hp
        · simp at hp; subst hp; simp
        · simp at hp
      · have := hi hp; omega
      · split at hp
        · simp at hp; subst hp; simp
        · simp at hp
    · rw [Nds_empty (by omega)] at hp; simp at hp
theorem scalable_pos {e k : Nat} (hk : k ≤ 63) (h : shr .u64 (shl .u64 (e : Int) (k : Int)) (k : Int) = (e : Int)) : e * 2 ^ k < 18446744073709551616 := by
  rw [shl64 e k (by omega), shr64, Nat.min_eq_left (by omega)] at h
  have h1 : e * 2 ^ k % 18446744073709551616 / 2 ^ k = e := by omega
  have h2 : e * 2 ^ k % 18446744073709551616 < 18446744073709551616 := Nat.mod_lt _ (by decide)
  have h3 := Nat.div_mul_le_self (e * 2 ^ k % 18446744073709551616) (2 ^ k)
  rw [h1] at h3
  omega
theorem FnRangeNodesScaled (a0 : Int) (a1 : Int) (a2 : Int) (w0 : (Lit.int .u64 a0).wf = true) (w1 : (Lit.int .u64 a1).wf = true) (_w2 : (Lit.int .i64 a2).wf = true) : ∃ k, laws_FnRangeNodesScaled.f k a0 a1 a2 = some true := by
  obtain ⟨b, rfl, hb⟩ := wf_u64 w0
  obtain ⟨e, rfl, he⟩ := wf_u64 w1
  clear w0 w1
  by_cases h1 : (b : Int) > (e : Int)
  · exact ⟨1, by unfold laws_FnRangeNodesScaled.f; rw [if_pos h1, laws_FnRangeNodesScaled.j0]; rfl⟩
  by_cases hs : laws_scalable.f (e : Int) a2 = some true
  · have hr : 0 ≤ a2 ∧ a2 ≤ 63 := by
      unfold laws_scalable.f at hs
      split at hs
      · split at hs
        · omega
        · simp at hs
      · simp at hs
    obtain ⟨k, rfl⟩ := Int.eq_ofNat_of_zero_le hr.1
    have hk : k ≤ 63 := by omega
    have hsc : e * 2 ^ k < 18446744073709551616 := by
      apply scalable_pos hk
      unfold laws_scalable.f at hs
      rw [if_pos (by omega), if_pos (by omega), if_pos (by omega)] at hs
      simpa using hs
    have hp := Nat.two_pow_pos k
    have hbe : b ≤ e := by omega
    have hbe2 : b * 2 ^ k ≤ e * 2 ^ k := Nat.mul_le_mul_right _ hbe
    have s1 : shl .u64 (b : Int) (k : Int) = ((b * 2 ^ k : Nat) : Int) := by rw [shl64 b k (by omega), Nat.mod_eq_of_lt (by omega)]
    have s2 : shl .u64 (e : Int) (k : Int) = ((e * 2 ^ k : Nat) : Int) := by rw [shl64 e k (by omega), Nat.mod_eq_of_lt hsc]
    have hn := Nds_len 0 b e 64 he
    have hn2 := Nds_len 0 (b * 2 ^ k) (e * 2 ^ k) 64 hsc
    have hlist : Nds 0 (b * 2 ^ k) (e * 2 ^ k) = (Nds 0 b e).map fun p => (p.1 + k, p.2) := by
      have := Nds_raise k 0 b e
      rw [Nat.zero_add] at this
      rw [Nds_shift, this]
    have hlen2 : (Nds 0 (b * 2 ^ k) (e * 2 ^ k)).length = (Nds 0 b e).length := by rw [hlist, List.length_map]
    have hlift : ((Nds 0 b e).map inode).map (lift k) = (Nds 0 (b * 2 ^ k) (e * 2 ^ k)).map inode := by
      rw [hlist, List.map_map, List.map_map]
      apply List.map_congr_left
      intro p hpm
      have := Nds_level 0 b e 64 he p hpm
      show (⟨IntKind.u64.wrap (((p.1 : Nat) : Int) + IntKind.u64.wrap (k : Int)), (p.2 : Int)⟩ : S36) = ⟨((p.1 + k : Nat) : Int), (p.2 : Int)⟩
      rw [u64in (by omega), u64add (by omega)]
    have sz : ∀ (x y : Nat), x ≤ y → y < 18446744073709551616 → ∀ K, 1 ≤ K → impl_RangeSize.f K (x : Int) (y : Int) = some (((Nds 0 x y).length : Nat) : Int) := by
      intro x y hxy hy K hK
      have := compact_RangeSize.eq x y hxy hy (K - 1)
      rw [show K - 1 + 1 = K by omega] at this
      unfold impl_RangeSize.f
      rw [this]; rfl
    have r1 := impl_RangeNodes.eq b e hbe he [] (by simp) 9000 (by simp)
    have r2 := impl_RangeNodes.eq (b * 2 ^ k) (e * 2 ^ k) hbe2 hsc [] (by simp) 9000 (by simp)
    have r3 := raised_eq k ((Nds 0 b e).map inode) (by simp; omega) 9000 (by simp; omega)
    have r4 := spec_SameNodes.same ((Nds 0 (b * 2 ^ k) (e * 2 ^ k)).map inode) (by simp; omega) 9000 (by simp; omega)
    have r5 := sz b e hbe he 9000 (by omega)
    have r6 := sz (b * 2 ^ k) (e * 2 ^ k) hbe2 hsc 9000 (by omega)
    rw [List.nil_append] at r1 r2
    rw [hlift] at r3
    have hfin : (decide ((((Nds 0 b e).length : Nat) : Int) > 0) == decide ((b : Int) < (e : Int))) = true := by
      by_cases hlt : b < e
      · have := Nds_nonempty (l := 0) hlt
        rw [decide_eq_true (by omega), decide_eq_true (by omega)]; rfl
      · rw [Nds_empty (by omega), decide_eq_false (by simp), decide_eq_false (by omega)]; rfl
    have h9 : laws_FnRangeNodesScaled.j0 (9000 + 1) (b : Int) (e : Int) (k : Int) false = some true := by
      rw [laws_FnRangeNodesScaled.j0, if_neg (by simp), r1, Option.bind_some, if_pos (Int.natCast_nonneg k), s1, s2, r2, Option.bind_some, r3, Option.bind_some, r4, Option.bind_some, if_pos rfl, r5, Option.bind_some, List.length_map, if_pos rfl, r6, Option.bind_some, hlen2, if_pos rfl, hfin]
    refine ⟨9000 + 1, ?_⟩
    unfold laws_FnRangeNodesScaled.f
    rw [if_neg h1, hs]
    exact h9
  · have hf : laws_scalable.f (e : Int) a2 = some false := by
      unfold laws_scalable.f at hs ⊢
      split at hs
      · split at hs
        · rename_i h2 h3
          rw [if_pos h2, if_pos h3, if_pos (by omega)]
          congr 1
          have h4 : (0 : Int) ≤ a2 := h2
          simpa [h4] using hs
        · rename_i h2 h3
          rw [if_pos h2, if_neg h3]
      · rename_i h2
        rw [if_neg h2]
    refine ⟨1, ?_⟩
    unfold laws_FnRangeNodesScaled.f
    rw [if_neg h1, hf, Option.bind_some, laws_FnRangeNodesScaled.j0]; rfl
end Go.Proofs.YthfgegaakfgjkaaDoor.Pure
