import Derived.Test.YthfgegaakfgjkaaDoorPAllx4
import Derived.Test.YthfgegaakfgjkaaDoorNodeLists
/-! The law on the nodes of a range, over numbers and lists alone. -/
namespace Go.Proofs.YthfgegaakfgjkaaDoor.Pure
open Go.RowKit Go.Proofs.YthfgegaakfgjkaaDoor.Num Go.Proofs.YthfgegaakfgjkaaDoor.Mth Go.Proofs.YthfgegaakfgjkaaDoor.PAll Go.Proofs.YthfgegaakfgjkaaDoorW.PrintWords Go.Proofs.YthfgegaakfgjkaaDoorW.PrintLast
theorem FnRangeNodes (a0 : Int) (a1 : Int) (l2 : List (S36)) (w0 : (Lit.int .u64 a0).wf = true) (w1 : (Lit.int .u64 a1).wf = true) (_w2 : l2.length ≤ maxLen ∧ ∀ l2' ∈ l2, ((Lit.int .u64 l2'.f0).wf = true) ∧ ((Lit.int .u64 l2'.f1).wf = true)) : ∃ k, laws_FnRangeNodes.f k a0 a1 l2 = some true := by
  obtain ⟨b, rfl, hb⟩ := wf_u64 w0
  obtain ⟨e, rfl, he⟩ := wf_u64 w1
  clear w0 w1
  by_cases h1 : (l2.length : Int) > 2147483647
  · exact ⟨0, by unfold laws_FnRangeNodes.f; rw [if_pos h1]⟩
  by_cases h2 : (b : Int) > (e : Int)
  · exact ⟨0, by unfold laws_FnRangeNodes.f; rw [if_neg h1, if_pos h2]⟩
  have hl : l2.length ≤ 2147483647 := by omega
  have hbe : b ≤ e := by omega
  have hn := Nds_len 0 b e 64 he
  obtain ⟨K, hK⟩ : ∃ K, K = 2 * l2.length + 9001 := ⟨_, rfl⟩
  have r1 := spec_Nodes.eq b e hbe he K (by omega)
  have r2 : impl_RangeSize.f K (b : Int) (e : Int) = some (((Nds 0 b e).length : Nat) : Int) := by
    unfold impl_RangeSize.f
    have := compact_RangeSize.eq b e hbe he (K - 1)
    rw [show K - 1 + 1 = K by omega] at this
    rw [this]; rfl
  have r3 := impl_RangeNodes.eq b e hbe he l2 hl K (by omega)
  have r4 := spec_SameNodes.same (l2 ++ (Nds 0 b e).map inode) (by simp; omega) K (by simp; omega)
  have c1 : ([] : List S36).length + l2.length < 8796093022208 := by simp; omega
  have c2 : l2.length + ((Nds 0 b e).map inode).length < 8796093022208 := by simp; omega
  refine ⟨K, ?_⟩
  unfold laws_FnRangeNodes.f
  rw [if_neg h1, if_neg h2, r1, Option.bind_some, r2, Option.bind_some, List.length_map, if_pos rfl, r3, Option.bind_some, Option.bind_some, if_pos c1, Option.bind_some, List.nil_append]
  rw [List.length_map] at c2
  rw [if_pos c2, r4]; rfl
end Go.Proofs.YthfgegaakfgjkaaDoor.Pure
