import Derived.Test.YtielnphmcaecdaaDoorPAllx18
import Derived.Test.YtielnphmcaecdaaDoorRootFns
/-! The law on the root of a tree, over numbers and lists alone. -/
namespace Go.Proofs.YtielnphmcaecdaaDoor.Pure
open Go.RowKit Go.Proofs.YtielnphmcaecdaaDoor.Num Go.Proofs.YtielnphmcaecdaaDoor.Mth Go.Proofs.YtielnphmcaecdaaDoor.Hsh Go.Proofs.YtielnphmcaecdaaDoor.PAll Go.Proofs.YtielnphmcaecdaaDoorW.PrintWords Go.Proofs.YtielnphmcaecdaaDoorW.PrintLast
set_option linter.unusedVariables false
theorem same_text (l : List Int) : spec_SameText.f l l = some true := by
  unfold spec_SameText.f
  rw [beq_self_eq_true]
theorem FnTreeRoot (x0 : S24) (l1 : List (List (Int))) (a2 : Int) (w0 : ((Lit.int .i64 x0.f0).wf = true) ∧ ((Lit.int .i64 x0.f1).wf = true) ∧ ((Lit.int .i64 x0.f2).wf = true) ∧ ((Lit.int .u64 x0.f3).wf = true) ∧ ((Lit.int .u64 x0.f4).wf = true) ∧ ((Lit.int .u64 x0.f5).wf = true)) (w1 : l1.length ≤ maxLen ∧ ∀ l1' ∈ l1, l1'.length ≤ maxLen ∧ ∀ l1'' ∈ l1', (Lit.int .u8 l1'').wf = true) (w2 : (Lit.int .u64 a2).wf = true) : ∃ k, laws_FnTreeRoot.f k x0.f0 x0.f1 x0.f2 x0.f3 x0.f4 x0.f5 l1 a2 = some true := by
  obtain ⟨a0, a1, b2, a3, a4, a5⟩ := x0
  show ∃ k, laws_FnTreeRoot.f k a0 a1 b2 a3 a4 a5 l1 a2 = some true
  obtain ⟨n, rfl, hn⟩ := wf_u64 w2
  obtain ⟨z, kz, hz, hfit⟩ := fits l1
  cases z with
  | false => exact ⟨kz, by unfold laws_FnTreeRoot.f; rw [hz, Option.bind_some, if_neg (by decide)]⟩
  | true =>
  obtain ⟨f1, f2⟩ := hfit rfl
  obtain ⟨z, hz2, hsm⟩ := small l1 f1
  obtain ⟨K, hK⟩ : ∃ K, K = kz + l1.length + 3000000000 := ⟨_, rfl⟩
  refine ⟨K + 1, ?_⟩
  unfold laws_FnTreeRoot.f
  rw [lift (fun k => laws_zzFits2.mono l1 k) hz (show kz ≤ K + 1 by omega), Option.bind_some, if_pos rfl, lift (fun k => laws_logSmall.mono l1 k) hz2 (show l1.length + 1 ≤ K + 1 by omega), Option.bind_some]
  cases z with
  | false => rw [if_neg (by decide)]
  | true =>
  obtain ⟨g1, g2⟩ := hsm rfl
  have hm := mem_bound g2
  have hw : IntKind.u64.wrap (l1.length : Int) = (l1.length : Int) := u64in (by omega)
  rw [if_pos rfl, hw]
  by_cases h : l1.length < n
  · have e : impl_TreeRoot.f (K + 1) a0 a1 b2 a3 a4 a5 l1 (n : Int) = some ([], false) := by
      unfold impl_TreeRoot.f
      rw [hw, if_pos (by omega)]
    rw [e, Option.bind_some, if_pos (by omega)]; rfl
  · have ht : (l1.take n).length = n := by rw [List.length_take]; omega
    rw [impl_TreeRoot.eq a0 a1 b2 a3 a4 a5 l1 g1 hm n (by omega) K (by omega), Option.bind_some, if_neg (by omega)]
    dsimp only
    rw [if_pos rfl, if_pos (by omega), if_pos (by omega), Int.toNat_natCast, spec_Root.eq a0 a1 b2 a3 a4 a5 n _ ht (by omega) (fun x hx => hm x (List.mem_of_mem_take hx)) (K + 1) (by omega), Option.bind_some, same_text, Option.bind_some]
end Go.Proofs.YtielnphmcaecdaaDoor.Pure
