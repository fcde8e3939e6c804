import Derived.Test.YtbfhmcgiamnliaaPAllx5
import Derived.Test.YtbfhmcgiamnliaaChain
/-! The law of the chains, over numbers and lists alone. -/
namespace Go.Proofs.Ytbfhmcgiamnliaa.Pure
open Go.RowKit Go.Proofs.Ytbfhmcgiamnliaa.Num Go.Proofs.Ytbfhmcgiamnliaa.Hsh Go.Proofs.Ytbfhmcgiamnliaa.PAll Go.Proofs.YtbfhmcgiamnliaaW.PrintWords Go.Proofs.YtbfhmcgiamnliaaW.PrintLast
set_option linter.unusedVariables false
theorem same_text (l : List Int) : spec_SameText.f l l = some true := by
  unfold spec_SameText.f
  rw [beq_self_eq_true]
theorem FnChains (x0 : S24) (l1 : List (Int)) (l2 : List (List (Int))) (a3 : Int) (w0 : ((Lit.int .i64 x0.f0).wf = true) ∧ ((Lit.int .i64 x0.f1).wf = true) ∧ ((Lit.int .i64 x0.f2).wf = true) ∧ ((Lit.int .u64 x0.f3).wf = true) ∧ ((Lit.int .u64 x0.f4).wf = true) ∧ ((Lit.int .u64 x0.f5).wf = true)) (w1 : l1.length ≤ maxLen ∧ ∀ l1' ∈ l1, (Lit.int .u8 l1').wf = true) (w2 : l2.length ≤ maxLen ∧ ∀ l2' ∈ l2, l2'.length ≤ maxLen ∧ ∀ l2'' ∈ l2', (Lit.int .u8 l2'').wf = true) (w3 : (Lit.int .u64 a3).wf = true) : ∃ k, laws_FnChains.f k x0.f0 x0.f1 x0.f2 x0.f3 x0.f4 x0.f5 l1 l2 a3 = some true := by
  obtain ⟨a0, a1, a2, a3', a4, a5⟩ := x0
  show ∃ k, laws_FnChains.f k a0 a1 a2 a3' a4 a5 l1 l2 a3 = some true
  obtain ⟨n, rfl, hn⟩ := wf_u64 w3
  by_cases hs : (l1.length : Int) > 2147483647
  · exact ⟨1, by unfold laws_FnChains.f; rw [if_pos hs, laws_FnChains.j0, if_pos rfl]⟩
  obtain ⟨z, kz, hz, hfit⟩ := fits l2
  cases z with
  | false => exact ⟨kz + 1, by unfold laws_FnChains.f; rw [if_neg hs, lift (fun k => laws_zzFits2.mono l2 k) hz (show kz ≤ kz + 1 by omega), Option.bind_some, laws_FnChains.j0, if_pos (by decide)]⟩
  | true =>
  obtain ⟨f1, f2⟩ := hfit rfl
  obtain ⟨z, hz2, hsm⟩ := small l2 f1
  obtain ⟨K, hK⟩ : ∃ K, K = kz + l2.length + 2000000 := ⟨_, rfl⟩
  refine ⟨K + 1 + 1, ?_⟩
  unfold laws_FnChains.f
  rw [if_neg hs, lift (fun k => laws_zzFits2.mono l2 k) hz (show kz ≤ K + 1 + 1 by omega), Option.bind_some, laws_FnChains.j0, if_neg (by decide), lift (fun k => laws_logSmall.mono l2 k) hz2 (show l2.length + 1 ≤ K + 1 by omega), Option.bind_some]
  cases z with
  | false => rw [if_neg (by decide), laws_FnChains.j1, if_pos rfl]
  | true =>
  obtain ⟨g1, g2⟩ := hsm rfl
  rw [if_pos rfl]
  by_cases h64 : (l2.length : Int) > 64
  · rw [if_pos h64, laws_FnChains.j1, if_pos rfl]
  rw [if_neg h64, laws_FnChains.j1]
  by_cases h5 : (l1.length : Int) > 5000
  · rw [if_pos (decide_eq_true h5)]
  rw [if_neg (by rw [decide_eq_false h5]; decide)]
  unfold impl_ChainInner.f impl_ChainInnerRight.f impl_ChainBorder.f
  rw [if_pos (by omega), if_pos (by omega), if_pos (by omega), texts_eq l2 f1 f2 (show l2.length < K by omega), Option.bind_some, Option.bind_some, Option.bind_some,
    up_eq K a0 a1 a2 a3' a4 a5 n hn l2 0 l1 g2 (by omega) (by omega), upR_eq K a0 a1 a2 a3' a4 a5 n hn l2 0 l1 g2 (by omega) (by omega), upB_eq K a0 a1 a2 a3' a4 a5 l2 0 l1 (by omega) g2 (by omega) (by omega),
    chained_eq false a0 a1 a2 a3' a4 a5 n hn l2 l1 (by omega) g2 (by omega) K (by omega), chained_eq true a0 a1 a2 a3' a4 a5 n hn l2 l1 (by omega) g2 (by omega) K (by omega)]
  have e := chained_eq true a0 a1 a2 a3' a4 a5 18446744073709551615 (by omega) l2 l1 (by omega) g2 (by omega) K (by omega)
  rw [show ((18446744073709551615 : Nat) : Int) = 18446744073709551615 from rfl] at e
  rw [e, Option.bind_some, Option.bind_some, same_text, Option.bind_some, if_pos rfl, Option.bind_some, Option.bind_some, same_text, Option.bind_some, if_pos rfl, Option.bind_some, Option.bind_some, same_text, Option.bind_some]
end Go.Proofs.Ytbfhmcgiamnliaa.Pure
