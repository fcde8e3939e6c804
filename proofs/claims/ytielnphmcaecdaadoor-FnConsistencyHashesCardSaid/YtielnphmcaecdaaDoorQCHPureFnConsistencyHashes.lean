-- Written by a program of this session (wip/tools)
import Derived.Test.YtielnphmcaecdaaDoorQCHPAllx21
import Derived.Test.YtielnphmcaecdaaDoorQCHConsProof
import Derived.Test.YtielnphmcaecdaaDoorQCHFoldFns
namespace Go.Proofs.YtielnphmcaecdaaDoor.Pure
open Go.RowKit Go.Proofs.YtielnphmcaecdaaDoor.Num Go.Proofs.YtielnphmcaecdaaDoor.Mth Go.Proofs.YtielnphmcaecdaaDoor.Hsh Go.Proofs.YtielnphmcaecdaaDoor.PAll Go.Proofs.YtielnphmcaecdaaDoorW.PrintWords Go.Proofs.YtielnphmcaecdaaDoorW.PrintLast
set_option linter.unusedVariables false
theorem mem_of_getD {l : List (List Int)} {m : Nat} (h : ∀ j, j < l.length → (l.getD j []).length ≤ m) : ∀ x ∈ l, x.length ≤ m := by
  intro x hx
  obtain ⟨j, hj, rfl⟩ := List.mem_iff_getElem.1 hx
  have := h j hj
  rwa [List.getD_eq_getElem?_getD, List.getElem?_eq_getElem hj] at this
theorem FnConsistencyHashes (x0 : S24) (a1 : Int) (a2 : Int) (l3 : List (List (Int))) (w0 : ((Lit.int .i64 x0.f0).wf = true) ∧ ((Lit.int .i64 x0.f1).wf = true) ∧ ((Lit.int .i64 x0.f2).wf = true) ∧ ((Lit.int .u64 x0.f3).wf = true) ∧ ((Lit.int .u64 x0.f4).wf = true) ∧ ((Lit.int .u64 x0.f5).wf = true)) (w1 : (Lit.int .u64 a1).wf = true) (w2 : (Lit.int .u64 a2).wf = true) (w3 : l3.length ≤ maxLen ∧ ∀ l3' ∈ l3, l3'.length ≤ maxLen ∧ ∀ l3'' ∈ l3', (Lit.int .u8 l3'').wf = true) : ∃ k, laws_FnConsistencyHashes.f k x0.f0 x0.f1 x0.f2 x0.f3 x0.f4 x0.f5 a1 a2 l3 = some true := by
  obtain ⟨a0, b1, b2, a3, a4, a5⟩ := x0
  show ∃ k, laws_FnConsistencyHashes.f k a0 b1 b2 a3 a4 a5 a1 a2 l3 = some true
  obtain ⟨s, rfl, hs⟩ := wf_u64 w1
  obtain ⟨n, rfl, hn⟩ := wf_u64 w2
  obtain ⟨z, kz, hz, hfit⟩ := fits l3
  cases z with
  | false => exact ⟨kz, by unfold laws_FnConsistencyHashes.f; rw [hz, Option.bind_some, if_neg (by decide)]⟩
  | true =>
  obtain ⟨f1, f2⟩ := hfit rfl
  obtain ⟨z, hz2, hsm⟩ := small l3 f1
  obtain ⟨K, hK⟩ : ∃ K, K = kz + n + l3.length + 4000000000 := ⟨_, rfl⟩
  refine ⟨K + 1, ?_⟩
  unfold laws_FnConsistencyHashes.f
  rw [lift (fun k => laws_zzFits2.mono l3 k) hz (show kz ≤ K + 1 by omega), Option.bind_some, if_pos rfl, lift (fun k => laws_logSmall.mono l3 k) hz2 (show l3.length + 1 ≤ K + 1 by omega), Option.bind_some]
  cases z with
  | false => rw [if_neg (by decide)]
  | true =>
  obtain ⟨g1, g2⟩ := hsm rfl
  have hm := mem_of_getD g2
  rw [if_pos rfl, copy_eq l3 f1 f2 (by omega), Option.bind_some]
  by_cases h : n < s
  · have e : impl_ConsistencyHashes.f (K + 1) a0 b1 b2 a3 a4 a5 (s : Int) (n : Int) l3 = some ([], false) := by
      unfold impl_ConsistencyHashes.f
      rw [if_pos (by omega)]
    rw [e, Option.bind_some, if_pos (by omega), laws_FnConsistencyHashes.j0, if_pos rfl]; rfl
  · obtain ⟨z1, z2, hcp⟩ := spec_ConsistencyProof.eq s n (by omega) hn (K + 1) (by omega)
    obtain ⟨z3, z4, hcp2⟩ := spec_ConsistencyProof.eq s n (by omega) hn K (by omega)
    obtain ⟨p1, p2, p3⟩ := conPlan_len s n (by omega) hn
    have e : impl_ConsistencyHashes.f (K + 1) a0 b1 b2 a3 a4 a5 (s : Int) (n : Int) l3 = hashF (K + 1) a0 b1 b2 a3 a4 a5 (conPlan s n).1.length (conPlan s n).2.1 (conPlan s n).2.2 l3 := by
      unfold impl_ConsistencyHashes.f
      rw [if_neg (by omega), if_pos (by omega), Int.toNat_natCast, Int.toNat_natCast]
    by_cases hlen : l3.length = (conPlan s n).1.length
    · rw [e, hashF_yes a0 b1 b2 a3 a4 a5 _ _ _ 5000 l3 hlen (by omega) (by omega) hm (by omega), Option.bind_some, if_neg (by omega), hcp, Option.bind_some]
      dsimp only
      rw [List.length_map, ← hlen, bne_self_eq_false, laws_FnConsistencyHashes.j0, if_neg (by decide), if_pos rfl, hcp2, Option.bind_some]
      dsimp only
      rw [spec_Folded.eq a0 b1 b2 a3 a4 a5 _ z3 z4 _ _ 5000 l3 p2 (by omega) (by omega) (by omega) hm (by omega), Option.bind_some]
      unfold spec_Same.f
      rw [sameL_self]; rfl
    · rw [e, hashF_no a0 b1 b2 a3 a4 a5 _ _ _ l3 hlen (by omega) hm (by omega), Option.bind_some, if_neg (by omega), hcp, Option.bind_some]
      dsimp only
      rw [List.length_map, show ((l3.length : Int) != ((conPlan s n).1.length : Int)) = true from bne_iff_ne.mpr (by omega), laws_FnConsistencyHashes.j0, if_pos rfl]; rfl
end Go.Proofs.YtielnphmcaecdaaDoor.Pure
