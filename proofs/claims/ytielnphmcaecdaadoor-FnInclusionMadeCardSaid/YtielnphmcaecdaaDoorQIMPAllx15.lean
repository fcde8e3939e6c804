-- Written by a program of this session (wip/tools)
import Derived.Test.YtielnphmcaecdaaDoorQIMPAllx0
import Derived.Test.YtielnphmcaecdaaDoorQIMPAllx11
import Derived.Test.YtielnphmcaecdaaDoorQIMPAllx13
import Derived.Test.YtielnphmcaecdaaDoorQIMPAllx14
namespace Go.Proofs.YtielnphmcaecdaaDoor.PAll
open Go.RowKit Go.Proofs.YtielnphmcaecdaaDoorW.PrintWords Go.Proofs.YtielnphmcaecdaaDoorW.PrintLast Go.Proofs.YtielnphmcaecdaaDoorW.PrintMore
attribute [local go_sem] max2_int min2_int max_two min_two max_three min_three max_four min_four   -- for this text's walks alone
set_option linter.unusedVariables false
set_option linter.unusedSimpArgs false
def spec_last.f (a0 : Int) : Option (Int × Int) := some (Go.bits .and .u64 a0 (IntKind.u64.wrap (a0 - 1)), a0)
mutual
def spec_ConsistencyProof.j0 : Nat → Int → Int → Bool → Option ((List (S49)) × Int × Int × Int × Int)
  | 0, _, _, _ => none
  | k + 1, x0, x1, x15 => if x15 = true then (some (([] : List (S49)), 0, 0, 0, 0)) else ((spec_last.f x0).bind fun bt410 => ((spec_ProofParts.f k x0 x1).bind fun t412 => (if bt410.1 > 0 then ((spec_NodeOf.f k bt410.1 bt410.2).bind fun bt416 => (if 1 ≤ (t412.length : Int) then (spec_ConsistencyProof.j1 k x1 (t412.drop (1 : Int).toNat) (([(⟨bt416.1, bt416.2⟩ : S49)] : List (S49))) bt410.1 bt410.2) else (none))) else (spec_ConsistencyProof.j1 k x1 t412 ([] : List (S49)) bt410.1 bt410.2))))
def spec_ConsistencyProof.j1 : Nat → Int → List (S53) → List (S49) → Int → Int → Option ((List (S49)) × Int × Int × Int × Int)
  | 0, _, _, _, _, _ => none
  | k + 1, x1, x6, x7, x416000, x416001 => (spec_proofOf.f k x416000 x416001 x6).bind fun bt424 => (if bt424.2.2.2.2 > 0 then (if x7.length + bt424.1.length < 8796093022208 then ((spec_NodeOf.f k x416000 x416001).bind fun bt435 => ((spec_fork.f k bt435.1 bt435.2 x1).bind fun bt437 => (some ((x7 ++ bt424.1), bt437.1, bt437.2, wrap64 (bt424.2.2.2.1 + (x7.length : Int)), wrap64 (bt424.2.2.2.2 + (x7.length : Int)))))) else (none)) else (if x7.length + bt424.1.length < 8796093022208 then ((spec_NodeOf.f k x416000 x416001).bind fun bt442 => ((spec_fork.f k bt442.1 bt442.2 x1).bind fun bt444 => (some ((x7 ++ bt424.1), bt444.1, bt444.2, bt424.2.2.2.1, bt424.2.2.2.2)))) else (none)))
end
def spec_ConsistencyProof.f (k : Nat) (a0 : Int) (a1 : Int) : Option ((List (S49)) × Int × Int × Int × Int) := if a0 = 0 then (spec_ConsistencyProof.j0 k a0 a1 true) else (spec_ConsistencyProof.j0 k a0 a1 (a0 == a1))
theorem spec_ConsistencyProof.mono_l : ∀ k, (∀ y0 y1 y2, LeO (spec_ConsistencyProof.j0 k y0 y1 y2) (spec_ConsistencyProof.j0 (k + 1) y0 y1 y2)) ∧ (∀ y0 y1 y2 y3 y4, LeO (spec_ConsistencyProof.j1 k y0 y1 y2 y3 y4) (spec_ConsistencyProof.j1 (k + 1) y0 y1 y2 y3 y4))
  | 0 => ⟨fun _ _ _ r h => by simp [spec_ConsistencyProof.j0] at h, fun _ _ _ _ _ r h => by simp [spec_ConsistencyProof.j1] at h⟩
  | k + 1 => by
    obtain ⟨ih0, ih1⟩ := spec_ConsistencyProof.mono_l k
    refine ⟨?_, ?_⟩
    · intro y0 y1 y2
      unfold spec_ConsistencyProof.j0
      repeat' first
      | (with_reducible exact ih0 _ _ _)
      | (with_reducible exact ih1 _ _ _ _ _)
      | (with_reducible exact spec_NodeOf.mono _ _ _)
      | (with_reducible exact spec_ProofParts.mono _ _ _)
      | (with_reducible exact spec_fork.mono _ _ _ _)
      | (with_reducible exact spec_proofOf.mono _ _ _ _)
      | (with_reducible exact LeO.refl _)
      | (with_reducible exact LeO.none _)
      | (with_reducible refine LeO.ite ?_ ?_)
      | (with_reducible refine LeO.bind ?_ (fun _ => ?_))
      | exact ih0 _ _ _
      | exact ih1 _ _ _ _ _
      | exact spec_NodeOf.mono _ _ _
      | exact spec_ProofParts.mono _ _ _
      | exact spec_fork.mono _ _ _ _
      | exact spec_proofOf.mono _ _ _ _
      | exact LeO.none _
      | refine LeO.ite ?_ ?_
      | refine LeO.bind ?_ (fun _ => ?_)
    · intro y0 y1 y2 y3 y4
      unfold spec_ConsistencyProof.j1
      repeat' first
      | (with_reducible exact ih0 _ _ _)
      | (with_reducible exact ih1 _ _ _ _ _)
      | (with_reducible exact spec_NodeOf.mono _ _ _)
      | (with_reducible exact spec_ProofParts.mono _ _ _)
      | (with_reducible exact spec_fork.mono _ _ _ _)
      | (with_reducible exact spec_proofOf.mono _ _ _ _)
      | (with_reducible exact LeO.refl _)
      | (with_reducible exact LeO.none _)
      | (with_reducible refine LeO.ite ?_ ?_)
      | (with_reducible refine LeO.bind ?_ (fun _ => ?_))
      | exact ih0 _ _ _
      | exact ih1 _ _ _ _ _
      | exact spec_NodeOf.mono _ _ _
      | exact spec_ProofParts.mono _ _ _
      | exact spec_fork.mono _ _ _ _
      | exact spec_proofOf.mono _ _ _ _
      | exact LeO.none _
      | refine LeO.ite ?_ ?_
      | refine LeO.bind ?_ (fun _ => ?_)
theorem spec_ConsistencyProof.mono : ∀ a0 a1 k, LeO (spec_ConsistencyProof.f k a0 a1) (spec_ConsistencyProof.f (k + 1) a0 a1) := by
  intro a0 a1 k
  obtain ⟨ih0, ih1⟩ := spec_ConsistencyProof.mono_l k
  unfold spec_ConsistencyProof.f
  repeat' first
      | (with_reducible exact ih0 _ _ _)
      | (with_reducible exact ih1 _ _ _ _ _)
      | (with_reducible exact spec_NodeOf.mono _ _ _)
      | (with_reducible exact spec_ProofParts.mono _ _ _)
      | (with_reducible exact spec_fork.mono _ _ _ _)
      | (with_reducible exact spec_proofOf.mono _ _ _ _)
      | (with_reducible exact LeO.refl _)
      | (with_reducible exact LeO.none _)
      | (with_reducible refine LeO.ite ?_ ?_)
      | (with_reducible refine LeO.bind ?_ (fun _ => ?_))
      | exact ih0 _ _ _
      | exact ih1 _ _ _ _ _
      | exact spec_NodeOf.mono _ _ _
      | exact spec_ProofParts.mono _ _ _
      | exact spec_fork.mono _ _ _ _
      | exact spec_proofOf.mono _ _ _ _
      | exact LeO.none _
      | refine LeO.ite ?_ ?_
      | refine LeO.bind ?_ (fun _ => ?_)
end Go.Proofs.YtielnphmcaecdaaDoor.PAll
