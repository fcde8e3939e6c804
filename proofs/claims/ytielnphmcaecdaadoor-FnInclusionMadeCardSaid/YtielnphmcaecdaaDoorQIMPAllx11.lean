-- Written by a program of this session (wip/tools)
import Derived.Test.YtielnphmcaecdaaDoorQIMPAllx0
import Derived.Test.YtielnphmcaecdaaDoorQIMPAllx6
namespace Go.Proofs.YtielnphmcaecdaaDoor.PAll
open Go.RowKit Go.Proofs.YtielnphmcaecdaaDoorW.PrintWords Go.Proofs.YtielnphmcaecdaaDoorW.PrintLast Go.Proofs.YtielnphmcaecdaaDoorW.PrintMore
attribute [local go_sem] max2_int min2_int max_two min_two max_three min_three max_four min_four   -- for this text's walks alone
set_option linter.unusedVariables false
set_option linter.unusedSimpArgs false
def spec_proofIn.f : Nat → Int → Int → Int → Bool → Option ((List (S53)))
  | 0, _, _, _, _ => none
  | k + 1, a0, a1_0, a1_1, a2 => if a0 = a1_1 then (if a2 = true then (some ([] : List (S53))) else (some (([(⟨a1_0, a1_1⟩ : S53)] : List (S53))))) else ((spec_split.f k (IntKind.u64.wrap (a1_1 - a1_0))).bind fun t336 => (if a0 ≤ (IntKind.u64.wrap (a1_0 + t336)) then ((spec_proofIn.f k a0 a1_0 (IntKind.u64.wrap (a1_0 + t336)) a2).bind fun t337 => ((some (([(⟨IntKind.u64.wrap (a1_0 + t336), a1_1⟩ : S53)] : List (S53)) : List (S53))).bind fun y340 => (if t337.length + y340.length < 8796093022208 then (some (t337 ++ y340)) else (none)))) else ((spec_proofIn.f k a0 (IntKind.u64.wrap (a1_0 + t336)) a1_1 false).bind fun t346 => ((some (([(⟨a1_0, IntKind.u64.wrap (a1_0 + t336)⟩ : S53)] : List (S53)) : List (S53))).bind fun y349 => (if t346.length + y349.length < 8796093022208 then (some (t346 ++ y349)) else (none))))))
theorem spec_proofIn.mono_l : ∀ k, (∀ y0 y1 y2 y3, LeO (spec_proofIn.f k y0 y1 y2 y3) (spec_proofIn.f (k + 1) y0 y1 y2 y3))
  | 0 => fun _ _ _ _ r h => by simp [spec_proofIn.f] at h
  | k + 1 => by
    have ih0 := spec_proofIn.mono_l k
    · intro y0 y1 y2 y3
      unfold spec_proofIn.f
      repeat' first
      | (with_reducible exact ih0 _ _ _ _)
      | (with_reducible exact spec_split.mono _ _)
      | (with_reducible exact LeO.refl _)
      | (with_reducible exact LeO.none _)
      | (with_reducible refine LeO.ite ?_ ?_)
      | (with_reducible refine LeO.bind ?_ (fun _ => ?_))
      | exact ih0 _ _ _ _
      | exact spec_split.mono _ _
      | exact LeO.none _
      | refine LeO.ite ?_ ?_
      | refine LeO.bind ?_ (fun _ => ?_)
theorem spec_proofIn.mono : ∀ a0 a1 a2 a3 k, LeO (spec_proofIn.f k a0 a1 a2 a3) (spec_proofIn.f (k + 1) a0 a1 a2 a3) := by
  intro a0 a1 a2 a3 k
  have ih0 := spec_proofIn.mono_l k
  exact ih0 a0 a1 a2 a3
def spec_ProofParts.f (k : Nat) (a0 : Int) (a1 : Int) : Option ((List (S53))) := (spec_proofIn.f k a0 0 a1 true).bind fun t355 => (some t355)
theorem spec_ProofParts.mono : ∀ a0 a1 k, LeO (spec_ProofParts.f k a0 a1) (spec_ProofParts.f (k + 1) a0 a1) := by
  intro a0 a1 k
  unfold spec_ProofParts.f
  repeat' first
      | (with_reducible exact spec_proofIn.mono _ _ _ _ _)
      | (with_reducible exact LeO.refl _)
      | (with_reducible exact LeO.none _)
      | (with_reducible refine LeO.ite ?_ ?_)
      | (with_reducible refine LeO.bind ?_ (fun _ => ?_))
      | exact spec_proofIn.mono _ _ _ _ _
      | exact LeO.none _
      | refine LeO.ite ?_ ?_
      | refine LeO.bind ?_ (fun _ => ?_)
end Go.Proofs.YtielnphmcaecdaaDoor.PAll
