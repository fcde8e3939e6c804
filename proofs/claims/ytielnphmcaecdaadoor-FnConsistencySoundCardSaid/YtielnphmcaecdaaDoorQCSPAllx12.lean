-- Written by a program of this session (wip/tools)
import Derived.Test.YtielnphmcaecdaaDoorQCSPAllx0
import Derived.Test.YtielnphmcaecdaaDoorQCSPAllx6
namespace Go.Proofs.YtielnphmcaecdaaDoor.PAll
open Go.RowKit Go.Proofs.YtielnphmcaecdaaDoorW.PrintWords Go.Proofs.YtielnphmcaecdaaDoorW.PrintLast Go.Proofs.YtielnphmcaecdaaDoorW.PrintMore
attribute [local go_sem] max2_int min2_int max_two min_two max_three min_three max_four min_four   -- for this text's walks alone
set_option linter.unusedVariables false
set_option linter.unusedSimpArgs false
def spec_pathIn.f : Nat → Int → Int → Int → Option ((List (S53)))
  | 0, _, _, _ => none
  | k + 1, a0, a1_0, a1_1 => if (IntKind.u64.wrap (a1_1 - a1_0)) = 1 then (some ([] : List (S53))) else ((spec_split.f k (IntKind.u64.wrap (a1_1 - a1_0))).bind fun t359 => (if a0 < (IntKind.u64.wrap (a1_0 + t359)) then ((spec_pathIn.f k a0 a1_0 (IntKind.u64.wrap (a1_0 + t359))).bind fun t360 => ((some (([(⟨IntKind.u64.wrap (a1_0 + t359), a1_1⟩ : S53)] : List (S53)) : List (S53))).bind fun y363 => (if t360.length + y363.length < 8796093022208 then (some (t360 ++ y363)) else (none)))) else ((spec_pathIn.f k a0 (IntKind.u64.wrap (a1_0 + t359)) a1_1).bind fun t369 => ((some (([(⟨a1_0, IntKind.u64.wrap (a1_0 + t359)⟩ : S53)] : List (S53)) : List (S53))).bind fun y372 => (if t369.length + y372.length < 8796093022208 then (some (t369 ++ y372)) else (none))))))
theorem spec_pathIn.mono_l : ∀ k, (∀ y0 y1 y2, LeO (spec_pathIn.f k y0 y1 y2) (spec_pathIn.f (k + 1) y0 y1 y2))
  | 0 => fun _ _ _ r h => by simp [spec_pathIn.f] at h
  | k + 1 => by
    have ih0 := spec_pathIn.mono_l k
    · intro y0 y1 y2
      unfold spec_pathIn.f
      repeat' first
      | (with_reducible exact ih0 _ _ _)
      | (with_reducible exact spec_split.mono _ _)
      | (with_reducible exact LeO.refl _)
      | (with_reducible exact LeO.none _)
      | (with_reducible refine LeO.ite ?_ ?_)
      | (with_reducible refine LeO.bind ?_ (fun _ => ?_))
      | exact ih0 _ _ _
      | exact spec_split.mono _ _
      | exact LeO.none _
      | refine LeO.ite ?_ ?_
      | refine LeO.bind ?_ (fun _ => ?_)
theorem spec_pathIn.mono : ∀ a0 a1 a2 k, LeO (spec_pathIn.f k a0 a1 a2) (spec_pathIn.f (k + 1) a0 a1 a2) := by
  intro a0 a1 a2 k
  have ih0 := spec_pathIn.mono_l k
  exact ih0 a0 a1 a2
def spec_PathParts.f (k : Nat) (a0 : Int) (a1 : Int) : Option ((List (S53))) := (spec_pathIn.f k a0 0 a1).bind fun t378 => (some t378)
theorem spec_PathParts.mono : ∀ a0 a1 k, LeO (spec_PathParts.f k a0 a1) (spec_PathParts.f (k + 1) a0 a1) := by
  intro a0 a1 k
  unfold spec_PathParts.f
  repeat' first
      | (with_reducible exact spec_pathIn.mono _ _ _ _)
      | (with_reducible exact LeO.refl _)
      | (with_reducible exact LeO.none _)
      | (with_reducible refine LeO.ite ?_ ?_)
      | (with_reducible refine LeO.bind ?_ (fun _ => ?_))
      | exact spec_pathIn.mono _ _ _ _
      | exact LeO.none _
      | refine LeO.ite ?_ ?_
      | refine LeO.bind ?_ (fun _ => ?_)
end Go.Proofs.YtielnphmcaecdaaDoor.PAll
