-- Written by a program of this session (wip/tools)
import Derived.Test.YtielnphmcaecdaaDoorQIMPAllx0
namespace Go.Proofs.YtielnphmcaecdaaDoor.PAll
open Go.RowKit Go.Proofs.YtielnphmcaecdaaDoorW.PrintWords Go.Proofs.YtielnphmcaecdaaDoorW.PrintLast Go.Proofs.YtielnphmcaecdaaDoorW.PrintMore
attribute [local go_sem] max2_int min2_int max_two min_two max_three min_three max_four min_four   -- for this text's walks alone
set_option linter.unusedVariables false
set_option linter.unusedSimpArgs false
def spec_NodeOf.l0 : Nat → Int → Int → Int → Int → Option (Int × Int)
  | 0, _, _, _, _ => none
  | k + 1, x382000, x382001, x384000, x384001 => if 0 ≤ x384000 then (if (shr .u64 (IntKind.u64.wrap (x382001 - x382000)) x384000) > 1 then (spec_NodeOf.l0 k x382000 x382001 (IntKind.u64.wrap (x384000 + 1)) x384001) else (some (x384000, shr .u64 x382000 x384000))) else (none)
def spec_NodeOf.f (k : Nat) (a0_0 : Int) (a0_1 : Int) : Option (Int × Int) := spec_NodeOf.l0 k a0_0 a0_1 0 0
theorem spec_NodeOf.mono_l : ∀ k, (∀ y0 y1 y2 y3, LeO (spec_NodeOf.l0 k y0 y1 y2 y3) (spec_NodeOf.l0 (k + 1) y0 y1 y2 y3))
  | 0 => fun _ _ _ _ r h => by simp [spec_NodeOf.l0] at h
  | k + 1 => by
    have ih0 := spec_NodeOf.mono_l k
    · intro y0 y1 y2 y3
      unfold spec_NodeOf.l0
      repeat' first
      | (with_reducible exact ih0 _ _ _ _)
      | (with_reducible exact LeO.refl _)
      | (with_reducible exact LeO.none _)
      | (with_reducible refine LeO.ite ?_ ?_)
      | (with_reducible refine LeO.bind ?_ (fun _ => ?_))
      | exact ih0 _ _ _ _
      | exact LeO.none _
      | refine LeO.ite ?_ ?_
      | refine LeO.bind ?_ (fun _ => ?_)
theorem spec_NodeOf.mono : ∀ a0 a1 k, LeO (spec_NodeOf.f k a0 a1) (spec_NodeOf.f (k + 1) a0 a1) := by
  intro a0 a1 k
  have ih0 := spec_NodeOf.mono_l k
  unfold spec_NodeOf.f
  repeat' first
      | (with_reducible exact ih0 _ _ _ _)
      | (with_reducible exact LeO.refl _)
      | (with_reducible exact LeO.none _)
      | (with_reducible refine LeO.ite ?_ ?_)
      | (with_reducible refine LeO.bind ?_ (fun _ => ?_))
      | exact ih0 _ _ _ _
      | exact LeO.none _
      | refine LeO.ite ?_ ?_
      | refine LeO.bind ?_ (fun _ => ?_)
def spec_fork.l0 : Nat → Int → Int → Int → Option (Int × Int)
  | 0, _, _, _ => none
  | k + 1, x1, x385000, x385001 => if 0 ≤ x385000 then (if (x385001 / 2) = ((shr .u64 x1 x385000) / 2) then (some (x385000, shr .u64 x1 x385000)) else (spec_fork.l0 k x1 (IntKind.u64.wrap (x385000 + 1)) (x385001 / 2))) else (none)
def spec_fork.f (k : Nat) (a0_0 : Int) (a0_1 : Int) (a1 : Int) : Option (Int × Int) := spec_fork.l0 k a1 a0_0 a0_1
theorem spec_fork.mono_l : ∀ k, (∀ y0 y1 y2, LeO (spec_fork.l0 k y0 y1 y2) (spec_fork.l0 (k + 1) y0 y1 y2))
  | 0 => fun _ _ _ r h => by simp [spec_fork.l0] at h
  | k + 1 => by
    have ih0 := spec_fork.mono_l k
    · intro y0 y1 y2
      unfold spec_fork.l0
      repeat' first
      | (with_reducible exact ih0 _ _ _)
      | (with_reducible exact LeO.refl _)
      | (with_reducible exact LeO.none _)
      | (with_reducible refine LeO.ite ?_ ?_)
      | (with_reducible refine LeO.bind ?_ (fun _ => ?_))
      | exact ih0 _ _ _
      | exact LeO.none _
      | refine LeO.ite ?_ ?_
      | refine LeO.bind ?_ (fun _ => ?_)
theorem spec_fork.mono : ∀ a0 a1 a2 k, LeO (spec_fork.f k a0 a1 a2) (spec_fork.f (k + 1) a0 a1 a2) := by
  intro a0 a1 a2 k
  have ih0 := spec_fork.mono_l k
  unfold spec_fork.f
  repeat' first
      | (with_reducible exact ih0 _ _ _)
      | (with_reducible exact LeO.refl _)
      | (with_reducible exact LeO.none _)
      | (with_reducible refine LeO.ite ?_ ?_)
      | (with_reducible refine LeO.bind ?_ (fun _ => ?_))
      | exact ih0 _ _ _
      | exact LeO.none _
      | refine LeO.ite ?_ ?_
      | refine LeO.bind ?_ (fun _ => ?_)
end Go.Proofs.YtielnphmcaecdaaDoor.PAll
