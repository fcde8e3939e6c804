-- Written by a program of this session (wip/tools)
import Derived.Test.YtielnphmcaecdaaDoorQIMTreeMem
import Derived.Test.YtielnphmcaecdaaDoorQIMPAllx4
import Derived.Test.YtielnphmcaecdaaDoorQIMMath
import Derived.Outline
import Derived.Deep.QuietTactic
import Derived.BigQuiet
import Derived.Deep.RegionWith
import Derived.Deep.RegionLaw
import Derived.IntWalk
namespace Go.Proofs.YtielnphmcaecdaaDoor.PAll
open Go.RowKit Go.Proofs.YtielnphmcaecdaaDoor.Mth Go.Proofs.YtielnphmcaecdaaDoorW.PrintWords Go.Proofs.YtielnphmcaecdaaDoorW.PrintLast Go.Proofs.YtielnphmcaecdaaDoorW.PrintMore
set_option linter.unusedVariables false
def foldR_ (F : List Int → List Int → Option (List Int)) : List (List Int) → Option (List Int)
  | [] => none
  | [x] => some x
  | x :: y :: l => (foldR_ F (y :: l)).bind fun t => F x t
end Go.Proofs.YtielnphmcaecdaaDoor.PAll
