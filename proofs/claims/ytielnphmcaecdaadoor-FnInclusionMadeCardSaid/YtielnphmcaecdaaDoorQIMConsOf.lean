-- Written by a program of this session (wip/tools)
import Derived.Test.YtielnphmcaecdaaDoorQIMPAllx14
import Derived.Test.YtielnphmcaecdaaDoorQIMPAllx13
import Derived.Test.YtielnphmcaecdaaDoorQIMPaths
import Derived.Test.YtielnphmcaecdaaDoorQIMNodeLists
import Derived.Test.YtielnphmcaecdaaDoorQIMAudit
import Derived.Test.YtielnphmcaecdaaDoorQIMExtCons
namespace Go.Proofs.YtielnphmcaecdaaDoor.PAll
open Go.RowKit Go.Proofs.YtielnphmcaecdaaDoor.Num Go.Proofs.YtielnphmcaecdaaDoor.Mth Go.Proofs.YtielnphmcaecdaaDoorW.PrintWords Go.Proofs.YtielnphmcaecdaaDoorW.PrintLast
set_option linter.unusedVariables false
theorem blk_le (i l : Nat) {s m : Nat} (h : s ≤ m) : (i / 2 ^ s + 1) * 2 ^ (l + s) ≤ (i / 2 ^ m + 1) * 2 ^ (l + m) := by
  have e : i / 2 ^ m = i / 2 ^ s / 2 ^ (m - s) := by rw [Nat.div_div_eq_div_mul, ← Nat.pow_add, show s + (m - s) = m by omega]
  have h1 : i / 2 ^ s < (i / 2 ^ s / 2 ^ (m - s) + 1) * 2 ^ (m - s) := (Nat.div_lt_iff_lt_mul (Nat.two_pow_pos _)).1 (Nat.lt_succ_self _)
  rw [e]
  calc (i / 2 ^ s + 1) * 2 ^ (l + s) ≤ ((i / 2 ^ s / 2 ^ (m - s) + 1) * 2 ^ (m - s)) * 2 ^ (l + s) := Nat.mul_le_mul_right _ h1
    _ = (i / 2 ^ s / 2 ^ (m - s) + 1) * 2 ^ (l + m) := by rw [Nat.mul_assoc, ← Nat.pow_add, show m - s + (l + s) = l + m by omega]
def nParts (c l n : Nat) : List (Nat × Nat) := (ndS c l n).map lvs ++ (if ndE c l n < n then [(ndE c l n, n)] else []) ++ (Nds 0 0 (ndB c l n)).reverse.map lvs
end Go.Proofs.YtielnphmcaecdaaDoor.PAll
