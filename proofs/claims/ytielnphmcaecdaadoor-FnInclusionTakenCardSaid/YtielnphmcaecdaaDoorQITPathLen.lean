-- Written by a program of this session (wip/tools)
import Derived.Test.YtielnphmcaecdaaDoorQITPAllx0
import Derived.Test.YtielnphmcaecdaaDoorQITPAllx7
import Derived.Test.YtielnphmcaecdaaDoorQITPAllx6
import Derived.Test.YtielnphmcaecdaaDoorQITBits
import Derived.Test.YtielnphmcaecdaaDoorQITExtCons
import Derived.Test.YtielnphmcaecdaaDoorQITPAllx4
import Derived.Test.YtielnphmcaecdaaDoorQITCap
import Derived.Deep.RegionHeldLaw
import Derived.Test.YtielnphmcaecdaaDoorQITPAllx2
import Derived.Test.YtielnphmcaecdaaDoorQITPAllx5
import Derived.Test.YtielnphmcaecdaaDoorQITExtVerB
import Derived.Test.YtielnphmcaecdaaDoorQITMath
namespace Go.Proofs.YtielnphmcaecdaaDoor.PAll
open Go.RowKit Go.Proofs.YtielnphmcaecdaaDoorW.PrintWords Go.Proofs.YtielnphmcaecdaaDoorW.PrintLast Go.Proofs.YtielnphmcaecdaaDoorW.PrintMore
attribute [local go_sem] max2_int min2_int max_two min_two max_three min_three max_four min_four   -- for this text's walks alone
set_option linter.unusedVariables false
set_option linter.unusedSimpArgs false
def spec_NodeOf.l0 : Nat → Int → Int → Int → Int → Option (Int × Int)
  | 0, _, _, _, _ => none
  | k + 1, x382000, x382001, x384000, x384001 => if 0 ≤ x384000 then (if (shr .u64 (IntKind.u64.wrap (x382001 - x382000)) x384000) > 1 then (spec_NodeOf.l0 k x382000 x382001 (IntKind.u64.wrap (x384000 + 1)) x384001) else (some (x384000, shr .u64 x382000 x384000))) else (none)
def spec_NodeOf.f (k : Nat) (a0_0 : Int) (a0_1 : Int) : Option (Int × Int) := spec_NodeOf.l0 k a0_0 a0_1 0 0
theorem spec_NodeOf.mono_l : ∀ k, (∀ y0 y1 y2 y3, LeO (spec_NodeOf.l0 k y0 y1 y2 y3) (spec_NodeOf.l0 (k + 1) y0 y1 y2 y3))
  | 0 => fun _ _ _ _ r h => by simp [spec_NodeOf.l0] at h
  | k + 1 => by
    have ih0 := spec_NodeOf.mono_l k
    · intro y0 y1 y2 y3
      unfold spec_NodeOf.l0
      repeat' first
      | (with_reducible exact ih0 _ _ _ _)
      | (with_reducible exact LeO.refl _)
      | (with_reducible exact LeO.none _)
      | (with_reducible refine LeO.ite ?_ ?_)
      | (with_reducible refine LeO.bind ?_ (fun _ => ?_))
      | exact ih0 _ _ _ _
      | exact LeO.none _
      | refine LeO.ite ?_ ?_
      | refine LeO.bind ?_ (fun _ => ?_)
theorem spec_NodeOf.mono : ∀ a0 a1 k, LeO (spec_NodeOf.f k a0 a1) (spec_NodeOf.f (k + 1) a0 a1) := by
  intro a0 a1 k
  have ih0 := spec_NodeOf.mono_l k
  unfold spec_NodeOf.f
  repeat' first
      | (with_reducible exact ih0 _ _ _ _)
      | (with_reducible exact LeO.refl _)
      | (with_reducible exact LeO.none _)
      | (with_reducible refine LeO.ite ?_ ?_)
      | (with_reducible refine LeO.bind ?_ (fun _ => ?_))
      | exact ih0 _ _ _ _
      | exact LeO.none _
      | refine LeO.ite ?_ ?_
      | refine LeO.bind ?_ (fun _ => ?_)
def spec_fork.l0 : Nat → Int → Int → Int → Option (Int × Int)
  | 0, _, _, _ => none
  | k + 1, x1, x385000, x385001 => if 0 ≤ x385000 then (if (x385001 / 2) = ((shr .u64 x1 x385000) / 2) then (some (x385000, shr .u64 x1 x385000)) else (spec_fork.l0 k x1 (IntKind.u64.wrap (x385000 + 1)) (x385001 / 2))) else (none)
def spec_fork.f (k : Nat) (a0_0 : Int) (a0_1 : Int) (a1 : Int) : Option (Int × Int) := spec_fork.l0 k a1 a0_0 a0_1
theorem spec_fork.mono_l : ∀ k, (∀ y0 y1 y2, LeO (spec_fork.l0 k y0 y1 y2) (spec_fork.l0 (k + 1) y0 y1 y2))
  | 0 => fun _ _ _ r h => by simp [spec_fork.l0] at h
  | k + 1 => by
    have ih0 := spec_fork.mono_l k
    · intro y0 y1 y2
      unfold spec_fork.l0
      repeat' first
      | (with_reducible exact ih0 _ _ _)
      | (with_reducible exact LeO.refl _)
      | (with_reducible exact LeO.none _)
      | (with_reducible refine LeO.ite ?_ ?_)
      | (with_reducible refine LeO.bind ?_ (fun _ => ?_))
      | exact ih0 _ _ _
      | exact LeO.none _
      | refine LeO.ite ?_ ?_
      | refine LeO.bind ?_ (fun _ => ?_)
theorem spec_fork.mono : ∀ a0 a1 a2 k, LeO (spec_fork.f k a0 a1 a2) (spec_fork.f (k + 1) a0 a1 a2) := by
  intro a0 a1 a2 k
  have ih0 := spec_fork.mono_l k
  unfold spec_fork.f
  repeat' first
      | (with_reducible exact ih0 _ _ _)
      | (with_reducible exact LeO.refl _)
      | (with_reducible exact LeO.none _)
      | (with_reducible refine LeO.ite ?_ ?_)
      | (with_reducible refine LeO.bind ?_ (fun _ => ?_))
      | exact ih0 _ _ _
      | exact LeO.none _
      | refine LeO.ite ?_ ?_
      | refine LeO.bind ?_ (fun _ => ?_)
end Go.Proofs.YtielnphmcaecdaaDoor.PAll
namespace Go.Proofs.YtielnphmcaecdaaDoor.PAll
open Go.RowKit Go.Proofs.YtielnphmcaecdaaDoorW.PrintWords Go.Proofs.YtielnphmcaecdaaDoorW.PrintLast Go.Proofs.YtielnphmcaecdaaDoorW.PrintMore
attribute [local go_sem] max2_int min2_int max_two min_two max_three min_three max_four min_four   -- for this text's walks alone
set_option linter.unusedVariables false
set_option linter.unusedSimpArgs false
mutual
def spec_proofOf.l0 : Nat → List (S53) → Int → Int → Int → Int → List (S49) → Int → Int → Int → Int → Option ((List (S49)) × Int × Int × Int × Int)
  | 0, _, _, _, _, _, _, _, _, _, _ => none
  | k + 1, x10, x11, x12, x387000, x387001, x389000, x389001, x389002, x389003, x389004 => if x12 < x11 then (if 0 ≤ x12 then (if x12 < (x10.length : Int) then (if ((rd_T53 x10 x12).f1) = x387000 then ((spec_NodeOf.f k ((rd_T53 x10 x12).f0) ((rd_T53 x10 x12).f1)).bind fun bt391 => (if x389000.length < 8796093022208 then (spec_proofOf.l0 k x10 x11 (wrap64 (x12 + 1)) ((rd_T53 x10 x12).f0) x387001 (x389000 ++ [(⟨bt391.1, bt391.2⟩ : S49)]) x389001 x389002 x389003 x389004) else (none))) else (if (IntKind.u64.wrap (((rd_T53 x10 x12).f1) - ((rd_T53 x10 x12).f0))) = (IntKind.u64.wrap (x387001 - x387000)) then ((spec_NodeOf.f k ((rd_T53 x10 x12).f0) ((rd_T53 x10 x12).f1)).bind fun bt396 => (if x389000.length < 8796093022208 then (spec_proofOf.l0 k x10 x11 (wrap64 (x12 + 1)) x387000 ((rd_T53 x10 x12).f1) (x389000 ++ [(⟨bt396.1, bt396.2⟩ : S49)]) x389001 x389002 x389003 x389004) else (none))) else ((spec_Nodes.f k ((rd_T53 x10 x12).f0) ((rd_T53 x10 x12).f1)).bind fun t401 => (spec_proofOf.l1 k t401 (wrap64 ((t401.length : Int) - 1)) x10 x11 x12 x387000 x387001 x389000 x389001 x389002 (x389000.length : Int) (wrap64 ((x389000.length : Int) + (t401.length : Int))) ((rd_T53 x10 x12).f0) ((rd_T53 x10 x12).f1))))) else (none)) else (none)) else (some (x389000, x389001, x389002, x389003, x389004))
def spec_proofOf.l1 : Nat → List (S49) → Int → List (S53) → Int → Int → Int → Int → List (S49) → Int → Int → Int → Int → Int → Int → Option ((List (S49)) × Int × Int × Int × Int)
  | 0, _, _, _, _, _, _, _, _, _, _, _, _, _, _ => none
  | k + 1, x8, x9, x10, x11, x12, x387000, x387001, x389000, x389001, x389002, x389003, x389004, x391000, x391001 => if x9 ≥ 0 then (if 0 ≤ x9 then (if x9 < (x8.length : Int) then (if x389000.length < 8796093022208 then (spec_proofOf.l1 k x8 (wrap64 (x9 - 1)) x10 x11 x12 x387000 x387001 (x389000 ++ [(⟨(rd_T49 x8 x9).f0, (rd_T49 x8 x9).f1⟩ : S49)]) x389001 x389002 x389003 x389004 x391000 x391001) else (none)) else (none)) else (none)) else (spec_proofOf.l0 k x10 x11 (wrap64 (x12 + 1)) x387000 x391001 x389000 x389001 x389002 x389003 x389004)
end
def spec_proofOf.f (k : Nat) (a0_0 : Int) (a0_1 : Int) (l1 : List (S53)) : Option ((List (S49)) × Int × Int × Int × Int) := spec_proofOf.l0 k l1 (l1.length : Int) 0 a0_0 a0_1 ([] : List (S49)) 0 0 0 0
theorem spec_proofOf.mono_l : ∀ k, (∀ y0 y1 y2 y3 y4 y5 y6 y7 y8 y9, LeO (spec_proofOf.l0 k y0 y1 y2 y3 y4 y5 y6 y7 y8 y9) (spec_proofOf.l0 (k + 1) y0 y1 y2 y3 y4 y5 y6 y7 y8 y9)) ∧ (∀ y0 y1 y2 y3 y4 y5 y6 y7 y8 y9 y10 y11 y12 y13, LeO (spec_proofOf.l1 k y0 y1 y2 y3 y4 y5 y6 y7 y8 y9 y10 y11 y12 y13) (spec_proofOf.l1 (k + 1) y0 y1 y2 y3 y4 y5 y6 y7 y8 y9 y10 y11 y12 y13))
  | 0 => ⟨fun _ _ _ _ _ _ _ _ _ _ r h => by simp [spec_proofOf.l0] at h, fun _ _ _ _ _ _ _ _ _ _ _ _ _ _ r h => by simp [spec_proofOf.l1] at h⟩
  | k + 1 => by
    obtain ⟨ih0, ih1⟩ := spec_proofOf.mono_l k
    refine ⟨?_, ?_⟩
    · intro y0 y1 y2 y3 y4 y5 y6 y7 y8 y9
      unfold spec_proofOf.l0
      repeat' first
      | (with_reducible exact ih0 _ _ _ _ _ _ _ _ _ _)
      | (with_reducible exact ih1 _ _ _ _ _ _ _ _ _ _ _ _ _ _)
      | (with_reducible exact spec_NodeOf.mono _ _ _)
      | (with_reducible exact spec_Nodes.mono _ _ _)
      | (with_reducible exact LeO.refl _)
      | (with_reducible exact LeO.none _)
      | (with_reducible refine LeO.ite ?_ ?_)
      | (with_reducible refine LeO.bind ?_ (fun _ => ?_))
      | exact ih0 _ _ _ _ _ _ _ _ _ _
      | exact ih1 _ _ _ _ _ _ _ _ _ _ _ _ _ _
      | exact spec_NodeOf.mono _ _ _
      | exact spec_Nodes.mono _ _ _
      | exact LeO.none _
      | refine LeO.ite ?_ ?_
      | refine LeO.bind ?_ (fun _ => ?_)
    · intro y0 y1 y2 y3 y4 y5 y6 y7 y8 y9 y10 y11 y12 y13
      unfold spec_proofOf.l1
      repeat' first
      | (with_reducible exact ih0 _ _ _ _ _ _ _ _ _ _)
      | (with_reducible exact ih1 _ _ _ _ _ _ _ _ _ _ _ _ _ _)
      | (with_reducible exact spec_NodeOf.mono _ _ _)
      | (with_reducible exact spec_Nodes.mono _ _ _)
      | (with_reducible exact LeO.refl _)
      | (with_reducible exact LeO.none _)
      | (with_reducible refine LeO.ite ?_ ?_)
      | (with_reducible refine LeO.bind ?_ (fun _ => ?_))
      | exact ih0 _ _ _ _ _ _ _ _ _ _
      | exact ih1 _ _ _ _ _ _ _ _ _ _ _ _ _ _
      | exact spec_NodeOf.mono _ _ _
      | exact spec_Nodes.mono _ _ _
      | exact LeO.none _
      | refine LeO.ite ?_ ?_
      | refine LeO.bind ?_ (fun _ => ?_)
theorem spec_proofOf.mono : ∀ a0 a1 a2 k, LeO (spec_proofOf.f k a0 a1 a2) (spec_proofOf.f (k + 1) a0 a1 a2) := by
  intro a0 a1 a2 k
  obtain ⟨ih0, ih1⟩ := spec_proofOf.mono_l k
  unfold spec_proofOf.f
  repeat' first
      | (with_reducible exact ih0 _ _ _ _ _ _ _ _ _ _)
      | (with_reducible exact ih1 _ _ _ _ _ _ _ _ _ _ _ _ _ _)
      | (with_reducible exact spec_NodeOf.mono _ _ _)
      | (with_reducible exact spec_Nodes.mono _ _ _)
      | (with_reducible exact LeO.refl _)
      | (with_reducible exact LeO.none _)
      | (with_reducible refine LeO.ite ?_ ?_)
      | (with_reducible refine LeO.bind ?_ (fun _ => ?_))
      | exact ih0 _ _ _ _ _ _ _ _ _ _
      | exact ih1 _ _ _ _ _ _ _ _ _ _ _ _ _ _
      | exact spec_NodeOf.mono _ _ _
      | exact spec_Nodes.mono _ _ _
      | exact LeO.none _
      | refine LeO.ite ?_ ?_
      | refine LeO.bind ?_ (fun _ => ?_)
end Go.Proofs.YtielnphmcaecdaaDoor.PAll
namespace Go.Proofs.YtielnphmcaecdaaDoor.PAll
open Go.RowKit Go.Proofs.YtielnphmcaecdaaDoorW.PrintWords Go.Proofs.YtielnphmcaecdaaDoorW.PrintLast Go.Proofs.YtielnphmcaecdaaDoorW.PrintMore
attribute [local go_sem] max2_int min2_int max_two min_two max_three min_three max_four min_four   -- for this text's walks alone
set_option linter.unusedVariables false
set_option linter.unusedSimpArgs false
def spec_pathIn.f : Nat → Int → Int → Int → Option ((List (S53)))
  | 0, _, _, _ => none
  | k + 1, a0, a1_0, a1_1 => if (IntKind.u64.wrap (a1_1 - a1_0)) = 1 then (some ([] : List (S53))) else ((spec_split.f k (IntKind.u64.wrap (a1_1 - a1_0))).bind fun t359 => (if a0 < (IntKind.u64.wrap (a1_0 + t359)) then ((spec_pathIn.f k a0 a1_0 (IntKind.u64.wrap (a1_0 + t359))).bind fun t360 => ((some (([(⟨IntKind.u64.wrap (a1_0 + t359), a1_1⟩ : S53)] : List (S53)) : List (S53))).bind fun y363 => (if t360.length + y363.length < 8796093022208 then (some (t360 ++ y363)) else (none)))) else ((spec_pathIn.f k a0 (IntKind.u64.wrap (a1_0 + t359)) a1_1).bind fun t369 => ((some (([(⟨a1_0, IntKind.u64.wrap (a1_0 + t359)⟩ : S53)] : List (S53)) : List (S53))).bind fun y372 => (if t369.length + y372.length < 8796093022208 then (some (t369 ++ y372)) else (none))))))
theorem spec_pathIn.mono_l : ∀ k, (∀ y0 y1 y2, LeO (spec_pathIn.f k y0 y1 y2) (spec_pathIn.f (k + 1) y0 y1 y2))
  | 0 => fun _ _ _ r h => by simp [spec_pathIn.f] at h
  | k + 1 => by
    have ih0 := spec_pathIn.mono_l k
    · intro y0 y1 y2
      unfold spec_pathIn.f
      repeat' first
      | (with_reducible exact ih0 _ _ _)
      | (with_reducible exact spec_split.mono _ _)
      | (with_reducible exact LeO.refl _)
      | (with_reducible exact LeO.none _)
      | (with_reducible refine LeO.ite ?_ ?_)
      | (with_reducible refine LeO.bind ?_ (fun _ => ?_))
      | exact ih0 _ _ _
      | exact spec_split.mono _ _
      | exact LeO.none _
      | refine LeO.ite ?_ ?_
      | refine LeO.bind ?_ (fun _ => ?_)
theorem spec_pathIn.mono : ∀ a0 a1 a2 k, LeO (spec_pathIn.f k a0 a1 a2) (spec_pathIn.f (k + 1) a0 a1 a2) := by
  intro a0 a1 a2 k
  have ih0 := spec_pathIn.mono_l k
  exact ih0 a0 a1 a2
def spec_PathParts.f (k : Nat) (a0 : Int) (a1 : Int) : Option ((List (S53))) := (spec_pathIn.f k a0 0 a1).bind fun t378 => (some t378)
theorem spec_PathParts.mono : ∀ a0 a1 k, LeO (spec_PathParts.f k a0 a1) (spec_PathParts.f (k + 1) a0 a1) := by
  intro a0 a1 k
  unfold spec_PathParts.f
  repeat' first
      | (with_reducible exact spec_pathIn.mono _ _ _ _)
      | (with_reducible exact LeO.refl _)
      | (with_reducible exact LeO.none _)
      | (with_reducible refine LeO.ite ?_ ?_)
      | (with_reducible refine LeO.bind ?_ (fun _ => ?_))
      | exact spec_pathIn.mono _ _ _ _
      | exact LeO.none _
      | refine LeO.ite ?_ ?_
      | refine LeO.bind ?_ (fun _ => ?_)
end Go.Proofs.YtielnphmcaecdaaDoor.PAll
namespace Go.Proofs.YtielnphmcaecdaaDoor.PAll
open Go.RowKit Go.Proofs.YtielnphmcaecdaaDoor.Num Go.Proofs.YtielnphmcaecdaaDoor.Mth Go.Proofs.YtielnphmcaecdaaDoorW.PrintWords Go.Proofs.YtielnphmcaecdaaDoorW.PrintLast
theorem split_loop (n : Nat) (hn : n < 18446744073709551616) (d : Nat) : ∀ (j k : Nat), 2 ^ j < n → blen (n - 1) = j + 1 + d → d < k → spec_split.l0 k (n : Int) ((2 ^ j : Nat) : Int) = some ((psplit n : Nat) : Int) := by
  induction d with
  | zero =>
    intro j k h1 h2 hk
    obtain ⟨k, rfl⟩ : ∃ m, k = m + 1 := ⟨k - 1, by omega⟩
    have h3 : n - 1 < 2 ^ (j + 1) := blen_le.1 (by omega)
    rw [Nat.pow_succ] at h3
    have e : psplit n = 2 ^ j := psplit_unique h1 (by omega)
    rw [spec_split.l0, u64sub (by omega) hn, if_neg (by omega), e]
  | succ d ih =>
    intro j k h1 h2 hk
    obtain ⟨k, rfl⟩ : ∃ m, k = m + 1 := ⟨k - 1, by omega⟩
    have h3 : ¬ n - 1 < 2 ^ (j + 1) := fun h => by have := blen_le.2 h; omega
    have h4 := Nat.pow_succ 2 j
    have e : IntKind.u64.wrap (((2 ^ j : Nat) : Int) * 2) = ((2 ^ (j + 1) : Nat) : Int) := by
      rw [h4]; exact u64mul (a := 2 ^ j) (b := 2) (by omega)
    rw [spec_split.l0, u64sub (by omega) hn, if_pos (by omega), e]
    exact ih (j + 1) k (by omega) (by omega) (by omega)
theorem spec_split.eq (n : Nat) (h2 : 2 ≤ n) (hn : n < 18446744073709551616) (k : Nat) (hk : 64 ≤ k) : spec_split.f k (n : Int) = some ((psplit n : Nat) : Int) := by
  have h1 := blen_pos (n := n - 1) (by omega)
  have h3 := blen_lt64 (n := n - 1) (by omega)
  exact split_loop n hn (blen (n - 1) - 1) 0 k (by simp; omega) (by omega) (by omega)
theorem proof_innerProofSize.eq (i n : Nat) (hi : i < n) (hn : n < 18446744073709551616) (k : Nat) : proof_innerProofSize.f (k + 1) (i : Int) (n : Int) = some ((fork i (n - 1) : Nat) : Int) := by
  have hx : i ^^^ (n - 1) < 18446744073709551616 := Nat.xor_lt_two_pow (n := 64) (by omega) (by omega)
  have e : IntKind.u64.wrap ((n : Int) - 1) = ((n - 1 : Nat) : Int) := u64sub (a := n) (b := 1) (by omega) hn
  unfold proof_innerProofSize.f
  rw [e, xor64 _ _ (by omega) (by omega), bits_Len64.eq _ _ hx]
  rfl
theorem proof_decompInclProof.eq (i n : Nat) (hi : i < n) (hn : n < 18446744073709551616) (k : Nat) : proof_decompInclProof.f (k + 1) (i : Int) (n : Int) = some (((fork i (n - 1) : Nat) : Int), ((ones (i / 2 ^ fork i (n - 1)) : Nat) : Int)) := by
  have hf : fork i (n - 1) ≤ 64 := blen_lt64 (Nat.xor_lt_two_pow (n := 64) (by omega) (by omega))
  have hd := Nat.div_le_self i (2 ^ fork i (n - 1))
  unfold proof_decompInclProof.f
  rw [proof_innerProofSize.eq i n hi hn]
  simp only [Option.bind_some]
  rw [u64in (by omega), if_pos (by omega), shr64' _ _ (by omega), bits_OnesCount64.eq _ (by omega)]
  rfl
end Go.Proofs.YtielnphmcaecdaaDoor.PAll
namespace Go.Proofs.YtielnphmcaecdaaDoor.Mth
theorem drop_snoc {α : Type} {l : Nat} {a : List α} (b : List α) (h : l ≤ a.length) : (a ++ b).drop l = a.drop l ++ b := by
  rw [List.drop_append, show l - a.length = 0 by omega, List.drop_zero]
end Go.Proofs.YtielnphmcaecdaaDoor.Mth
namespace Go.Proofs.YtielnphmcaecdaaDoor.PAll
open Go.RowKit Go.Proofs.YtielnphmcaecdaaDoor.Num Go.Proofs.YtielnphmcaecdaaDoor.Mth Go.Proofs.YtielnphmcaecdaaDoorW.PrintWords Go.Proofs.YtielnphmcaecdaaDoorW.PrintLast
set_option linter.unusedVariables false
theorem blk_le (i l : Nat) {s m : Nat} (h : s ≤ m) : (i / 2 ^ s + 1) * 2 ^ (l + s) ≤ (i / 2 ^ m + 1) * 2 ^ (l + m) := by
  have e : i / 2 ^ m = i / 2 ^ s / 2 ^ (m - s) := by rw [Nat.div_div_eq_div_mul, ← Nat.pow_add, show s + (m - s) = m by omega]
  have h1 : i / 2 ^ s < (i / 2 ^ s / 2 ^ (m - s) + 1) * 2 ^ (m - s) := (Nat.div_lt_iff_lt_mul (Nat.two_pow_pos _)).1 (Nat.lt_succ_self _)
  rw [e]
  calc (i / 2 ^ s + 1) * 2 ^ (l + s) ≤ ((i / 2 ^ s / 2 ^ (m - s) + 1) * 2 ^ (m - s)) * 2 ^ (l + s) := Nat.mul_le_mul_right _ h1
    _ = (i / 2 ^ s / 2 ^ (m - s) + 1) * 2 ^ (l + m) := by rw [Nat.mul_assoc, ← Nat.pow_add, show m - s + (l + s) = l + m by omega]
def nParts (c l n : Nat) : List (Nat × Nat) := (ndS c l n).map lvs ++ (if ndE c l n < n then [(ndE c l n, n)] else []) ++ (Nds 0 0 (ndB c l n)).reverse.map lvs
end Go.Proofs.YtielnphmcaecdaaDoor.PAll
namespace Go.Proofs.YtielnphmcaecdaaDoor.PAll
open Go.IntWalk Go.RowKit Go.Proofs.YtielnphmcaecdaaDoorW.PrintWords Go.Proofs.YtielnphmcaecdaaDoorW.PrintLast Go.Proofs.YtielnphmcaecdaaDoorW.PrintMore
set_option linter.unusedVariables false
set_option linter.unusedSimpArgs false
def TxF (ok : Nat → Prop) (w : World) (s : SH) (b : List Int) : Prop := s.2.1 = b.length ∧ b.length ≤ s.2.2 ∧ Kd.F (Kd.int .u8) w ok s.1 b.length b
theorem TxF.below {ok : Nat → Prop} {w w' : World} {s : SH} {b : List Int} (h : TxF ok w s b) (hb : Below w.heap.size w w') : TxF ok w' s b := ⟨h.1, h.2.1, Kd.F_below h.2.2 hb⟩
theorem TxF.mono {ok ok' : Nat → Prop} {w : World} {s : SH} {b : List Int} (h : TxF ok w s b) (hk : ∀ k, ok k → ok' k) : TxF ok' w s b := ⟨h.1, h.2.1, Kd.F_mono h.2.2 hk⟩
theorem TxF.step {ok : Nat → Prop} {w w' : World} {s : SH} {b : List Int} (h : TxF ok w s b) (hm : ∀ k, ok k → k < w.heap.size → w'.heap[k]? = w.heap[k]?) : TxF ok w' s b := ⟨h.1, h.2.1, Kd.F_step h.2.2 hm⟩
theorem TxF.at {ok : Nat → Prop} {w : World} {A : Option Addr} {n c : Nat} {b : List Int} (h : TxF ok w (A, n, c) b) : n = b.length ∧ b.length ≤ c ∧ Kd.C (Kd.int .u8) w A b.length b := ⟨h.1, h.2.1, Kd.F_now h.2.2⟩
def spec_Folded.f (k : Nat) (a0 a1 a2 a3 a4 a5 : Int) (l1 : List S49) (b1 b2 b3 b4 : Int) (l2 : List (List Int)) : Option (List (List Int)) :=
  if b3 = b4 then some l2 else if 0 ≤ b3 ∧ b3 < b4 ∧ b4 ≤ l2.length ∧ l2.length < 1000000000000 then (upB_ (spec_HashChildren.f k a0 a1 a2 a3 a4 a5) ((l2.take b4.toNat).drop (b3.toNat + 1)) (l2.getD b3.toNat [])).bind fun f => some (l2.take b3.toNat ++ f :: l2.drop b4.toNat) else none
theorem upB_mono' {H H' : List Int → List Int → Option (List Int)} (h : ∀ a b, LeO (H a b) (H' a b)) : ∀ l s, LeO (upB_ H l s) (upB_ H' l s)
  | [], s => LeO.refl _
  | x :: xs, s => LeO.bind (h x s) (fun t => upB_mono' h xs t)
theorem spec_Folded.mono : ∀ a0 a1 a2 a3 a4 a5 l1 b1 b2 b3 b4 l2 k, LeO (spec_Folded.f k a0 a1 a2 a3 a4 a5 l1 b1 b2 b3 b4 l2) (spec_Folded.f (k + 1) a0 a1 a2 a3 a4 a5 l1 b1 b2 b3 b4 l2) := by
  intro a0 a1 a2 a3 a4 a5 l1 b1 b2 b3 b4 l2 k
  unfold spec_Folded.f
  exact LeO.ite (LeO.refl _) (LeO.ite (LeO.bind (upB_mono' (fun a b => spec_HashChildren.mono _ _ _ _ _ _ _ _ _) _ _) (fun f => LeO.refl _)) (LeO.refl _))
end Go.Proofs.YtielnphmcaecdaaDoor.PAll
namespace Go.Proofs.YtielnphmcaecdaaDoor.Hsh
open Go.RowKit Go.Proofs.YtielnphmcaecdaaDoor.Num Go.Proofs.YtielnphmcaecdaaDoor.PAll Go.Proofs.YtielnphmcaecdaaDoorW.PrintWords Go.Proofs.YtielnphmcaecdaaDoorW.PrintLast
set_option linter.unusedVariables false
theorem lift {α : Type} {F : Nat → Option α} (hm : ∀ k, LeO (F k) (F (k + 1))) {k : Nat} {r : α} (h : F k = some r) : ∀ {K : Nat}, k ≤ K → F K = some r := by
  intro K hK
  obtain ⟨d, rfl⟩ := Nat.exists_eq_add_of_le hK
  clear hK
  induction d with
  | zero => exact h
  | succ d ih => exact hm _ _ ih
theorem next64 {i : Nat} (h : i < 9223372036854775807) : wrap64 ((i : Int) + 1) = ((i + 1 : Nat) : Int) := by unfold wrap64; omega
theorem drop_rd1 {l : List Int} {i : Nat} (h : i < l.length) : l.drop i = rd l (i : Int) :: l.drop (i + 1) := by
  rw [List.drop_eq_getElem_cons h]
  congr 1
  show _ = l.getD i 0
  rw [List.getD_eq_getElem?_getD, List.getElem?_eq_getElem h]; rfl
def step (x b : Int) : Int := IntKind.u64.wrap ((Go.bits .xor .u64 x (IntKind.u64.wrap b)) * 1099511628211)
def mix (x : Int) (l : List Int) : Int := l.foldl step x
theorem impl_mixed_loop (l : List Int) (hl : l.length < 9223372036854775807) (d : Nat) : ∀ i x, i + d = l.length →
    impl_mixed.l0 (d + 1) x l (l.length : Int) (i : Int) = some (mix x (l.drop i)) := by
  induction d with
  | zero => intro i x hi; rw [impl_mixed.l0, if_neg (by omega), List.drop_of_length_le (by omega)]; rfl
  | succ d ih =>
    intro i x hi
    rw [impl_mixed.l0, if_pos (by omega), if_pos (by omega), if_pos (by omega), next64 (by omega), ih (i + 1) _ (by omega), drop_rd1 (show i < l.length by omega)]
    rfl
theorem impl_mixed_eq (l : List Int) (x : Int) (hl : l.length < 9223372036854775807) {k : Nat} (hk : l.length < k) : impl_mixed.f k x l = some (mix x l) :=
  lift (fun k => impl_mixed.mono x l k) (impl_mixed_loop l hl l.length 0 x (by omega)) hk
def byt (w : Int) (i : Nat) : Int := shr .u64 w ((8 * i : Nat) : Int) % 256
def wrd (w : Int) : Nat → List Int
  | 0 => []
  | n + 1 => byt w n :: wrd w n
theorem wrd_length (w : Int) : ∀ n, (wrd w n).length = n
  | 0 => rfl
  | n + 1 => by rw [wrd, List.length_cons, wrd_length w n]
theorem eight {i : Nat} (h : i ≤ 8) : wrap64 (8 * (i : Int)) = ((8 * i : Nat) : Int) := by unfold wrap64; omega
theorem set_at (d : Nat) (b : Int) (l : List Int) : (List.replicate (d + 1) 0 ++ l).set d b = List.replicate d 0 ++ (b :: l) := by
  induction d with
  | zero => rfl
  | succ d ih => rw [List.replicate_succ, List.cons_append, List.set_cons_succ, ih, List.replicate_succ, List.cons_append]
theorem impl_word_loop (w : Int) (n : Nat) (hn : n ≤ 8) (d : Nat) : ∀ i, i + d = n →
    impl_word.l0 (d + 1) w (n : Int) (List.replicate d 0 ++ wrd w i) (n : Int) (i : Int) = some (wrd w n) := by
  induction d with
  | zero =>
    intro i hi
    have e : i = n := by omega
    rw [impl_word.l0, if_neg (by omega), e]; rfl
  | succ d ih =>
    intro i hi
    have e1 : wrap64 (wrap64 ((n : Int) - 1) - (i : Int)) = (d : Int) := by unfold wrap64; omega
    rw [impl_word.l0, if_pos (by omega), eight (by omega), if_pos (by omega), e1, if_pos (by omega), if_pos (by rw [List.length_append, List.length_replicate]; omega), next64 (by omega), Int.toNat_natCast, set_at]
    exact ih (i + 1) (by omega)
def nb (a : Int) : Nat := if a < 1 ∨ a > 8 then 8 else a.toNat
theorem nb_le (a : Int) : nb a ≤ 8 := by unfold nb; split <;> omega
theorem impl_word_j1 (w : Int) (n : Nat) (hn : n ≤ 8) (k : Nat) (hk : 10 ≤ k) : impl_word.j1 k w (n : Int) = some (wrd w n) := by
  obtain ⟨k, rfl⟩ : ∃ k', k = k' + 1 := ⟨k - 1, by omega⟩
  rw [impl_word.j1, if_pos (by omega), if_pos (by rw [Int.toNat_natCast]; omega), Option.bind_some, List.length_replicate, Int.toNat_natCast]
  refine lift (F := fun k => impl_word.l0 k w (n : Int) (List.replicate n 0) (n : Int) 0) (fun k => (impl_word.mono_l k).2.2 _ _ _ _ _) (k := n + 1) ?_ (by omega)
  have := impl_word_loop w n hn n 0 (by omega)
  rw [wrd, List.append_nil] at this
  exact this
theorem impl_word_eq (w a : Int) {k : Nat} (hk : 20 ≤ k) : impl_word.f k w a = some (wrd w (nb a)) := by
  obtain ⟨k, rfl⟩ : ∃ k', k = k' + 1 := ⟨k - 1, by omega⟩
  unfold impl_word.f
  by_cases h : a < 1
  · rw [if_pos h, impl_word.j0, if_pos rfl, show nb a = 8 by unfold nb; rw [if_pos (.inl h)]]
    exact impl_word_j1 w 8 (by omega) k (by omega)
  · rw [if_neg h, impl_word.j0]
    by_cases h2 : a > 8
    · rw [if_pos (decide_eq_true h2), show nb a = 8 by unfold nb; rw [if_pos (.inr h2)]]
      exact impl_word_j1 w 8 (by omega) k (by omega)
    · rw [if_neg (by rw [decide_eq_false h2]; decide)]
      have e : a = ((nb a : Nat) : Int) := by unfold nb; rw [if_neg (by omega)]; omega
      have := impl_word_j1 w (nb a) (nb_le a) k (by omega)
      rw [← e] at this; exact this
theorem spec_word_l1 (x : Int) : ∀ (j : Nat) (acc : List Int), j ≤ 8 → acc.length + j ≤ 100 → spec_word.l1 (j + 1) x acc ((j : Int) - 1) = some (acc ++ wrd x j)
  | 0, acc, _, _ => by rw [spec_word.l1, if_neg (by omega), wrd, List.append_nil]
  | j + 1, acc, hj, ha => by
    have e : ((j + 1 : Nat) : Int) - 1 = (j : Int) := by omega
    have e2 : wrap64 ((j : Int) - 1) = (j : Int) - 1 := by unfold wrap64; omega
    rw [spec_word.l1, e, if_pos (by omega), eight (by omega), if_pos (by omega), if_pos (by omega), e2, spec_word_l1 x j _ (by omega) (by rw [List.length_append]; simp only [List.length_singleton]; omega), wrd, List.append_assoc]
    rfl
theorem spec_word_j2 (x : Int) (n : Nat) (hn : n ≤ 8) (k : Nat) (hk : 10 ≤ k) : spec_word.j2 k x (n : Int) = some (wrd x n) := by
  obtain ⟨k, rfl⟩ : ∃ k', k = k' + 1 := ⟨k - 1, by omega⟩
  have e : wrap64 ((n : Int) - 1) = (n : Int) - 1 := by unfold wrap64; omega
  rw [spec_word.j2, e]
  exact lift (F := fun k => spec_word.l1 k x [] ((n : Int) - 1)) (fun k => (spec_word.mono_l k).2.2.2 _ _ _) (spec_word_l1 x n [] hn (by simp only [List.length_nil]; omega)) (by omega)
theorem spec_word_end (x a : Int) (k : Nat) (hk : 20 ≤ k) : (if a < 1 then (spec_word.j1 k x a true) else (spec_word.j1 k x a (decide (a > 8)))) = some (wrd x (nb a)) := by
  obtain ⟨k, rfl⟩ : ∃ k', k = k' + 1 := ⟨k - 1, by omega⟩
  by_cases h : a < 1
  · rw [if_pos h, spec_word.j1, if_pos rfl, show nb a = 8 by unfold nb; rw [if_pos (.inl h)]]
    exact spec_word_j2 x 8 (by omega) k (by omega)
  · rw [if_neg h, spec_word.j1]
    by_cases h2 : a > 8
    · rw [if_pos (decide_eq_true h2), show nb a = 8 by unfold nb; rw [if_pos (.inr h2)]]
      exact spec_word_j2 x 8 (by omega) k (by omega)
    · rw [if_neg (by rw [decide_eq_false h2]; decide)]
      have e : a = ((nb a : Nat) : Int) := by unfold nb; rw [if_neg (by omega)]; omega
      have := spec_word_j2 x (nb a) (nb_le a) k (by omega)
      rw [← e] at this; exact this
theorem spec_word_loop (l : List Int) (hl : l.length < 9223372036854775807) (a0 a1 a2 a3 a4 a5 : Int) (d : Nat) : ∀ i x, i + d = l.length →
    spec_word.l0 (d + 21) x l (l.length : Int) (i : Int) a0 a1 a2 a3 a4 a5 = some (wrd (mix x (l.drop i)) (nb a2)) := by
  induction d with
  | zero =>
    intro i x hi
    rw [spec_word.l0, if_neg (by omega), List.drop_of_length_le (by omega)]
    exact spec_word_end x a2 20 (by omega)
  | succ d ih =>
    intro i x hi
    rw [show d + 1 + 21 = (d + 21) + 1 by omega, spec_word.l0, if_pos (by omega), if_pos (by omega), if_pos (by omega), next64 (by omega), ih (i + 1) _ (by omega), drop_rd1 (show i < l.length by omega)]
    rfl
theorem spec_word_eq (a0 a1 a2 a3 a4 a5 x : Int) (l : List Int) (hl : l.length < 9223372036854775807) {k : Nat} (hk : l.length + 21 ≤ k) :
    spec_word.f k a0 a1 a2 a3 a4 a5 x l = some (wrd (mix x l) (nb a2)) :=
  lift (fun k => spec_word.mono a0 a1 a2 a3 a4 a5 x l k) (spec_word_loop l hl a0 a1 a2 a3 a4 a5 l.length 0 x (by omega)) hk
def hash (a0 a2 a5 : Int) (l r : List Int) : List Int :=
  if a0 = 1 then wrd (mix (mix (mix a5 l) [255]) r) (nb a2) else [1] ++ wrd (IntKind.u64.wrap (l.length : Int)) 8 ++ l ++ r
theorem hash_le (a0 a2 a5 : Int) (l r : List Int) : (hash a0 a2 a5 l r).length ≤ 9 + l.length + r.length := by
  unfold hash
  have := nb_le a2
  split
  · rw [wrd_length]; omega
  · simp only [List.length_append, wrd_length, List.length_singleton]; omega
theorem impl_hash (a0 a1 a2 a3 a4 a5 : Int) (l r : List Int) (hl : l.length ≤ 1000000000000) (hr : r.length ≤ 1000000000000) {k : Nat} (hk : l.length + r.length + 30 ≤ k) :
    impl_toy_HashChildren.f k a0 a1 a2 a3 a4 a5 l r = some (hash a0 a2 a5 l r) := by
  unfold impl_toy_HashChildren.f hash
  by_cases h : a0 = 1
  · rw [if_pos h, if_pos h, impl_mixed_eq l a5 (by omega) (by omega), Option.bind_some, impl_mixed_eq _ _ (by simp only [List.length_singleton]; omega) (by simp only [List.length_singleton]; omega), Option.bind_some, impl_mixed_eq _ _ (by omega) (by omega), Option.bind_some, impl_word_eq _ _ (by omega), Option.bind_some]
  · rw [if_neg h, if_neg h, Option.bind_some, impl_word_eq _ _ (by omega), Option.bind_some]
    have e : nb 8 = 8 := by decide
    rw [e, if_pos (by simp only [List.length_singleton, wrd_length]; omega), Option.bind_some, if_pos (by simp only [List.length_append, List.length_singleton, wrd_length]; omega), Option.bind_some, if_pos (by simp only [List.length_append, List.length_singleton, wrd_length]; omega)]
theorem spec_hash_loop (l r : List Int) (hl : l.length ≤ 1000000000000) (hr : r.length ≤ 1000000000000) : ∀ (j : Nat) (acc : List Int), j ≤ 8 → acc.length + j ≤ 100 →
    spec_HashChildren.l0 (j + 1) l r acc (8 * (j : Int) - 8) = some (acc ++ wrd (IntKind.u64.wrap (l.length : Int)) j ++ l ++ r)
  | 0, acc, _, ha => by
    rw [spec_HashChildren.l0, if_neg (by omega), if_pos (by omega), Option.bind_some, if_pos (by rw [List.length_append]; omega), wrd, List.append_nil]
  | j + 1, acc, hj, ha => by
    have e : 8 * ((j + 1 : Nat) : Int) - 8 = ((8 * j : Nat) : Int) := by omega
    have e2 : wrap64 (((8 * j : Nat) : Int) - 8) = 8 * (j : Int) - 8 := by unfold wrap64; omega
    rw [spec_HashChildren.l0, e, if_pos (by omega), if_pos (by omega), Option.bind_some, if_pos (by simp only [List.length_singleton]; omega), e2, spec_hash_loop l r hl hr j _ (by omega) (by rw [List.length_append]; simp only [List.length_singleton]; omega), wrd]
    show _ = some (acc ++ ([byt _ j] ++ wrd _ j) ++ l ++ r)
    rw [List.append_assoc acc]
    rfl
theorem spec_hash (a0 a1 a2 a3 a4 a5 : Int) (l r : List Int) (hl : l.length ≤ 1000000000000) (hr : r.length ≤ 1000000000000) {k : Nat} (hk : l.length + r.length + 30 ≤ k) :
    spec_HashChildren.f k a0 a1 a2 a3 a4 a5 l r = some (hash a0 a2 a5 l r) := by
  unfold spec_HashChildren.f spec_Terms.f hash
  rw [Option.bind_some]
  by_cases h : a0 = 1
  · rw [if_neg (by subst h; decide), if_pos h, Option.bind_some, if_pos (by simp only [List.length_nil]; omega), Option.bind_some, Option.bind_some, List.nil_append, if_pos (by simp only [List.length_singleton]; omega), Option.bind_some, if_pos (by simp only [List.length_append, List.length_singleton]; omega), spec_word_eq _ _ _ _ _ _ _ _ (by simp only [List.length_append, List.length_singleton]; omega) (by simp only [List.length_append, List.length_singleton]; omega), Option.bind_some]
    unfold mix
    rw [List.foldl_append, List.foldl_append]
  · rw [if_pos (by exact bne_iff_ne.mpr h), if_neg h]
    exact lift (F := fun k => spec_HashChildren.l0 k l r [1] 56) (fun k => spec_HashChildren.mono_l k _ _ _ _) (spec_hash_loop l r hl hr 8 [1] (by omega) (by simp only [List.length_singleton]; omega)) (by omega)
end Go.Proofs.YtielnphmcaecdaaDoor.Hsh
namespace Go.Proofs.YtielnphmcaecdaaDoor.Hsh
open Go.RowKit Go.Proofs.YtielnphmcaecdaaDoor.Num Go.Proofs.YtielnphmcaecdaaDoor.PAll Go.Proofs.YtielnphmcaecdaaDoorW.PrintWords Go.Proofs.YtielnphmcaecdaaDoorW.PrintLast
set_option linter.unusedVariables false
theorem rdL (l : List (List Int)) (i : Nat) : rd_L1 l (i : Int) = l.getD i [] := rfl
theorem take_at {α : Type} (l : List α) (i : Nat) (d : α) (h : i < l.length) : l.take (i + 1) = l.take i ++ [l.getD i d] := by
  rw [List.getD_eq_getElem?_getD, List.getElem?_eq_getElem h, Option.getD_some, List.take_succ_eq_append_getElem h]
theorem fits_loop (l : List (List Int)) (hl : l.length ≤ 2147483647) (d : Nat) : ∀ i, i + d = l.length → (∀ j, j < i → (l.getD j []).length ≤ 2147483647) →
    ∃ z, laws_zzFits2.l0 (d + 1) l (l.length : Int) (i : Int) = some z ∧ (z = true → ∀ j, j < l.length → (l.getD j []).length ≤ 2147483647) := by
  induction d with
  | zero =>
    intro i hi hj
    exact ⟨true, by rw [laws_zzFits2.l0, if_neg (by omega)], fun _ j h => hj j (by omega)⟩
  | succ d ih =>
    intro i hi hj
    rw [laws_zzFits2.l0, if_pos (by omega), if_pos (by omega), if_pos (by omega), rdL]
    by_cases h : ((l.getD i []).length : Int) > 2147483647
    · rw [if_pos h]; exact ⟨false, rfl, fun h => by cases h⟩
    · rw [if_neg h, next64 (by omega)]
      exact ih (i + 1) (by omega) (fun j h2 => by
        by_cases e : j = i
        · subst e; omega
        · exact hj j (by omega))
theorem fits (l : List (List Int)) : ∃ z k, laws_zzFits2.f k l = some z ∧ (z = true → l.length ≤ 2147483647 ∧ ∀ j, j < l.length → (l.getD j []).length ≤ 2147483647) := by
  by_cases h : (l.length : Int) > 2147483647
  · exact ⟨false, 0, by unfold laws_zzFits2.f; rw [if_pos h], fun h => by cases h⟩
  · obtain ⟨z, hz, hb⟩ := fits_loop l (by omega) l.length 0 (by omega) (fun j h => absurd h (by omega))
    exact ⟨z, l.length + 1, by unfold laws_zzFits2.f; rw [if_neg h]; exact hz, fun e => ⟨by omega, hb e⟩⟩
theorem small_loop (l : List (List Int)) (hl : l.length ≤ 2147483647) (d : Nat) : ∀ i, i + d = l.length → (∀ j, j < i → (l.getD j []).length ≤ 5000) →
    ∃ z, laws_logSmall.l0 (d + 1) l l (l.length : Int) (i : Int) = some z ∧ (z = true → l.length ≤ 300 ∧ ∀ j, j < l.length → (l.getD j []).length ≤ 5000) := by
  induction d with
  | zero =>
    intro i hi hj
    exact ⟨decide ((l.length : Int) ≤ 300), by rw [laws_logSmall.l0, if_neg (by omega)], fun h => ⟨by have := of_decide_eq_true h; omega, fun j h => hj j (by omega)⟩⟩
  | succ d ih =>
    intro i hi hj
    rw [laws_logSmall.l0, if_pos (by omega), if_pos (by omega), if_pos (by omega), rdL]
    by_cases h : ((l.getD i []).length : Int) > 5000
    · rw [if_pos h]; exact ⟨false, rfl, fun h => by cases h⟩
    · rw [if_neg h, next64 (by omega)]
      exact ih (i + 1) (by omega) (fun j h2 => by
        by_cases e : j = i
        · subst e; omega
        · exact hj j (by omega))
theorem small (l : List (List Int)) (hl : l.length ≤ 2147483647) : ∃ z, laws_logSmall.f (l.length + 1) l = some z ∧ (z = true → l.length ≤ 300 ∧ ∀ j, j < l.length → (l.getD j []).length ≤ 5000) :=
  small_loop l hl l.length 0 (by omega) (fun j h => absurd h (by omega))
theorem texts_loop (l : List (List Int)) (hl : l.length ≤ 2147483647) (hb : ∀ j, j < l.length → (l.getD j []).length ≤ 2147483647) (d : Nat) : ∀ i, i + d = l.length →
    impl_texts.l0 (d + 1) (l.take i) l (l.length : Int) (i : Int) = some l := by
  induction d with
  | zero =>
    intro i hi
    rw [impl_texts.l0, if_neg (by omega), List.take_of_length_le (by omega)]
  | succ d ih =>
    intro i hi
    have h1 := hb i (by omega)
    have h2 : (l.take i).length < 5864062014805 := by rw [List.length_take]; omega
    rw [impl_texts.l0, if_pos (by omega), if_pos (by omega), if_pos (by omega), Option.bind_some, if_pos (by rw [rdL]; simp only [List.length_nil]; omega), if_pos h2, next64 (by omega), List.nil_append, rdL, ← take_at l i [] (by omega)]
    exact ih (i + 1) (by omega)
theorem texts_eq (l : List (List Int)) (hl : l.length ≤ 2147483647) (hb : ∀ j, j < l.length → (l.getD j []).length ≤ 2147483647) {k : Nat} (hk : l.length < k) : impl_texts.f k l = some l :=
  lift (fun k => impl_texts.mono l k) (texts_loop l hl hb l.length 0 (by omega)) hk
end Go.Proofs.YtielnphmcaecdaaDoor.Hsh
namespace Go.Proofs.YtielnphmcaecdaaDoor.PAll
open Go.RowKit Go.Proofs.YtielnphmcaecdaaDoorW.PrintWords Go.Proofs.YtielnphmcaecdaaDoorW.PrintLast Go.Proofs.YtielnphmcaecdaaDoorW.PrintMore
attribute [local go_sem] max2_int min2_int max_two min_two max_three min_three max_four min_four   -- for this text's walks alone
set_option linter.unusedVariables false
set_option linter.unusedSimpArgs false
def laws_logCopy.l0 : Nat → List (List Int) → List (List Int) → Int → Int → Option ((List (List Int)))
  | 0, _, _, _, _ => none
  | k + 1, x3, x6, x7, x8 => if x8 < x7 then (if 0 ≤ x8 then (if x8 < (x6.length : Int) then ((some (([] : List Int) : List Int)).bind fun y643 => (if y643.length + (rd_L1 x6 x8).length < 140737488355328 then (if x3.length < 5864062014805 then (laws_logCopy.l0 k (x3 ++ [(y643 ++ (rd_L1 x6 x8))]) x6 x7 (wrap64 (x8 + 1))) else (none)) else (none))) else (none)) else (none)) else (some x3)
def laws_logCopy.f (k : Nat) (l0 : List (List Int)) : Option ((List (List Int))) := laws_logCopy.l0 k ([] : List (List Int)) l0 (l0.length : Int) 0
theorem laws_logCopy.mono_l : ∀ k, (∀ y0 y1 y2 y3, LeO (laws_logCopy.l0 k y0 y1 y2 y3) (laws_logCopy.l0 (k + 1) y0 y1 y2 y3))
  | 0 => fun _ _ _ _ r h => by simp [laws_logCopy.l0] at h
  | k + 1 => by
    have ih0 := laws_logCopy.mono_l k
    · intro y0 y1 y2 y3
      unfold laws_logCopy.l0
      repeat' first
      | (with_reducible exact ih0 _ _ _ _)
      | (with_reducible exact LeO.refl _)
      | (with_reducible exact LeO.none _)
      | (with_reducible refine LeO.ite ?_ ?_)
      | (with_reducible refine LeO.bind ?_ (fun _ => ?_))
      | exact ih0 _ _ _ _
      | exact LeO.none _
      | refine LeO.ite ?_ ?_
      | refine LeO.bind ?_ (fun _ => ?_)
theorem laws_logCopy.mono : ∀ a0 k, LeO (laws_logCopy.f k a0) (laws_logCopy.f (k + 1) a0) := by
  intro a0 k
  have ih0 := laws_logCopy.mono_l k
  unfold laws_logCopy.f
  repeat' first
      | (with_reducible exact ih0 _ _ _ _)
      | (with_reducible exact LeO.refl _)
      | (with_reducible exact LeO.none _)
      | (with_reducible refine LeO.ite ?_ ?_)
      | (with_reducible refine LeO.bind ?_ (fun _ => ?_))
      | exact ih0 _ _ _ _
      | exact LeO.none _
      | refine LeO.ite ?_ ?_
      | refine LeO.bind ?_ (fun _ => ?_)
end Go.Proofs.YtielnphmcaecdaaDoor.PAll
namespace Go.Proofs.YtielnphmcaecdaaDoor.PAll
open Go.RowKit Go.Proofs.YtielnphmcaecdaaDoor.Num Go.Proofs.YtielnphmcaecdaaDoor.Mth Go.Proofs.YtielnphmcaecdaaDoor.Hsh Go.Proofs.YtielnphmcaecdaaDoorW.PrintWords Go.Proofs.YtielnphmcaecdaaDoorW.PrintLast
set_option linter.unusedVariables false
set_option linter.unusedSimpArgs false
def bord (H : List Int → List Int → List Int) : List (List Int) → List Int → List Int
  | [], s => s
  | x :: xs, s => bord H xs (H x s)
theorem bord_append (H : List Int → List Int → List Int) : ∀ l m s, bord H (l ++ m) s = bord H m (bord H l s)
  | [], _, _ => rfl
  | x :: l, m, s => bord_append H l m _
theorem bord_le {H : List Int → List Int → List Int} (hH : ∀ l r, (H l r).length ≤ 9 + l.length + r.length) (m : Nat) : ∀ (l : List (List Int)) (s : List Int), (∀ x ∈ l, x.length ≤ m) → (bord H l s).length ≤ s.length + (m + 9) * l.length
  | [], s, _ => by simp [bord]
  | x :: l, s, h => by
    have h1 := bord_le hH m l (H x s) (fun y hy => h y (List.mem_cons_of_mem _ hy))
    have h2 := hH x s
    have h3 := h x List.mem_cons_self
    rw [bord, List.length_cons, Nat.mul_succ]; omega
theorem upB_eq (F : List Int → List Int → Option (List Int)) (H : List Int → List Int → List Int) (hH : ∀ l r, (H l r).length ≤ 9 + l.length + r.length) (hF : ∀ l r, l.length ≤ 1000000000 → r.length ≤ 1000000000 → F l r = some (H l r)) (m : Nat) (hm : m ≤ 1000000000) :
    ∀ (l : List (List Int)) (s : List Int), (∀ x ∈ l, x.length ≤ m) → s.length + (m + 9) * l.length ≤ 1000000000 → upB_ F l s = some (bord H l s)
  | [], s, _, _ => rfl
  | x :: l, s, h, hs => by
    have h2 := hH x s
    have h3 := h x List.mem_cons_self
    rw [List.length_cons, Nat.mul_succ] at hs
    rw [upB_, hF x s (by omega) (by omega), Option.bind_some]
    exact upB_eq F H hH hF m hm l (H x s) (fun y hy => h y (List.mem_cons_of_mem _ hy)) (by omega)
theorem impl_H (a0 a1 a2 a3 a4 a5 : Int) {k : Nat} (hk : 2000000100 ≤ k) : ∀ l r : List Int, l.length ≤ 1000000000 → r.length ≤ 1000000000 → impl_toy_HashChildren.f k a0 a1 a2 a3 a4 a5 l r = some (hash a0 a2 a5 l r) :=
  fun l r hl hr => impl_hash a0 a1 a2 a3 a4 a5 l r (by omega) (by omega) (by omega)
def folded (H : List Int → List Int → List Int) (b e : Nat) (l : List (List Int)) : List (List Int) := if b < e then l.take b ++ bord H ((l.take e).drop (b + 1)) (l.getD b []) :: l.drop e else l
theorem folded_rehL (H : List Int → List Int → List Int) (b e : Nat) (l : List (List Int)) : folded H b e l = rehL b e l (bord H ((l.take e).drop (b + 1)) (l.getD b [])) := rfl
theorem folded_le {H : List Int → List Int → List Int} (hH : ∀ l r, (H l r).length ≤ 9 + l.length + r.length) {m : Nat} (b e : Nat) {l : List (List Int)} (h : ∀ x ∈ l, x.length ≤ m) : (folded H b e l).length ≤ l.length + 1 ∧ ∀ x ∈ folded H b e l, x.length ≤ m + (m + 9) * l.length := by
  unfold folded
  split
  · have hb : (l.getD b []).length ≤ m := by
      by_cases hl : b < l.length
      · rw [List.getD_eq_getElem?_getD, List.getElem?_eq_getElem hl]; exact h _ (List.getElem_mem hl)
      · rw [List.getD_eq_getElem?_getD, List.getElem?_eq_none (by omega)]; exact Nat.zero_le _
    refine ⟨by simp only [List.length_append, List.length_cons, List.length_take, List.length_drop]; omega, fun x hx => ?_⟩
    rcases List.mem_append.1 hx with h1 | h1
    · exact Nat.le_trans (h x (List.mem_of_mem_take h1)) (Nat.le_add_right _ _)
    · rcases List.mem_cons.1 h1 with h2 | h2
      · subst h2
        have h3 := bord_le hH m ((l.take e).drop (b + 1)) (l.getD b []) (fun y hy => h y (List.mem_of_mem_take (List.mem_of_mem_drop hy)))
        have h4 : ((l.take e).drop (b + 1)).length ≤ l.length := by rw [List.length_drop, List.length_take]; omega
        have := Nat.mul_le_mul_left (m + 9) h4
        omega
      · exact Nat.le_trans (h x (List.mem_of_mem_drop h2)) (Nat.le_add_right _ _)
  · exact ⟨by omega, fun x hx => Nat.le_trans (h x hx) (Nat.le_add_right _ _)⟩
theorem texts_mem (l : List (List Int)) (hl : l.length ≤ 2147483647) (hb : ∀ x ∈ l, x.length ≤ 2147483647) {k : Nat} (hk : l.length < k) : impl_texts.f k l = some l :=
  texts_eq l hl (fun j hj => by rw [List.getD_eq_getElem?_getD, List.getElem?_eq_getElem hj]; exact hb _ (List.getElem_mem hj)) hk
theorem hashF_yes (a0 a1 a2 a3 a4 a5 : Int) (n b e m : Nat) (l : List (List Int)) (hn : l.length = n) (hl : l.length ≤ 10000) (hm : (m + 9) * (l.length + 1) ≤ 1000000000) (hb : ∀ x ∈ l, x.length ≤ m) {K : Nat} (hK : 3000000000 ≤ K) :
    hashF K a0 a1 a2 a3 a4 a5 n b e l = some (folded (hash a0 a2 a5) b e l, true) := by
  obtain ⟨f1, f2⟩ := folded_le (hash_le a0 a2 a5) b e hb
  have hml : (m + 9) * l.length ≤ 1000000000 - m - 9 := by rw [Nat.mul_add, Nat.mul_one] at hm; omega
  have hm1 : m + 9 ≤ 1000000000 := by rw [Nat.mul_add, Nat.mul_one] at hm; omega
  unfold hashF
  rw [texts_mem l (by omega) (fun x hx => by have := hb x hx; omega) (by omega), Option.bind_some, if_pos hn]
  by_cases h : b < e
  · rw [if_pos h]
    have hbs : (l.getD b []).length ≤ m := by
      by_cases hl : b < l.length
      · rw [List.getD_eq_getElem?_getD, List.getElem?_eq_getElem hl]; exact hb _ (List.getElem_mem hl)
      · rw [List.getD_eq_getElem?_getD, List.getElem?_eq_none (by omega)]; exact Nat.zero_le _
    have h4 : ((l.take e).drop (b + 1)).length ≤ l.length := by rw [List.length_drop, List.length_take]; omega
    have h5 := Nat.mul_le_mul_left (m + 9) h4
    rw [upB_eq _ _ (hash_le a0 a2 a5) (impl_H a0 a1 a2 a3 a4 a5 (by omega)) m (by omega) _ _ (fun y hy => hb y (List.mem_of_mem_take (List.mem_of_mem_drop hy))) (by omega), Option.bind_some, ← folded_rehL, texts_mem _ (by omega) (fun x hx => by have := f2 x hx; omega) (by omega)]
    rfl
  · have e1 : ∀ f, rehL b e l f = folded (hash a0 a2 a5) b e l := fun f => by unfold rehL folded; rw [if_neg h, if_neg h]
    rw [if_neg h, Option.bind_some, e1, texts_mem _ (by omega) (fun x hx => by have := f2 x hx; omega) (by omega)]
    rfl
end Go.Proofs.YtielnphmcaecdaaDoor.PAll
namespace Go.Proofs.YtielnphmcaecdaaDoor.Mth
open Go.Proofs.YtielnphmcaecdaaDoor.PAll
set_option linter.unusedVariables false
def chn (R H : List Int → List Int → List Int) (idx : Nat) : List (List Int) → Nat → List Int → List Int
  | [], _, s => s
  | x :: xs, i, s => chn R H idx xs (i + 1) (if idx / 2 ^ i % 2 = 0 then R s x else H x s)
def fd (R H : List Int → List Int → List Int) : List Bool → List (List Int) → List Int → List Int
  | [], _, s => s
  | _, [], s => s
  | d :: ds, x :: xs, s => fd R H ds xs (if d then H x s else R s x)
theorem fd_nil (R H : List Int → List Int → List Int) (ds : List Bool) (s : List Int) : fd R H ds [] s = s := by cases ds <;> rfl
theorem fd_append (R H : List Int → List Int → List Int) : ∀ (ds es : List Bool) (xs ys : List (List Int)) (s : List Int), ds.length = xs.length → fd R H (ds ++ es) (xs ++ ys) s = fd R H es ys (fd R H ds xs s)
  | [], es, [], ys, s, _ => rfl
  | [], _, _ :: _, _, _, h => by cases h
  | _ :: _, _, [], _, _, h => by cases h
  | d :: ds, es, x :: xs, ys, s, h => by
    show fd R H (ds ++ es) (xs ++ ys) _ = _
    exact fd_append R H ds es xs ys _ (Nat.succ.inj h)
def dirs (i b e : Nat) : List Bool :=
  if _h : e - b ≤ 1 then []
  else if i < b + psplit (e - b) then dirs i b (b + psplit (e - b)) ++ [false]
  else dirs i (b + psplit (e - b)) e ++ [true]
termination_by e - b
decreasing_by
  · have := psplit_lt (n := e - b) (by omega); omega
  · have := psplit_pos (e - b); omega
theorem dirs_one {i b e : Nat} (h : e - b ≤ 1) : dirs i b e = [] := by rw [dirs, dif_pos h]
theorem dirs_left {i b e : Nat} (h : 2 ≤ e - b) (hi : i < b + psplit (e - b)) : dirs i b e = dirs i b (b + psplit (e - b)) ++ [false] := by rw [dirs, dif_neg (by omega), if_pos hi]
theorem dirs_right {i b e : Nat} (h : 2 ≤ e - b) (hi : b + psplit (e - b) ≤ i) : dirs i b e = dirs i (b + psplit (e - b)) e ++ [true] := by rw [dirs, dif_neg (by omega), if_neg (by omega)]
theorem dirs_len (i : Nat) : ∀ (d b e : Nat), e - b = d → (dirs i b e).length = (path i b e).length := by
  intro d
  induction d using Nat.strongRecOn with
  | _ d ih =>
  intro b e hd
  by_cases h : e - b ≤ 1
  · rw [dirs_one h, path_one h]; rfl
  · have h1 := psplit_lt (n := e - b) (by omega)
    have h2 := psplit_pos (e - b)
    by_cases hi : i < b + psplit (e - b)
    · rw [dirs_left (by omega) hi, path_left (by omega) hi, List.length_append, List.length_append, ih _ (by omega) b (b + psplit (e - b)) rfl]; rfl
    · rw [dirs_right (by omega) (by omega), path_right (i := i) (b := b) (e := e) (by omega) (by omega), List.length_append, List.length_append, ih _ (by omega) (b + psplit (e - b)) e rfl]; rfl
theorem fold_node {R H : List Int → List Int → List Int} {val : Nat × Nat → List Int} {T : Nat → Nat → List Int} {l c i N : Nat} (hc1 : c * 2 ^ l ≤ i) (hc2 : i < (c + 1) * 2 ^ l)
    (h2 : ∀ b e, 2 ≤ e - b → e ≤ N → b ≤ c * 2 ^ l → (c + 1) * 2 ^ l ≤ b + psplit (e - b) → T b e = R (T b (b + psplit (e - b))) (val (b + psplit (e - b), e)))
    (h3 : ∀ b e, 2 ≤ e - b → e ≤ N → b + psplit (e - b) ≤ c * 2 ^ l → (c + 1) * 2 ^ l ≤ e → T b e = H (val (b, b + psplit (e - b))) (T (b + psplit (e - b)) e)) :
    ∀ d b e, e - b = d → e ≤ N → b ≤ c * 2 ^ l → (c + 1) * 2 ^ l ≤ e → b % 2 ^ l = 0 →
      l ≤ (path i b e).length ∧ fd R H ((dirs i b e).drop l) (((path i b e).map val).drop l) (T (c * 2 ^ l) ((c + 1) * 2 ^ l)) = T b e := by
  have hp := Nat.two_pow_pos l
  have hs : (c + 1) * 2 ^ l = c * 2 ^ l + 2 ^ l := by rw [Nat.add_mul, Nat.one_mul]
  intro d
  induction d using Nat.strongRecOn with
  | _ d ih =>
  intro b e hd hN hb he hm
  by_cases hle : e - b ≤ 2 ^ l
  · have e1 : b = c * 2 ^ l := by omega
    have e2 : e = b + 2 ^ l := by omega
    have hlen : (path i b e).length = l := by rw [e2]; exact path_len_pow l i b
    refine ⟨by omega, ?_⟩
    rw [List.drop_of_length_le (l := (path i b e).map val) (by rw [List.length_map]; omega), fd_nil, e1, show (c + 1) * 2 ^ l = e by omega, ← e1]
  · have h22 : 2 ≤ e - b := by omega
    obtain ⟨κ, hκ⟩ : ∃ κ, psplit (e - b) = 2 ^ κ := ⟨_, rfl⟩
    have g1 := psplit_lt (n := e - b) h22
    have g2 := le_psplit (n := e - b) h22
    have g3 := psplit_pos (e - b)
    have hlκ : l ≤ κ := by
      apply Nat.le_of_not_lt; intro h
      have := Nat.pow_le_pow_right (n := 2) (by decide) (show κ + 1 ≤ l by omega)
      rw [Nat.pow_succ] at this
      omega
    have hdk : psplit (e - b) % 2 ^ l = 0 := by rw [hκ]; exact Nat.mod_eq_zero_of_dvd (Nat.pow_dvd_pow 2 hlκ)
    have hbk : (b + psplit (e - b)) % 2 ^ l = 0 := by rw [Nat.add_mod, hm, hdk, Nat.zero_add, Nat.zero_mod]
    obtain ⟨q, hq⟩ := Nat.dvd_of_mod_eq_zero hbk
    by_cases hi : i < b + psplit (e - b)
    · have hin : (c + 1) * 2 ^ l ≤ b + psplit (e - b) := by
        rw [hq, Nat.mul_comm (2 ^ l)]
        refine Nat.mul_le_mul_right _ ?_
        apply Nat.le_of_not_lt; intro h
        have := Nat.mul_le_mul_right (2 ^ l) (show q ≤ c by omega)
        rw [hq, Nat.mul_comm (2 ^ l)] at hi
        omega
      obtain ⟨k1, k2⟩ := ih _ (by omega) b (b + psplit (e - b)) rfl (by omega) hb hin hm
      have k3 := dirs_len i _ b (b + psplit (e - b)) rfl
      rw [path_left h22 hi, dirs_left h22 hi]
      refine ⟨by rw [List.length_append]; omega, ?_⟩
      rw [List.map_append, drop_snoc _ (by omega), drop_snoc _ (by rw [List.length_map]; omega), fd_append _ _ _ _ _ _ _ (by rw [List.length_drop, List.length_drop, List.length_map, k3]), k2, h2 b e h22 hN hb hin]
      rfl
    · have hin : b + psplit (e - b) ≤ c * 2 ^ l := by
        rw [hq, Nat.mul_comm (2 ^ l)]
        refine Nat.mul_le_mul_right _ ?_
        apply Nat.le_of_not_lt; intro h
        have := Nat.mul_le_mul_right (2 ^ l) (show c + 1 ≤ q by omega)
        rw [hq, Nat.mul_comm (2 ^ l)] at hi
        omega
      obtain ⟨k1, k2⟩ := ih _ (by omega) (b + psplit (e - b)) e rfl hN hin he hbk
      have k3 := dirs_len i _ (b + psplit (e - b)) e rfl
      rw [path_right (i := i) (b := b) (e := e) h22 (by omega), dirs_right h22 (by omega)]
      refine ⟨by rw [List.length_append]; omega, ?_⟩
      rw [List.map_append, drop_snoc _ (by omega), drop_snoc _ (by rw [List.length_map]; omega), fd_append _ _ _ _ _ _ _ (by rw [List.length_drop, List.length_drop, List.length_map, k3]), k2, h3 b e h22 hN hin he]
      rfl
end Go.Proofs.YtielnphmcaecdaaDoor.Mth
namespace Go.Proofs.YtielnphmcaecdaaDoor.Mth
theorem path_shift (d : Nat) : ∀ (m i b e : Nat), e - b = m → path (i + d) (b + d) (e + d) = (path i b e).map fun p => (p.1 + d, p.2 + d) := by
  intro m
  induction m using Nat.strongRecOn with
  | _ m ih =>
  intro i b e hm
  by_cases h : e - b ≤ 1
  · rw [path_one h, path_one (by omega)]; rfl
  · have h1 := psplit_lt (n := e - b) (by omega)
    have h2 := psplit_pos (e - b)
    have es : e + d - (b + d) = e - b := by omega
    by_cases hi : i < b + psplit (e - b)
    · rw [path_left (by omega) hi, path_left (by omega) (by rw [es]; omega), es, List.map_append, ← ih (b + psplit (e - b) - b) (by omega) i b (b + psplit (e - b)) rfl]
      rw [show b + d + psplit (e - b) = b + psplit (e - b) + d by omega]; rfl
    · rw [path_right (i := i) (b := b) (e := e) (by omega) (by omega), path_right (i := i + d) (b := b + d) (e := e + d) (by omega) (by rw [es]; omega), es, List.map_append, ← ih (e - (b + psplit (e - b))) (by omega) i (b + psplit (e - b)) e rfl]
      rw [show b + d + psplit (e - b) = b + psplit (e - b) + d by omega]; rfl
theorem div_top {κ m x : Nat} (hm : m ≤ κ) : (2 ^ κ + x) / 2 ^ m = 2 ^ (κ - m) + x / 2 ^ m := by
  have e : 2 ^ κ = 2 ^ m * 2 ^ (κ - m) := by rw [← Nat.pow_add]; congr 1; omega
  rw [e, Nat.add_comm, Nat.add_mul_div_left _ _ (Nat.two_pow_pos m), Nat.add_comm]
theorem ones_one : ones 1 = 1 := by rw [ones_half, ones_zero]
theorem ones_top_add {j x : Nat} (h : x < 2 ^ j) : ones (2 ^ j + x) = 1 + ones x := by
  have hp := Nat.two_pow_pos j
  rw [ones_split j, Nat.add_mod_left, Nat.mod_eq_of_lt h, Nat.add_div_left _ hp, Nat.div_eq_of_lt h, ones_one]; omega
theorem path_length (n : Nat) : ∀ i, i < n → (path i 0 n).length = fork i (n - 1) + ones (i / 2 ^ fork i (n - 1)) := by
  induction n using Nat.strongRecOn with
  | _ n ih =>
  intro i hi
  by_cases h1 : n ≤ 1
  · have e1 : n = 1 := by omega
    have e2 : i = 0 := by omega
    subst e1 e2
    rw [path_one (by omega), show (1 - 1 : Nat) = 0 from rfl, fork_self, Nat.pow_zero, Nat.div_one, ones_zero]; rfl
  · obtain ⟨κ, hκ⟩ : ∃ κ, psplit (n - 0) = 2 ^ κ := ⟨_, rfl⟩
    have hp := Nat.two_pow_pos κ
    have hlt := psplit_lt (n := n - 0) (by omega)
    have hle := le_psplit (n := n - 0) (by omega)
    rw [hκ] at hlt hle
    have hpow : 2 ^ (κ + 1) = 2 * 2 ^ κ := by rw [Nat.pow_succ]; omega
    by_cases hi2 : i < 2 ^ κ
    · have hf : fork i (n - 1) = κ + 1 := by
        have a : fork i (n - 1) ≤ κ + 1 := fork_le.2 (by rw [Nat.div_eq_of_lt (by omega), Nat.div_eq_of_lt (by omega)])
        have b : ¬ fork i (n - 1) ≤ κ := fun h => by
          have := fork_le.1 h
          rw [Nat.div_eq_of_lt hi2] at this
          have h3 : 1 ≤ (n - 1) / 2 ^ κ := by rw [Nat.le_div_iff_mul_le hp]; omega
          omega
        omega
      rw [path_left (by omega) (by rw [hκ]; omega), hκ, List.length_append, hf, Nat.div_eq_of_lt (by omega), ones_zero, path_len_pow]; rfl
    · obtain ⟨j, rfl⟩ : ∃ j, i = j + 2 ^ κ := ⟨i - 2 ^ κ, by omega⟩
      obtain ⟨m, rfl⟩ : ∃ m, n = m + 2 ^ κ := ⟨n - 2 ^ κ, by omega⟩
      have e0 := path_shift (2 ^ κ) _ j 0 m rfl
      rw [path_right (by omega) (by rw [hκ]; omega), hκ, List.length_append, e0, List.length_map, ih m (by omega) j (by omega)]
      have hf1 : fork j (m - 1) ≤ κ := fork_le.2 (by rw [Nat.div_eq_of_lt (by omega), Nat.div_eq_of_lt (by omega)])
      have hf : fork (j + 2 ^ κ) (m + 2 ^ κ - 1) = fork j (m - 1) := by
        have e1 : m + 2 ^ κ - 1 = 2 ^ κ + (m - 1) := by omega
        have hi : ∀ x, x ≤ κ → (fork (j + 2 ^ κ) (m + 2 ^ κ - 1) ≤ x ↔ fork j (m - 1) ≤ x) := by
          intro x hx
          rw [fork_le, fork_le, e1, Nat.add_comm j, div_top hx, div_top hx]; omega
        have a := (hi _ hf1).2 (Nat.le_refl _)
        have b := (hi _ (Nat.le_trans a hf1)).1 (Nat.le_refl _)
        omega
      have hlt2 : j / 2 ^ fork j (m - 1) < 2 ^ (κ - fork j (m - 1)) := by
        rw [Nat.div_lt_iff_lt_mul (Nat.two_pow_pos _), ← Nat.pow_add, show κ - fork j (m - 1) + fork j (m - 1) = κ by omega]; omega
      rw [hf, Nat.add_comm j, div_top hf1, ones_top_add hlt2]
      simp only [List.length_cons, List.length_nil]; omega
end Go.Proofs.YtielnphmcaecdaaDoor.Mth
