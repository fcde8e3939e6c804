-- Written by a program of this session (wip/tools)
import Derived.Test.YtielnphmcaecdaaDoorQCSPAllx0
import Derived.Test.YtielnphmcaecdaaDoorQCSPAllx10
import Derived.Test.YtielnphmcaecdaaDoorQCSPAllx6
import Derived.Test.YtielnphmcaecdaaDoorQCSPAllx12
import Derived.Test.YtielnphmcaecdaaDoorQCSBits
import Derived.Test.YtielnphmcaecdaaDoorQCSExtVerB
import Derived.Test.YtielnphmcaecdaaDoorQCSExtTz
import Derived.Test.YtielnphmcaecdaaDoorQCSPAllx4
import Derived.Deep.RegionHeldLaw
import Derived.Test.YtielnphmcaecdaaDoorQCSPAllx2
import Derived.Test.YtielnphmcaecdaaDoorQCSPAllx5
namespace Go.Proofs.YtielnphmcaecdaaDoor.PAll
open Go.RowKit Go.Proofs.YtielnphmcaecdaaDoorW.PrintWords Go.Proofs.YtielnphmcaecdaaDoorW.PrintLast Go.Proofs.YtielnphmcaecdaaDoorW.PrintMore
attribute [local go_sem] max2_int min2_int max_two min_two max_three min_three max_four min_four   -- for this text's walks alone
set_option linter.unusedVariables false
set_option linter.unusedSimpArgs false
def spec_NodeOf.l0 : Nat → Int → Int → Int → Int → Option (Int × Int)
  | 0, _, _, _, _ => none
  | k + 1, x382000, x382001, x384000, x384001 => if 0 ≤ x384000 then (if (shr .u64 (IntKind.u64.wrap (x382001 - x382000)) x384000) > 1 then (spec_NodeOf.l0 k x382000 x382001 (IntKind.u64.wrap (x384000 + 1)) x384001) else (some (x384000, shr .u64 x382000 x384000))) else (none)
def spec_NodeOf.f (k : Nat) (a0_0 : Int) (a0_1 : Int) : Option (Int × Int) := spec_NodeOf.l0 k a0_0 a0_1 0 0
theorem spec_NodeOf.mono_l : ∀ k, (∀ y0 y1 y2 y3, LeO (spec_NodeOf.l0 k y0 y1 y2 y3) (spec_NodeOf.l0 (k + 1) y0 y1 y2 y3))
  | 0 => fun _ _ _ _ r h => by simp [spec_NodeOf.l0] at h
  | k + 1 => by
    have ih0 := spec_NodeOf.mono_l k
    · intro y0 y1 y2 y3
      unfold spec_NodeOf.l0
      repeat' first
      | (with_reducible exact ih0 _ _ _ _)
      | (with_reducible exact LeO.refl _)
      | (with_reducible exact LeO.none _)
      | (with_reducible refine LeO.ite ?_ ?_)
      | (with_reducible refine LeO.bind ?_ (fun _ => ?_))
      | exact ih0 _ _ _ _
      | exact LeO.none _
      | refine LeO.ite ?_ ?_
      | refine LeO.bind ?_ (fun _ => ?_)
theorem spec_NodeOf.mono : ∀ a0 a1 k, LeO (spec_NodeOf.f k a0 a1) (spec_NodeOf.f (k + 1) a0 a1) := by
  intro a0 a1 k
  have ih0 := spec_NodeOf.mono_l k
  unfold spec_NodeOf.f
  repeat' first
      | (with_reducible exact ih0 _ _ _ _)
      | (with_reducible exact LeO.refl _)
      | (with_reducible exact LeO.none _)
      | (with_reducible refine LeO.ite ?_ ?_)
      | (with_reducible refine LeO.bind ?_ (fun _ => ?_))
      | exact ih0 _ _ _ _
      | exact LeO.none _
      | refine LeO.ite ?_ ?_
      | refine LeO.bind ?_ (fun _ => ?_)
def spec_fork.l0 : Nat → Int → Int → Int → Option (Int × Int)
  | 0, _, _, _ => none
  | k + 1, x1, x385000, x385001 => if 0 ≤ x385000 then (if (x385001 / 2) = ((shr .u64 x1 x385000) / 2) then (some (x385000, shr .u64 x1 x385000)) else (spec_fork.l0 k x1 (IntKind.u64.wrap (x385000 + 1)) (x385001 / 2))) else (none)
def spec_fork.f (k : Nat) (a0_0 : Int) (a0_1 : Int) (a1 : Int) : Option (Int × Int) := spec_fork.l0 k a1 a0_0 a0_1
theorem spec_fork.mono_l : ∀ k, (∀ y0 y1 y2, LeO (spec_fork.l0 k y0 y1 y2) (spec_fork.l0 (k + 1) y0 y1 y2))
  | 0 => fun _ _ _ r h => by simp [spec_fork.l0] at h
  | k + 1 => by
    have ih0 := spec_fork.mono_l k
    · intro y0 y1 y2
      unfold spec_fork.l0
      repeat' first
      | (with_reducible exact ih0 _ _ _)
      | (with_reducible exact LeO.refl _)
      | (with_reducible exact LeO.none _)
      | (with_reducible refine LeO.ite ?_ ?_)
      | (with_reducible refine LeO.bind ?_ (fun _ => ?_))
      | exact ih0 _ _ _
      | exact LeO.none _
      | refine LeO.ite ?_ ?_
      | refine LeO.bind ?_ (fun _ => ?_)
theorem spec_fork.mono : ∀ a0 a1 a2 k, LeO (spec_fork.f k a0 a1 a2) (spec_fork.f (k + 1) a0 a1 a2) := by
  intro a0 a1 a2 k
  have ih0 := spec_fork.mono_l k
  unfold spec_fork.f
  repeat' first
      | (with_reducible exact ih0 _ _ _)
      | (with_reducible exact LeO.refl _)
      | (with_reducible exact LeO.none _)
      | (with_reducible refine LeO.ite ?_ ?_)
      | (with_reducible refine LeO.bind ?_ (fun _ => ?_))
      | exact ih0 _ _ _
      | exact LeO.none _
      | refine LeO.ite ?_ ?_
      | refine LeO.bind ?_ (fun _ => ?_)
end Go.Proofs.YtielnphmcaecdaaDoor.PAll
namespace Go.Proofs.YtielnphmcaecdaaDoor.PAll
open Go.RowKit Go.Proofs.YtielnphmcaecdaaDoorW.PrintWords Go.Proofs.YtielnphmcaecdaaDoorW.PrintLast Go.Proofs.YtielnphmcaecdaaDoorW.PrintMore
attribute [local go_sem] max2_int min2_int max_two min_two max_three min_three max_four min_four   -- for this text's walks alone
set_option linter.unusedVariables false
set_option linter.unusedSimpArgs false
mutual
def spec_proofOf.l0 : Nat → List (S53) → Int → Int → Int → Int → List (S49) → Int → Int → Int → Int → Option ((List (S49)) × Int × Int × Int × Int)
  | 0, _, _, _, _, _, _, _, _, _, _ => none
  | k + 1, x10, x11, x12, x387000, x387001, x389000, x389001, x389002, x389003, x389004 => if x12 < x11 then (if 0 ≤ x12 then (if x12 < (x10.length : Int) then (if ((rd_T53 x10 x12).f1) = x387000 then ((spec_NodeOf.f k ((rd_T53 x10 x12).f0) ((rd_T53 x10 x12).f1)).bind fun bt391 => (if x389000.length < 8796093022208 then (spec_proofOf.l0 k x10 x11 (wrap64 (x12 + 1)) ((rd_T53 x10 x12).f0) x387001 (x389000 ++ [(⟨bt391.1, bt391.2⟩ : S49)]) x389001 x389002 x389003 x389004) else (none))) else (if (IntKind.u64.wrap (((rd_T53 x10 x12).f1) - ((rd_T53 x10 x12).f0))) = (IntKind.u64.wrap (x387001 - x387000)) then ((spec_NodeOf.f k ((rd_T53 x10 x12).f0) ((rd_T53 x10 x12).f1)).bind fun bt396 => (if x389000.length < 8796093022208 then (spec_proofOf.l0 k x10 x11 (wrap64 (x12 + 1)) x387000 ((rd_T53 x10 x12).f1) (x389000 ++ [(⟨bt396.1, bt396.2⟩ : S49)]) x389001 x389002 x389003 x389004) else (none))) else ((spec_Nodes.f k ((rd_T53 x10 x12).f0) ((rd_T53 x10 x12).f1)).bind fun t401 => (spec_proofOf.l1 k t401 (wrap64 ((t401.length : Int) - 1)) x10 x11 x12 x387000 x387001 x389000 x389001 x389002 (x389000.length : Int) (wrap64 ((x389000.length : Int) + (t401.length : Int))) ((rd_T53 x10 x12).f0) ((rd_T53 x10 x12).f1))))) else (none)) else (none)) else (some (x389000, x389001, x389002, x389003, x389004))
def spec_proofOf.l1 : Nat → List (S49) → Int → List (S53) → Int → Int → Int → Int → List (S49) → Int → Int → Int → Int → Int → Int → Option ((List (S49)) × Int × Int × Int × Int)
  | 0, _, _, _, _, _, _, _, _, _, _, _, _, _, _ => none
  | k + 1, x8, x9, x10, x11, x12, x387000, x387001, x389000, x389001, x389002, x389003, x389004, x391000, x391001 => if x9 ≥ 0 then (if 0 ≤ x9 then (if x9 < (x8.length : Int) then (if x389000.length < 8796093022208 then (spec_proofOf.l1 k x8 (wrap64 (x9 - 1)) x10 x11 x12 x387000 x387001 (x389000 ++ [(⟨(rd_T49 x8 x9).f0, (rd_T49 x8 x9).f1⟩ : S49)]) x389001 x389002 x389003 x389004 x391000 x391001) else (none)) else (none)) else (none)) else (spec_proofOf.l0 k x10 x11 (wrap64 (x12 + 1)) x387000 x391001 x389000 x389001 x389002 x389003 x389004)
end
def spec_proofOf.f (k : Nat) (a0_0 : Int) (a0_1 : Int) (l1 : List (S53)) : Option ((List (S49)) × Int × Int × Int × Int) := spec_proofOf.l0 k l1 (l1.length : Int) 0 a0_0 a0_1 ([] : List (S49)) 0 0 0 0
theorem spec_proofOf.mono_l : ∀ k, (∀ y0 y1 y2 y3 y4 y5 y6 y7 y8 y9, LeO (spec_proofOf.l0 k y0 y1 y2 y3 y4 y5 y6 y7 y8 y9) (spec_proofOf.l0 (k + 1) y0 y1 y2 y3 y4 y5 y6 y7 y8 y9)) ∧ (∀ y0 y1 y2 y3 y4 y5 y6 y7 y8 y9 y10 y11 y12 y13, LeO (spec_proofOf.l1 k y0 y1 y2 y3 y4 y5 y6 y7 y8 y9 y10 y11 y12 y13) (spec_proofOf.l1 (k + 1) y0 y1 y2 y3 y4 y5 y6 y7 y8 y9 y10 y11 y12 y13))
  | 0 => ⟨fun _ _ _ _ _ _ _ _ _ _ r h => by simp [spec_proofOf.l0] at h, fun _ _ _ _ _ _ _ _ _ _ _ _ _ _ r h => by simp [spec_proofOf.l1] at h⟩
  | k + 1 => by
    obtain ⟨ih0, ih1⟩ := spec_proofOf.mono_l k
    refine ⟨?_, ?_⟩
    · intro y0 y1 y2 y3 y4 y5 y6 y7 y8 y9
      unfold spec_proofOf.l0
      repeat' first
      | (with_reducible exact ih0 _ _ _ _ _ _ _ _ _ _)
      | (with_reducible exact ih1 _ _ _ _ _ _ _ _ _ _ _ _ _ _)
      | (with_reducible exact spec_NodeOf.mono _ _ _)
      | (with_reducible exact spec_Nodes.mono _ _ _)
      | (with_reducible exact LeO.refl _)
      | (with_reducible exact LeO.none _)
      | (with_reducible refine LeO.ite ?_ ?_)
      | (with_reducible refine LeO.bind ?_ (fun _ => ?_))
      | exact ih0 _ _ _ _ _ _ _ _ _ _
      | exact ih1 _ _ _ _ _ _ _ _ _ _ _ _ _ _
      | exact spec_NodeOf.mono _ _ _
      | exact spec_Nodes.mono _ _ _
      | exact LeO.none _
      | refine LeO.ite ?_ ?_
      | refine LeO.bind ?_ (fun _ => ?_)
    · intro y0 y1 y2 y3 y4 y5 y6 y7 y8 y9 y10 y11 y12 y13
      unfold spec_proofOf.l1
      repeat' first
      | (with_reducible exact ih0 _ _ _ _ _ _ _ _ _ _)
      | (with_reducible exact ih1 _ _ _ _ _ _ _ _ _ _ _ _ _ _)
      | (with_reducible exact spec_NodeOf.mono _ _ _)
      | (with_reducible exact spec_Nodes.mono _ _ _)
      | (with_reducible exact LeO.refl _)
      | (with_reducible exact LeO.none _)
      | (with_reducible refine LeO.ite ?_ ?_)
      | (with_reducible refine LeO.bind ?_ (fun _ => ?_))
      | exact ih0 _ _ _ _ _ _ _ _ _ _
      | exact ih1 _ _ _ _ _ _ _ _ _ _ _ _ _ _
      | exact spec_NodeOf.mono _ _ _
      | exact spec_Nodes.mono _ _ _
      | exact LeO.none _
      | refine LeO.ite ?_ ?_
      | refine LeO.bind ?_ (fun _ => ?_)
theorem spec_proofOf.mono : ∀ a0 a1 a2 k, LeO (spec_proofOf.f k a0 a1 a2) (spec_proofOf.f (k + 1) a0 a1 a2) := by
  intro a0 a1 a2 k
  obtain ⟨ih0, ih1⟩ := spec_proofOf.mono_l k
  unfold spec_proofOf.f
  repeat' first
      | (with_reducible exact ih0 _ _ _ _ _ _ _ _ _ _)
      | (with_reducible exact ih1 _ _ _ _ _ _ _ _ _ _ _ _ _ _)
      | (with_reducible exact spec_NodeOf.mono _ _ _)
      | (with_reducible exact spec_Nodes.mono _ _ _)
      | (with_reducible exact LeO.refl _)
      | (with_reducible exact LeO.none _)
      | (with_reducible refine LeO.ite ?_ ?_)
      | (with_reducible refine LeO.bind ?_ (fun _ => ?_))
      | exact ih0 _ _ _ _ _ _ _ _ _ _
      | exact ih1 _ _ _ _ _ _ _ _ _ _ _ _ _ _
      | exact spec_NodeOf.mono _ _ _
      | exact spec_Nodes.mono _ _ _
      | exact LeO.none _
      | refine LeO.ite ?_ ?_
      | refine LeO.bind ?_ (fun _ => ?_)
end Go.Proofs.YtielnphmcaecdaaDoor.PAll
namespace Go.Proofs.YtielnphmcaecdaaDoor.PAll
open Go.RowKit Go.Proofs.YtielnphmcaecdaaDoor.Num Go.Proofs.YtielnphmcaecdaaDoor.Mth Go.Proofs.YtielnphmcaecdaaDoorW.PrintWords Go.Proofs.YtielnphmcaecdaaDoorW.PrintLast
theorem split_loop (n : Nat) (hn : n < 18446744073709551616) (d : Nat) : ∀ (j k : Nat), 2 ^ j < n → blen (n - 1) = j + 1 + d → d < k → spec_split.l0 k (n : Int) ((2 ^ j : Nat) : Int) = some ((psplit n : Nat) : Int) := by
  induction d with
  | zero =>
    intro j k h1 h2 hk
    obtain ⟨k, rfl⟩ : ∃ m, k = m + 1 := ⟨k - 1, by omega⟩
    have h3 : n - 1 < 2 ^ (j + 1) := blen_le.1 (by omega)
    rw [Nat.pow_succ] at h3
    have e : psplit n = 2 ^ j := psplit_unique h1 (by omega)
    rw [spec_split.l0, u64sub (by omega) hn, if_neg (by omega), e]
  | succ d ih =>
    intro j k h1 h2 hk
    obtain ⟨k, rfl⟩ : ∃ m, k = m + 1 := ⟨k - 1, by omega⟩
    have h3 : ¬ n - 1 < 2 ^ (j + 1) := fun h => by have := blen_le.2 h; omega
    have h4 := Nat.pow_succ 2 j
    have e : IntKind.u64.wrap (((2 ^ j : Nat) : Int) * 2) = ((2 ^ (j + 1) : Nat) : Int) := by
      rw [h4]; exact u64mul (a := 2 ^ j) (b := 2) (by omega)
    rw [spec_split.l0, u64sub (by omega) hn, if_pos (by omega), e]
    exact ih (j + 1) k (by omega) (by omega) (by omega)
theorem spec_split.eq (n : Nat) (h2 : 2 ≤ n) (hn : n < 18446744073709551616) (k : Nat) (hk : 64 ≤ k) : spec_split.f k (n : Int) = some ((psplit n : Nat) : Int) := by
  have h1 := blen_pos (n := n - 1) (by omega)
  have h3 := blen_lt64 (n := n - 1) (by omega)
  exact split_loop n hn (blen (n - 1) - 1) 0 k (by simp; omega) (by omega) (by omega)
def prt (p : Nat × Nat) : S53 := ⟨(p.1 : Int), (p.2 : Int)⟩
theorem proof_innerProofSize.eq (i n : Nat) (hi : i < n) (hn : n < 18446744073709551616) (k : Nat) : proof_innerProofSize.f (k + 1) (i : Int) (n : Int) = some ((fork i (n - 1) : Nat) : Int) := by
  have hx : i ^^^ (n - 1) < 18446744073709551616 := Nat.xor_lt_two_pow (n := 64) (by omega) (by omega)
  have e : IntKind.u64.wrap ((n : Int) - 1) = ((n - 1 : Nat) : Int) := u64sub (a := n) (b := 1) (by omega) hn
  unfold proof_innerProofSize.f
  rw [e, xor64 _ _ (by omega) (by omega), bits_Len64.eq _ _ hx]
  rfl
theorem proof_decompInclProof.eq (i n : Nat) (hi : i < n) (hn : n < 18446744073709551616) (k : Nat) : proof_decompInclProof.f (k + 1) (i : Int) (n : Int) = some (((fork i (n - 1) : Nat) : Int), ((ones (i / 2 ^ fork i (n - 1)) : Nat) : Int)) := by
  have hf : fork i (n - 1) ≤ 64 := blen_lt64 (Nat.xor_lt_two_pow (n := 64) (by omega) (by omega))
  have hd := Nat.div_le_self i (2 ^ fork i (n - 1))
  unfold proof_decompInclProof.f
  rw [proof_innerProofSize.eq i n hi hn]
  simp only [Option.bind_some]
  rw [u64in (by omega), if_pos (by omega), shr64' _ _ (by omega), bits_OnesCount64.eq _ (by omega)]
  rfl
end Go.Proofs.YtielnphmcaecdaaDoor.PAll
namespace Go.Proofs.YtielnphmcaecdaaDoor.Mth
def cpath (s b e : Nat) (w : Bool) : List (Nat × Nat) :=
  if s = e then (if w then [] else [(b, e)])
  else if _h : e - b ≤ 1 then []
  else if s ≤ b + psplit (e - b) then cpath s b (b + psplit (e - b)) w ++ [(b + psplit (e - b), e)]
  else cpath s (b + psplit (e - b)) e false ++ [(b, b + psplit (e - b))]
termination_by e - b
decreasing_by
  · have := psplit_lt (n := e - b) (by omega); omega
  · have := psplit_lt (n := e - b) (by omega); have := psplit_pos (e - b); omega
theorem cpath_end (s b : Nat) (w : Bool) : cpath s b s w = if w then [] else [(b, s)] := by rw [cpath, if_pos rfl]
theorem cpath_left {s b e : Nat} (h : 2 ≤ e - b) (he : s ≠ e) (hs : s ≤ b + psplit (e - b)) (w : Bool) : cpath s b e w = cpath s b (b + psplit (e - b)) w ++ [(b + psplit (e - b), e)] := by
  rw [cpath, if_neg he, dif_neg (by omega), if_pos hs]
theorem cpath_right {s b e : Nat} (h : 2 ≤ e - b) (he : s ≠ e) (hs : b + psplit (e - b) < s) (w : Bool) : cpath s b e w = cpath s (b + psplit (e - b)) e false ++ [(b, b + psplit (e - b))] := by
  rw [cpath, if_neg he, dif_neg (by omega), if_neg (by omega)]
theorem two_odd {l M κ c : Nat} (hM : M % 2 = 1) (hc : c % 2 = 1) (h : 2 ^ l * M = 2 ^ κ * c) : l = κ := by
  rcases Nat.lt_trichotomy l κ with h1 | h1 | h1
  · exfalso
    obtain ⟨d, rfl⟩ : ∃ d, κ = l + (d + 1) := ⟨κ - l - 1, by omega⟩
    rw [Nat.pow_add, Nat.mul_assoc] at h
    have := Nat.eq_of_mul_eq_mul_left (Nat.two_pow_pos l) h
    rw [Nat.pow_succ, Nat.mul_assoc, Nat.mul_left_comm] at this
    omega
  · exact h1
  · exfalso
    obtain ⟨d, rfl⟩ : ∃ d, l = κ + (d + 1) := ⟨l - κ - 1, by omega⟩
    rw [Nat.pow_add, Nat.mul_assoc] at h
    have := (Nat.eq_of_mul_eq_mul_left (Nat.two_pow_pos κ) h).symm
    rw [Nat.pow_succ, Nat.mul_assoc, Nat.mul_left_comm] at this
    omega
theorem low_le {l M c κ s : Nat} (hs : s = 2 ^ l * M) (h1 : c * 2 ^ κ < s) (h2 : s < (c + 1) * 2 ^ κ) : l < κ := by
  apply Nat.lt_of_not_le; intro h
  obtain ⟨d, rfl⟩ : ∃ d, l = κ + d := ⟨l - κ, by omega⟩
  have e : s = 2 ^ d * M * 2 ^ κ := by rw [hs, Nat.pow_add]; ac_rfl
  rw [e] at h1 h2
  have a := Nat.lt_of_mul_lt_mul_right h1
  have b := Nat.lt_of_mul_lt_mul_right h2
  omega
theorem drop_snoc {α : Type} {l : Nat} {a : List α} (b : List α) (h : l ≤ a.length) : (a ++ b).drop l = a.drop l ++ b := by
  rw [List.drop_append, show l - a.length = 0 by omega, List.drop_zero]
theorem cpath_perfect {l M s : Nat} (hM : M % 2 = 1) (hs : s = 2 ^ l * M) (κ : Nat) : ∀ (b : Nat) (w : Bool), b * 2 ^ κ < s → s ≤ (b + 1) * 2 ^ κ → (s = (b + 1) * 2 ^ κ → b % 2 = 0) →
    cpath s (b * 2 ^ κ) ((b + 1) * 2 ^ κ) w = (if w = true ∧ s = b * 2 ^ κ + 2 ^ l then [] else [(s - 2 ^ l, s)]) ++ (path (s - 1) (b * 2 ^ κ) ((b + 1) * 2 ^ κ)).drop l ∧ l ≤ (path (s - 1) (b * 2 ^ κ) ((b + 1) * 2 ^ κ)).length ∧ l ≤ κ := by
  have hpl := Nat.two_pow_pos l
  induction κ with
  | zero =>
    intro b w h1 h2 h3
    simp only [Nat.pow_zero, Nat.mul_one] at h1 h2 h3 ⊢
    have e : s = b + 1 := by omega
    have hl : l = 0 := two_odd (κ := 0) (c := s) hM (by have := h3 e; omega) (by rw [← hs, Nat.pow_zero, Nat.one_mul])
    subst hl
    rw [← e, cpath_end, path_one (by omega), Nat.pow_zero]
    refine ⟨?_, Nat.le_refl _, Nat.le_refl _⟩
    cases w
    · rw [if_neg (by simp), if_neg (by simp), show s - 1 = b by omega]; rfl
    · rw [if_pos rfl, if_pos ⟨rfl, by omega⟩]; rfl
  | succ κ ih =>
    intro b w h1 h2 h3
    have hp := Nat.two_pow_pos κ
    have e1 : b * 2 ^ (κ + 1) = 2 * b * 2 ^ κ := by rw [Nat.pow_succ]; ac_rfl
    have e3 : (2 * b + 1) * 2 ^ κ = 2 * b * 2 ^ κ + 2 ^ κ := by rw [Nat.add_mul, Nat.one_mul]
    have e4 : (b + 1) * 2 ^ (κ + 1) = (2 * b + 1 + 1) * 2 ^ κ := by rw [Nat.pow_succ, show 2 * b + 1 + 1 = 2 * (b + 1) by omega]; ac_rfl
    have e5 : (2 * b + 1 + 1) * 2 ^ κ = 2 * b * 2 ^ κ + 2 ^ κ + 2 ^ κ := by rw [Nat.add_mul, e3, Nat.one_mul]
    have e6 : (b + 1) * 2 ^ (κ + 1) - b * 2 ^ (κ + 1) = 2 ^ (κ + 1) := by rw [Nat.add_mul]; omega
    have h2p : 2 ≤ (b + 1) * 2 ^ (κ + 1) - b * 2 ^ (κ + 1) := by rw [e6, Nat.pow_succ]; omega
    have hsp : psplit ((b + 1) * 2 ^ (κ + 1) - b * 2 ^ (κ + 1)) = 2 ^ κ := by rw [e6, psplit_pow]
    by_cases he : s = (b + 1) * 2 ^ (κ + 1)
    · have hl : l = κ + 1 := two_odd (c := b + 1) hM (by have := h3 he; omega) (by rw [← hs, he, Nat.mul_comm])
      have hpe := path_perfect (κ + 1) b (s - 1) (by omega) (by omega)
      rw [← he] at hpe ⊢
      rw [cpath_end, hpe]
      have hll : ((sibs (s - 1) (κ + 1)).map lvs).length = κ + 1 := by unfold sibs; simp
      refine ⟨?_, by omega, by omega⟩
      rw [List.drop_of_length_le (by omega), List.append_nil]
      have e7 : s = b * 2 ^ (κ + 1) + 2 ^ l := by rw [hl, he, Nat.add_mul, Nat.one_mul]
      cases w
      · rw [if_neg (by simp), if_neg (by simp), show s - 2 ^ l = b * 2 ^ (κ + 1) by omega]
      · rw [if_pos rfl, if_pos ⟨rfl, e7⟩]
    · have hlt : s < (b + 1) * 2 ^ (κ + 1) := by omega
      have hl := low_le hs h1 hlt
      by_cases hm : s ≤ b * 2 ^ (κ + 1) + 2 ^ κ
      · obtain ⟨i1, i2, i3⟩ := ih (2 * b) w (by rw [← e1]; exact h1) (by rw [e3, ← e1]; exact hm) (fun _ => by omega)
        rw [e3, ← e1] at i1 i2
        rw [cpath_left h2p he (by rw [hsp]; exact hm), path_left h2p (by rw [hsp]; omega), hsp, i1, drop_snoc _ i2, List.append_assoc]
        exact ⟨rfl, by rw [List.length_append]; omega, by omega⟩
      · obtain ⟨i1, i2, i3⟩ := ih (2 * b + 1) false (by rw [e3, ← e1]; omega) (by rw [← e4]; exact h2) (fun h => absurd (h.trans e4.symm) he)
        rw [e3, ← e1, ← e4] at i1 i2
        rw [cpath_right h2p he (by rw [hsp]; omega), path_right h2p (by rw [hsp]; omega), hsp, i1, drop_snoc _ i2, List.append_assoc]
        refine ⟨?_, by rw [List.length_append]; omega, by omega⟩
        have : 2 ^ l ≤ 2 ^ κ := Nat.pow_le_pow_right (by decide) (by omega)
        rw [if_neg (by simp), if_neg (by omega)]
theorem cpath_parts {l M s : Nat} (hM : M % 2 = 1) (hs : s = 2 ^ l * M) (n : Nat) : ∀ (d K B : Nat) (w : Bool), n - B = d → B % 2 ^ K = 0 → n < B + 2 ^ K → B < s → s < n →
    cpath s B n w = (if w = true ∧ s = B + 2 ^ l then [] else [(s - 2 ^ l, s)]) ++ (path (s - 1) B n).drop l ∧ l ≤ (path (s - 1) B n).length := by
  have hpl := Nat.two_pow_pos l
  intro d
  induction d using Nat.strongRecOn with
  | _ d ih =>
  intro K B w hd hB hn h1 h2
  have h2p : 2 ≤ n - B := by omega
  obtain ⟨κ, hκ⟩ : ∃ κ, psplit (n - B) = 2 ^ κ := ⟨_, rfl⟩
  have hp := Nat.two_pow_pos κ
  have hlt := psplit_lt h2p
  have hle := le_psplit h2p
  rw [hκ] at hlt hle
  have hpow : 2 ^ (κ + 1) = 2 * 2 ^ κ := by rw [Nat.pow_succ]; omega
  have hκM : κ < K := by
    apply Nat.lt_of_not_le
    intro h
    have := Nat.pow_le_pow_right (n := 2) (by decide) h
    omega
  obtain ⟨β, hβ⟩ := Nat.dvd_trans (Nat.pow_dvd_pow 2 hκM) (Nat.dvd_of_mod_eq_zero hB)
  have hβ1 : B = β * 2 ^ (κ + 1) := by rw [hβ]; ac_rfl
  have hβ2 : B = 2 * β * 2 ^ κ := by rw [hβ1, hpow]; ac_rfl
  have e1 : (β + 1) * 2 ^ (κ + 1) = B + 2 ^ (κ + 1) := by rw [Nat.add_mul, ← hβ1, Nat.one_mul]
  have e3 : (2 * β + 1) * 2 ^ κ = B + 2 ^ κ := by rw [Nat.add_mul, ← hβ2, Nat.one_mul]
  by_cases hperf : n = B + 2 ^ (κ + 1)
  · obtain ⟨i1, i2, _⟩ := cpath_perfect hM hs (κ + 1) β w (by omega) (by omega) (fun h => by omega)
    rw [e1, ← hβ1, ← hperf] at i1 i2
    exact ⟨i1, i2⟩
  · by_cases hm : s ≤ B + 2 ^ κ
    · obtain ⟨i1, i2, i3⟩ := cpath_perfect hM hs κ (2 * β) w (by omega) (by omega) (fun _ => by omega)
      rw [e3, ← hβ2] at i1 i2
      rw [cpath_left h2p (by omega) (by omega), path_left h2p (by omega), hκ, i1, drop_snoc _ i2, List.append_assoc]
      exact ⟨rfl, by rw [List.length_append]; omega⟩
    · obtain ⟨i1, i2⟩ := ih (n - (B + 2 ^ κ)) (by omega) κ (B + 2 ^ κ) false rfl (by rw [hβ2, Nat.mul_comm (2 * β), Nat.add_mod_right, Nat.mul_mod_right]) (by omega) (by omega) h2
      rw [cpath_right h2p (by omega) (by omega), path_right h2p (by omega), hκ, i1, drop_snoc _ i2, List.append_assoc]
      refine ⟨?_, by rw [List.length_append]; omega⟩
      have hl : l ≤ κ := by
        have h3 : (2 * β + 1) * 2 ^ κ < s := by omega
        have h4 : s < (2 * β + 1 + 1) * 2 ^ κ := by rw [Nat.add_mul (2 * β + 1), e3, Nat.one_mul]; omega
        exact Nat.le_of_lt (low_le hs h3 h4)
      have : 2 ^ l ≤ 2 ^ κ := Nat.pow_le_pow_right (by decide) hl
      rw [if_neg (by simp), if_neg (by omega)]
def upS (i l m : Nat) : List (Nat × Nat) := (List.range m).map fun t => sib i (l + t)
theorem sibs_drop (i l m : Nat) : (sibs i (l + m)).drop l = upS i l m := by
  unfold sibs upS
  rw [← List.map_drop]
  have : (List.range (l + m)).drop l = (List.range m).map (l + ·) := by
    apply List.ext_getElem
    · simp
    · intro j h1 h2; simp
  rw [this, List.map_map]; rfl
end Go.Proofs.YtielnphmcaecdaaDoor.Mth
namespace Go.Proofs.YtielnphmcaecdaaDoor.PAll
open Go.IntWalk Go.RowKit Go.Proofs.YtielnphmcaecdaaDoor.Num Go.Proofs.YtielnphmcaecdaaDoor.Mth Go.Proofs.YtielnphmcaecdaaDoorW.PrintWords Go.Proofs.YtielnphmcaecdaaDoorW.PrintLast Go.Proofs.YtielnphmcaecdaaDoorW.PrintMore
set_option linter.unusedVariables false
def skIds (i l n : Nat) : List (Nat × Nat) := ndS i l n ++ (Nds 0 (ndE i l n) n).reverse ++ (Nds 0 0 (ndB i l n)).reverse
def skBegin (i l n : Nat) : Nat := if (Nds 0 (ndE i l n) n).length = 0 then 0 else ndM i l n
def skEnd (i l n : Nat) : Nat := if (Nds 0 (ndE i l n) n).length = 0 then 0 else ndM i l n + (Nds 0 (ndE i l n) n).length
end Go.Proofs.YtielnphmcaecdaaDoor.PAll
namespace Go.Proofs.YtielnphmcaecdaaDoor.PAll
open Go.RowKit Go.Proofs.YtielnphmcaecdaaDoor.Num Go.Proofs.YtielnphmcaecdaaDoor.Mth Go.Proofs.YtielnphmcaecdaaDoorW.PrintWords Go.Proofs.YtielnphmcaecdaaDoorW.PrintLast
set_option linter.unusedVariables false
theorem blk_le (i l : Nat) {s m : Nat} (h : s ≤ m) : (i / 2 ^ s + 1) * 2 ^ (l + s) ≤ (i / 2 ^ m + 1) * 2 ^ (l + m) := by
  have e : i / 2 ^ m = i / 2 ^ s / 2 ^ (m - s) := by rw [Nat.div_div_eq_div_mul, ← Nat.pow_add, show s + (m - s) = m by omega]
  have h1 : i / 2 ^ s < (i / 2 ^ s / 2 ^ (m - s) + 1) * 2 ^ (m - s) := (Nat.div_lt_iff_lt_mul (Nat.two_pow_pos _)).1 (Nat.lt_succ_self _)
  rw [e]
  calc (i / 2 ^ s + 1) * 2 ^ (l + s) ≤ ((i / 2 ^ s / 2 ^ (m - s) + 1) * 2 ^ (m - s)) * 2 ^ (l + s) := Nat.mul_le_mul_right _ h1
    _ = (i / 2 ^ s / 2 ^ (m - s) + 1) * 2 ^ (l + m) := by rw [Nat.mul_assoc, ← Nat.pow_add, show m - s + (l + s) = l + m by omega]
def nParts (c l n : Nat) : List (Nat × Nat) := (ndS c l n).map lvs ++ (if ndE c l n < n then [(ndE c l n, n)] else []) ++ (Nds 0 0 (ndB c l n)).reverse.map lvs
theorem path_node (l M s n : Nat) (hM : M % 2 = 1) (hs : s = 2 ^ l * M) (hlt : s < n) : (path (s - 1) 0 n).drop l = nParts (M - 1) l n ∧ l ≤ (path (s - 1) 0 n).length ∧ cpath s 0 n true = (if M = 1 then [] else [lvs (l, M - 1)]) ++ nParts (M - 1) l n := by
  have hp := Nat.two_pow_pos l
  have hMp : 0 < M := by omega
  have hs0 : 0 < s := by rw [hs]; exact Nat.mul_pos hp hMp
  have hdiv : ∀ t, (s - 1) / 2 ^ (l + t) = (M - 1) / 2 ^ t := by
    intro t
    have h0 : (s - 1) / 2 ^ l = M - 1 := by
      rw [hs]
      apply Nat.div_eq_of_lt_le
      · have : 2 ^ l * M = (M - 1) * 2 ^ l + 2 ^ l := by rw [Nat.mul_comm, ← Nat.succ_mul]; congr 1; omega
        omega
      · have : 2 ^ l * M = (M - 1 + 1) * 2 ^ l := by rw [Nat.mul_comm]; congr 1; omega
        have : 0 < 2 ^ l * M := Nat.mul_pos hp hMp
        show 2 ^ l * M - 1 < (M - 1).succ * 2 ^ l
        rw [show (M - 1).succ = M - 1 + 1 from rfl]
        omega
    rw [Nat.pow_add, ← Nat.div_div_eq_div_mul, h0]
  have hndiv : ∀ t, n / 2 ^ (l + t) = n / 2 ^ l / 2 ^ t := fun t => by rw [Nat.pow_add, ← Nat.div_div_eq_div_mul]
  have hMn : M - 1 < n / 2 ^ l := by
    have : M ≤ n / 2 ^ l := (Nat.le_div_iff_mul_le hp).2 (by rw [Nat.mul_comm, ← hs]; omega)
    omega
  have hff : fork (s - 1) n = l + fork (M - 1) (n / 2 ^ l) := by
    obtain ⟨j, hj⟩ : ∃ j, fork (M - 1) (n / 2 ^ l) = j + 1 := ⟨_, (Nat.succ_pred_eq_of_pos (fork_pos hMn)).symm⟩
    have a : fork (s - 1) n ≤ l + (j + 1) := fork_le.2 (by rw [hdiv, hndiv]; exact fork_le.1 (by omega))
    have b : ¬ fork (s - 1) n ≤ l + j := fun h => by
      have h1 := fork_le.1 h
      rw [hdiv, hndiv] at h1
      have := fork_le.2 h1
      omega
    omega
  have hm : fork (s - 1) n - 1 = l + ndM (M - 1) l n := by
    have := fork_pos hMn
    unfold ndM; omega
  have hPP := (path_parts (s - 1) n n n 0 (by omega) (by simp) (by have := @Nat.lt_two_pow_self n; omega) (Nat.zero_le _) (by omega)).2
  rw [hm, hdiv] at hPP
  have hC := cpath_parts hM hs n n n 0 true (by omega) (by simp) (by have := @Nat.lt_two_pow_self n; omega) hs0 hlt
  have hpath : (path (s - 1) 0 n).drop l = nParts (M - 1) l n := by
    rw [hPP, List.append_assoc, drop_snoc _ (by rw [List.length_map]; unfold sibs; simp), ← List.map_drop, sibs_drop]
    unfold nParts
    rw [List.append_assoc]
    congr 1
    congr 1
    unfold upS ndS sib
    apply List.map_congr_left
    intro t _
    rw [hdiv]
  refine ⟨hpath, hC.2, ?_⟩
  rw [hC.1, hpath]
  congr 1
  have hse : s = (M - 1 + 1) * 2 ^ l := by rw [hs, Nat.mul_comm, show M - 1 + 1 = M by omega]
  by_cases h1 : M = 1
  · rw [if_pos h1, if_pos ⟨rfl, by rw [hs, h1]; omega⟩]
  · rw [if_neg h1, if_neg (by
      rintro ⟨_, h⟩
      rw [Nat.zero_add] at h
      rw [hs] at h
      have : M = 1 := Nat.eq_of_mul_eq_mul_left hp (by rw [h, Nat.mul_one])
      exact h1 this)]
    unfold lvs
    dsimp only
    rw [← hse, show s - 2 ^ l = (M - 1) * 2 ^ l by rw [hse, Nat.add_mul]; omega]
end Go.Proofs.YtielnphmcaecdaaDoor.PAll
namespace Go.Proofs.YtielnphmcaecdaaDoor.PAll
open Go.IntWalk Go.RowKit Go.Proofs.YtielnphmcaecdaaDoor.Num Go.Proofs.YtielnphmcaecdaaDoor.Mth Go.Proofs.YtielnphmcaecdaaDoorW.PrintWords Go.Proofs.YtielnphmcaecdaaDoorW.PrintLast Go.Proofs.YtielnphmcaecdaaDoorW.PrintMore
set_option linter.unusedVariables false
theorem upB_mono {H H' : List Int → List Int → Option (List Int)} (h : ∀ a b, LeO (H a b) (H' a b)) : ∀ l s, LeO (upB_ H l s) (upB_ H' l s)
  | [], s => LeO.refl _
  | x :: xs, s => LeO.bind (h x s) (fun t => upB_mono h xs t)
def hashF (k : Nat) (a0 a1 a2 a3 a4 a5 : Int) (n b e : Nat) (l : List (List Int)) : Option (List (List Int) × Bool) :=
  (impl_texts.f k l).bind fun xs => if xs.length = n then (if b < e then upB_ (impl_toy_HashChildren.f k a0 a1 a2 a3 a4 a5) ((xs.take e).drop (b + 1)) (xs.getD b []) else some []).bind fun f => (impl_texts.f k (rehL b e xs f)).bind fun r => some (r, true)
    else (impl_texts.f k []).bind fun r => some (r, false)
theorem hashF_mono (k : Nat) (a0 a1 a2 a3 a4 a5 : Int) (n b e : Nat) (l : List (List Int)) : LeO (hashF k a0 a1 a2 a3 a4 a5 n b e l) (hashF (k + 1) a0 a1 a2 a3 a4 a5 n b e l) := by
  unfold hashF
  refine LeO.bind (impl_texts.mono _ _) (fun x => LeO.ite (LeO.bind (LeO.ite (upB_mono (fun a b => impl_toy_HashChildren.mono _ _ _ _ _ _ _ _ _) _ _) (LeO.refl _)) (fun f => LeO.bind (impl_texts.mono _ _) (fun r => LeO.refl _))) (LeO.bind (impl_texts.mono _ _) (fun r => LeO.refl _)))
def conPlan (s n : Nat) : List (Nat × Nat) × Nat × Nat :=
  if s = n ∨ s = 0 then ([], 0, 0) else if s / 2 ^ lev s (2 * s) = 1 then (skIds (s / 2 ^ lev s (2 * s) - 1) (lev s (2 * s)) n, skBegin (s / 2 ^ lev s (2 * s) - 1) (lev s (2 * s)) n, skEnd (s / 2 ^ lev s (2 * s) - 1) (lev s (2 * s)) n)
    else (ndIds (s / 2 ^ lev s (2 * s) - 1) (lev s (2 * s)) n, ndBegin (s / 2 ^ lev s (2 * s) - 1) (lev s (2 * s)) n, ndEnd (s / 2 ^ lev s (2 * s) - 1) (lev s (2 * s)) n)
theorem lev_odd {s : Nat} (h : 0 < s) : s = 2 ^ lev s (2 * s) * (s / 2 ^ lev s (2 * s)) ∧ s / 2 ^ lev s (2 * s) % 2 = 1 := by
  obtain ⟨h1, h2, h3⟩ := lev_spec s (2 * s) (by omega)
  have e : s = 2 ^ lev s (2 * s) * (s / 2 ^ lev s (2 * s)) := by
    have := Nat.div_add_mod s (2 ^ lev s (2 * s)); omega
  refine ⟨e, ?_⟩
  rcases Nat.mod_two_eq_zero_or_one (s / 2 ^ lev s (2 * s)) with h4 | h4
  · exfalso
    obtain ⟨q, hq⟩ : ∃ q, s / 2 ^ lev s (2 * s) = 2 * q := ⟨s / 2 ^ lev s (2 * s) / 2, by omega⟩
    have e2 : s = 2 ^ (lev s (2 * s) + 1) * q := by
      rw [Nat.pow_succ, Nat.mul_assoc, ← hq]; exact e
    have h5 : s % 2 ^ (lev s (2 * s) + 1) = 0 := by
      have := Nat.mul_mod_right (2 ^ (lev s (2 * s) + 1)) q
      rw [← e2] at this; exact this
    have h6 := h3 h5
    have hq0 : 0 < q := by
      rcases Nat.eq_zero_or_pos q with h | h
      · rw [h, Nat.mul_zero] at e2; omega
      · exact h
    have : 2 ^ (lev s (2 * s) + 1) ≤ 2 ^ (lev s (2 * s) + 1) * q := Nat.le_mul_of_pos_right _ hq0
    omega
  · exact h4
theorem odd_pos {M : Nat} (h : M % 2 = 1) : 1 ≤ M := by omega
theorem lev_facts {s n : Nat} (h : 0 < s) (hlt : s < n) (hn : n < 18446744073709551616) : lev s (2 * s) ≤ 63 ∧ s / 2 ^ lev s (2 * s) - 1 < n / 2 ^ lev s (2 * s) := by
  obtain ⟨e, ho⟩ := lev_odd h
  have hp := Nat.two_pow_pos (lev s (2 * s))
  constructor
  · apply Nat.le_of_not_lt; intro h1
    have h2 := Nat.pow_le_pow_right (n := 2) (by decide) (show 64 ≤ lev s (2 * s) by omega)
    have h3 : 2 ^ lev s (2 * s) ≤ s := Nat.le_trans (Nat.le_mul_of_pos_right _ (odd_pos ho)) (Nat.le_of_eq e.symm)
    have : 2 ^ 64 = 18446744073709551616 := by decide
    omega
  · have h3 : s / 2 ^ lev s (2 * s) ≤ n / 2 ^ lev s (2 * s) := Nat.div_le_div_right (Nat.le_of_lt hlt)
    have h4 : 1 ≤ s / 2 ^ lev s (2 * s) := odd_pos ho
    exact Nat.lt_of_lt_of_le (Nat.sub_lt h4 Nat.one_pos) h3
def impl_InclusionHashes.f (k : Nat) (a0 a1 a2 a3 a4 a5 x1 x2 : Int) (l : List (List Int)) : Option (List (List Int) × Bool) :=
  if x2 ≤ x1 then some ([], false) else if 0 ≤ x1 ∧ x2 < 18446744073709551616 then hashF k a0 a1 a2 a3 a4 a5 (incIds x1.toNat x2.toNat).length (incBegin x1.toNat x2.toNat) (incEnd x1.toNat x2.toNat) l else none
theorem impl_InclusionHashes.mono : ∀ a0 a1 a2 a3 a4 a5 x1 x2 l k, LeO (impl_InclusionHashes.f k a0 a1 a2 a3 a4 a5 x1 x2 l) (impl_InclusionHashes.f (k + 1) a0 a1 a2 a3 a4 a5 x1 x2 l) := by
  intro a0 a1 a2 a3 a4 a5 x1 x2 l k
  unfold impl_InclusionHashes.f
  exact LeO.ite (LeO.refl _) (LeO.ite (hashF_mono _ _ _ _ _ _ _ _ _ _ _) (LeO.refl _))
def impl_ConsistencyHashes.f (k : Nat) (a0 a1 a2 a3 a4 a5 x1 x2 : Int) (l : List (List Int)) : Option (List (List Int) × Bool) :=
  if x2 < x1 then some ([], false) else if 0 ≤ x1 ∧ x2 < 18446744073709551616 then hashF k a0 a1 a2 a3 a4 a5 (conPlan x1.toNat x2.toNat).1.length (conPlan x1.toNat x2.toNat).2.1 (conPlan x1.toNat x2.toNat).2.2 l else none
theorem impl_ConsistencyHashes.mono : ∀ a0 a1 a2 a3 a4 a5 x1 x2 l k, LeO (impl_ConsistencyHashes.f k a0 a1 a2 a3 a4 a5 x1 x2 l) (impl_ConsistencyHashes.f (k + 1) a0 a1 a2 a3 a4 a5 x1 x2 l) := by
  intro a0 a1 a2 a3 a4 a5 x1 x2 l k
  unfold impl_ConsistencyHashes.f
  exact LeO.ite (LeO.refl _) (LeO.ite (hashF_mono _ _ _ _ _ _ _ _ _ _ _) (LeO.refl _))
end Go.Proofs.YtielnphmcaecdaaDoor.PAll
namespace Go.Proofs.YtielnphmcaecdaaDoor.PAll
open Go.IntWalk Go.RowKit Go.Proofs.YtielnphmcaecdaaDoorW.PrintWords Go.Proofs.YtielnphmcaecdaaDoorW.PrintLast Go.Proofs.YtielnphmcaecdaaDoorW.PrintMore
set_option linter.unusedVariables false
set_option linter.unusedSimpArgs false
def TxF (ok : Nat → Prop) (w : World) (s : SH) (b : List Int) : Prop := s.2.1 = b.length ∧ b.length ≤ s.2.2 ∧ Kd.F (Kd.int .u8) w ok s.1 b.length b
theorem TxF.below {ok : Nat → Prop} {w w' : World} {s : SH} {b : List Int} (h : TxF ok w s b) (hb : Below w.heap.size w w') : TxF ok w' s b := ⟨h.1, h.2.1, Kd.F_below h.2.2 hb⟩
theorem TxF.mono {ok ok' : Nat → Prop} {w : World} {s : SH} {b : List Int} (h : TxF ok w s b) (hk : ∀ k, ok k → ok' k) : TxF ok' w s b := ⟨h.1, h.2.1, Kd.F_mono h.2.2 hk⟩
theorem TxF.step {ok : Nat → Prop} {w w' : World} {s : SH} {b : List Int} (h : TxF ok w s b) (hm : ∀ k, ok k → k < w.heap.size → w'.heap[k]? = w.heap[k]?) : TxF ok w' s b := ⟨h.1, h.2.1, Kd.F_step h.2.2 hm⟩
theorem TxF.at {ok : Nat → Prop} {w : World} {A : Option Addr} {n c : Nat} {b : List Int} (h : TxF ok w (A, n, c) b) : n = b.length ∧ b.length ≤ c ∧ Kd.C (Kd.int .u8) w A b.length b := ⟨h.1, h.2.1, Kd.F_now h.2.2⟩
def spec_Folded.f (k : Nat) (a0 a1 a2 a3 a4 a5 : Int) (l1 : List S49) (b1 b2 b3 b4 : Int) (l2 : List (List Int)) : Option (List (List Int)) :=
  if b3 = b4 then some l2 else if 0 ≤ b3 ∧ b3 < b4 ∧ b4 ≤ l2.length ∧ l2.length < 1000000000000 then (upB_ (spec_HashChildren.f k a0 a1 a2 a3 a4 a5) ((l2.take b4.toNat).drop (b3.toNat + 1)) (l2.getD b3.toNat [])).bind fun f => some (l2.take b3.toNat ++ f :: l2.drop b4.toNat) else none
theorem upB_mono' {H H' : List Int → List Int → Option (List Int)} (h : ∀ a b, LeO (H a b) (H' a b)) : ∀ l s, LeO (upB_ H l s) (upB_ H' l s)
  | [], s => LeO.refl _
  | x :: xs, s => LeO.bind (h x s) (fun t => upB_mono' h xs t)
theorem spec_Folded.mono : ∀ a0 a1 a2 a3 a4 a5 l1 b1 b2 b3 b4 l2 k, LeO (spec_Folded.f k a0 a1 a2 a3 a4 a5 l1 b1 b2 b3 b4 l2) (spec_Folded.f (k + 1) a0 a1 a2 a3 a4 a5 l1 b1 b2 b3 b4 l2) := by
  intro a0 a1 a2 a3 a4 a5 l1 b1 b2 b3 b4 l2 k
  unfold spec_Folded.f
  exact LeO.ite (LeO.refl _) (LeO.ite (LeO.bind (upB_mono' (fun a b => spec_HashChildren.mono _ _ _ _ _ _ _ _ _) _ _) (fun f => LeO.refl _)) (LeO.refl _))
end Go.Proofs.YtielnphmcaecdaaDoor.PAll
namespace Go.Proofs.YtielnphmcaecdaaDoor.Hsh
open Go.RowKit Go.Proofs.YtielnphmcaecdaaDoor.Num Go.Proofs.YtielnphmcaecdaaDoor.PAll Go.Proofs.YtielnphmcaecdaaDoorW.PrintWords Go.Proofs.YtielnphmcaecdaaDoorW.PrintLast
set_option linter.unusedVariables false
theorem lift {α : Type} {F : Nat → Option α} (hm : ∀ k, LeO (F k) (F (k + 1))) {k : Nat} {r : α} (h : F k = some r) : ∀ {K : Nat}, k ≤ K → F K = some r := by
  intro K hK
  obtain ⟨d, rfl⟩ := Nat.exists_eq_add_of_le hK
  clear hK
  induction d with
  | zero => exact h
  | succ d ih => exact hm _ _ ih
theorem next64 {i : Nat} (h : i < 9223372036854775807) : wrap64 ((i : Int) + 1) = ((i + 1 : Nat) : Int) := by unfold wrap64; omega
theorem drop_rd1 {l : List Int} {i : Nat} (h : i < l.length) : l.drop i = rd l (i : Int) :: l.drop (i + 1) := by
  rw [List.drop_eq_getElem_cons h]
  congr 1
  show _ = l.getD i 0
  rw [List.getD_eq_getElem?_getD, List.getElem?_eq_getElem h]; rfl
def step (x b : Int) : Int := IntKind.u64.wrap ((Go.bits .xor .u64 x (IntKind.u64.wrap b)) * 1099511628211)
def mix (x : Int) (l : List Int) : Int := l.foldl step x
theorem impl_mixed_loop (l : List Int) (hl : l.length < 9223372036854775807) (d : Nat) : ∀ i x, i + d = l.length →
    impl_mixed.l0 (d + 1) x l (l.length : Int) (i : Int) = some (mix x (l.drop i)) := by
  induction d with
  | zero => intro i x hi; rw [impl_mixed.l0, if_neg (by omega), List.drop_of_length_le (by omega)]; rfl
  | succ d ih =>
    intro i x hi
    rw [impl_mixed.l0, if_pos (by omega), if_pos (by omega), if_pos (by omega), next64 (by omega), ih (i + 1) _ (by omega), drop_rd1 (show i < l.length by omega)]
    rfl
theorem impl_mixed_eq (l : List Int) (x : Int) (hl : l.length < 9223372036854775807) {k : Nat} (hk : l.length < k) : impl_mixed.f k x l = some (mix x l) :=
  lift (fun k => impl_mixed.mono x l k) (impl_mixed_loop l hl l.length 0 x (by omega)) hk
def byt (w : Int) (i : Nat) : Int := shr .u64 w ((8 * i : Nat) : Int) % 256
def wrd (w : Int) : Nat → List Int
  | 0 => []
  | n + 1 => byt w n :: wrd w n
theorem wrd_length (w : Int) : ∀ n, (wrd w n).length = n
  | 0 => rfl
  | n + 1 => by rw [wrd, List.length_cons, wrd_length w n]
theorem eight {i : Nat} (h : i ≤ 8) : wrap64 (8 * (i : Int)) = ((8 * i : Nat) : Int) := by unfold wrap64; omega
theorem set_at (d : Nat) (b : Int) (l : List Int) : (List.replicate (d + 1) 0 ++ l).set d b = List.replicate d 0 ++ (b :: l) := by
  induction d with
  | zero => rfl
  | succ d ih => rw [List.replicate_succ, List.cons_append, List.set_cons_succ, ih, List.replicate_succ, List.cons_append]
theorem impl_word_loop (w : Int) (n : Nat) (hn : n ≤ 8) (d : Nat) : ∀ i, i + d = n →
    impl_word.l0 (d + 1) w (n : Int) (List.replicate d 0 ++ wrd w i) (n : Int) (i : Int) = some (wrd w n) := by
  induction d with
  | zero =>
    intro i hi
    have e : i = n := by omega
    rw [impl_word.l0, if_neg (by omega), e]; rfl
  | succ d ih =>
    intro i hi
    have e1 : wrap64 (wrap64 ((n : Int) - 1) - (i : Int)) = (d : Int) := by unfold wrap64; omega
    rw [impl_word.l0, if_pos (by omega), eight (by omega), if_pos (by omega), e1, if_pos (by omega), if_pos (by rw [List.length_append, List.length_replicate]; omega), next64 (by omega), Int.toNat_natCast, set_at]
    exact ih (i + 1) (by omega)
def nb (a : Int) : Nat := if a < 1 ∨ a > 8 then 8 else a.toNat
theorem nb_le (a : Int) : nb a ≤ 8 := by unfold nb; split <;> omega
theorem impl_word_j1 (w : Int) (n : Nat) (hn : n ≤ 8) (k : Nat) (hk : 10 ≤ k) : impl_word.j1 k w (n : Int) = some (wrd w n) := by
  obtain ⟨k, rfl⟩ : ∃ k', k = k' + 1 := ⟨k - 1, by omega⟩
  rw [impl_word.j1, if_pos (by omega), if_pos (by rw [Int.toNat_natCast]; omega), Option.bind_some, List.length_replicate, Int.toNat_natCast]
  refine lift (F := fun k => impl_word.l0 k w (n : Int) (List.replicate n 0) (n : Int) 0) (fun k => (impl_word.mono_l k).2.2 _ _ _ _ _) (k := n + 1) ?_ (by omega)
  have := impl_word_loop w n hn n 0 (by omega)
  rw [wrd, List.append_nil] at this
  exact this
theorem impl_word_eq (w a : Int) {k : Nat} (hk : 20 ≤ k) : impl_word.f k w a = some (wrd w (nb a)) := by
  obtain ⟨k, rfl⟩ : ∃ k', k = k' + 1 := ⟨k - 1, by omega⟩
  unfold impl_word.f
  by_cases h : a < 1
  · rw [if_pos h, impl_word.j0, if_pos rfl, show nb a = 8 by unfold nb; rw [if_pos (.inl h)]]
    exact impl_word_j1 w 8 (by omega) k (by omega)
  · rw [if_neg h, impl_word.j0]
    by_cases h2 : a > 8
    · rw [if_pos (decide_eq_true h2), show nb a = 8 by unfold nb; rw [if_pos (.inr h2)]]
      exact impl_word_j1 w 8 (by omega) k (by omega)
    · rw [if_neg (by rw [decide_eq_false h2]; decide)]
      have e : a = ((nb a : Nat) : Int) := by unfold nb; rw [if_neg (by omega)]; omega
      have := impl_word_j1 w (nb a) (nb_le a) k (by omega)
      rw [← e] at this; exact this
theorem spec_word_l1 (x : Int) : ∀ (j : Nat) (acc : List Int), j ≤ 8 → acc.length + j ≤ 100 → spec_word.l1 (j + 1) x acc ((j : Int) - 1) = some (acc ++ wrd x j)
  | 0, acc, _, _ => by rw [spec_word.l1, if_neg (by omega), wrd, List.append_nil]
  | j + 1, acc, hj, ha => by
    have e : ((j + 1 : Nat) : Int) - 1 = (j : Int) := by omega
    have e2 : wrap64 ((j : Int) - 1) = (j : Int) - 1 := by unfold wrap64; omega
    rw [spec_word.l1, e, if_pos (by omega), eight (by omega), if_pos (by omega), if_pos (by omega), e2, spec_word_l1 x j _ (by omega) (by rw [List.length_append]; simp only [List.length_singleton]; omega), wrd, List.append_assoc]
    rfl
theorem spec_word_j2 (x : Int) (n : Nat) (hn : n ≤ 8) (k : Nat) (hk : 10 ≤ k) : spec_word.j2 k x (n : Int) = some (wrd x n) := by
  obtain ⟨k, rfl⟩ : ∃ k', k = k' + 1 := ⟨k - 1, by omega⟩
  have e : wrap64 ((n : Int) - 1) = (n : Int) - 1 := by unfold wrap64; omega
  rw [spec_word.j2, e]
  exact lift (F := fun k => spec_word.l1 k x [] ((n : Int) - 1)) (fun k => (spec_word.mono_l k).2.2.2 _ _ _) (spec_word_l1 x n [] hn (by simp only [List.length_nil]; omega)) (by omega)
theorem spec_word_end (x a : Int) (k : Nat) (hk : 20 ≤ k) : (if a < 1 then (spec_word.j1 k x a true) else (spec_word.j1 k x a (decide (a > 8)))) = some (wrd x (nb a)) := by
  obtain ⟨k, rfl⟩ : ∃ k', k = k' + 1 := ⟨k - 1, by omega⟩
  by_cases h : a < 1
  · rw [if_pos h, spec_word.j1, if_pos rfl, show nb a = 8 by unfold nb; rw [if_pos (.inl h)]]
    exact spec_word_j2 x 8 (by omega) k (by omega)
  · rw [if_neg h, spec_word.j1]
    by_cases h2 : a > 8
    · rw [if_pos (decide_eq_true h2), show nb a = 8 by unfold nb; rw [if_pos (.inr h2)]]
      exact spec_word_j2 x 8 (by omega) k (by omega)
    · rw [if_neg (by rw [decide_eq_false h2]; decide)]
      have e : a = ((nb a : Nat) : Int) := by unfold nb; rw [if_neg (by omega)]; omega
      have := spec_word_j2 x (nb a) (nb_le a) k (by omega)
      rw [← e] at this; exact this
theorem spec_word_loop (l : List Int) (hl : l.length < 9223372036854775807) (a0 a1 a2 a3 a4 a5 : Int) (d : Nat) : ∀ i x, i + d = l.length →
    spec_word.l0 (d + 21) x l (l.length : Int) (i : Int) a0 a1 a2 a3 a4 a5 = some (wrd (mix x (l.drop i)) (nb a2)) := by
  induction d with
  | zero =>
    intro i x hi
    rw [spec_word.l0, if_neg (by omega), List.drop_of_length_le (by omega)]
    exact spec_word_end x a2 20 (by omega)
  | succ d ih =>
    intro i x hi
    rw [show d + 1 + 21 = (d + 21) + 1 by omega, spec_word.l0, if_pos (by omega), if_pos (by omega), if_pos (by omega), next64 (by omega), ih (i + 1) _ (by omega), drop_rd1 (show i < l.length by omega)]
    rfl
theorem spec_word_eq (a0 a1 a2 a3 a4 a5 x : Int) (l : List Int) (hl : l.length < 9223372036854775807) {k : Nat} (hk : l.length + 21 ≤ k) :
    spec_word.f k a0 a1 a2 a3 a4 a5 x l = some (wrd (mix x l) (nb a2)) :=
  lift (fun k => spec_word.mono a0 a1 a2 a3 a4 a5 x l k) (spec_word_loop l hl a0 a1 a2 a3 a4 a5 l.length 0 x (by omega)) hk
def hash (a0 a2 a5 : Int) (l r : List Int) : List Int :=
  if a0 = 1 then wrd (mix (mix (mix a5 l) [255]) r) (nb a2) else [1] ++ wrd (IntKind.u64.wrap (l.length : Int)) 8 ++ l ++ r
theorem hash_le (a0 a2 a5 : Int) (l r : List Int) : (hash a0 a2 a5 l r).length ≤ 9 + l.length + r.length := by
  unfold hash
  have := nb_le a2
  split
  · rw [wrd_length]; omega
  · simp only [List.length_append, wrd_length, List.length_singleton]; omega
theorem impl_hash (a0 a1 a2 a3 a4 a5 : Int) (l r : List Int) (hl : l.length ≤ 1000000000000) (hr : r.length ≤ 1000000000000) {k : Nat} (hk : l.length + r.length + 30 ≤ k) :
    impl_toy_HashChildren.f k a0 a1 a2 a3 a4 a5 l r = some (hash a0 a2 a5 l r) := by
  unfold impl_toy_HashChildren.f hash
  by_cases h : a0 = 1
  · rw [if_pos h, if_pos h, impl_mixed_eq l a5 (by omega) (by omega), Option.bind_some, impl_mixed_eq _ _ (by simp only [List.length_singleton]; omega) (by simp only [List.length_singleton]; omega), Option.bind_some, impl_mixed_eq _ _ (by omega) (by omega), Option.bind_some, impl_word_eq _ _ (by omega), Option.bind_some]
  · rw [if_neg h, if_neg h, Option.bind_some, impl_word_eq _ _ (by omega), Option.bind_some]
    have e : nb 8 = 8 := by decide
    rw [e, if_pos (by simp only [List.length_singleton, wrd_length]; omega), Option.bind_some, if_pos (by simp only [List.length_append, List.length_singleton, wrd_length]; omega), Option.bind_some, if_pos (by simp only [List.length_append, List.length_singleton, wrd_length]; omega)]
theorem spec_hash_loop (l r : List Int) (hl : l.length ≤ 1000000000000) (hr : r.length ≤ 1000000000000) : ∀ (j : Nat) (acc : List Int), j ≤ 8 → acc.length + j ≤ 100 →
    spec_HashChildren.l0 (j + 1) l r acc (8 * (j : Int) - 8) = some (acc ++ wrd (IntKind.u64.wrap (l.length : Int)) j ++ l ++ r)
  | 0, acc, _, ha => by
    rw [spec_HashChildren.l0, if_neg (by omega), if_pos (by omega), Option.bind_some, if_pos (by rw [List.length_append]; omega), wrd, List.append_nil]
  | j + 1, acc, hj, ha => by
    have e : 8 * ((j + 1 : Nat) : Int) - 8 = ((8 * j : Nat) : Int) := by omega
    have e2 : wrap64 (((8 * j : Nat) : Int) - 8) = 8 * (j : Int) - 8 := by unfold wrap64; omega
    rw [spec_HashChildren.l0, e, if_pos (by omega), if_pos (by omega), Option.bind_some, if_pos (by simp only [List.length_singleton]; omega), e2, spec_hash_loop l r hl hr j _ (by omega) (by rw [List.length_append]; simp only [List.length_singleton]; omega), wrd]
    show _ = some (acc ++ ([byt _ j] ++ wrd _ j) ++ l ++ r)
    rw [List.append_assoc acc]
    rfl
theorem spec_hash (a0 a1 a2 a3 a4 a5 : Int) (l r : List Int) (hl : l.length ≤ 1000000000000) (hr : r.length ≤ 1000000000000) {k : Nat} (hk : l.length + r.length + 30 ≤ k) :
    spec_HashChildren.f k a0 a1 a2 a3 a4 a5 l r = some (hash a0 a2 a5 l r) := by
  unfold spec_HashChildren.f spec_Terms.f hash
  rw [Option.bind_some]
  by_cases h : a0 = 1
  · rw [if_neg (by subst h; decide), if_pos h, Option.bind_some, if_pos (by simp only [List.length_nil]; omega), Option.bind_some, Option.bind_some, List.nil_append, if_pos (by simp only [List.length_singleton]; omega), Option.bind_some, if_pos (by simp only [List.length_append, List.length_singleton]; omega), spec_word_eq _ _ _ _ _ _ _ _ (by simp only [List.length_append, List.length_singleton]; omega) (by simp only [List.length_append, List.length_singleton]; omega), Option.bind_some]
    unfold mix
    rw [List.foldl_append, List.foldl_append]
  · rw [if_pos (by exact bne_iff_ne.mpr h), if_neg h]
    exact lift (F := fun k => spec_HashChildren.l0 k l r [1] 56) (fun k => spec_HashChildren.mono_l k _ _ _ _) (spec_hash_loop l r hl hr 8 [1] (by omega) (by simp only [List.length_singleton]; omega)) (by omega)
end Go.Proofs.YtielnphmcaecdaaDoor.Hsh
namespace Go.Proofs.YtielnphmcaecdaaDoor.Hsh
open Go.RowKit Go.Proofs.YtielnphmcaecdaaDoor.Num Go.Proofs.YtielnphmcaecdaaDoor.PAll Go.Proofs.YtielnphmcaecdaaDoorW.PrintWords Go.Proofs.YtielnphmcaecdaaDoorW.PrintLast
set_option linter.unusedVariables false
theorem rdL (l : List (List Int)) (i : Nat) : rd_L1 l (i : Int) = l.getD i [] := rfl
theorem take_at {α : Type} (l : List α) (i : Nat) (d : α) (h : i < l.length) : l.take (i + 1) = l.take i ++ [l.getD i d] := by
  rw [List.getD_eq_getElem?_getD, List.getElem?_eq_getElem h, Option.getD_some, List.take_succ_eq_append_getElem h]
theorem fits_loop (l : List (List Int)) (hl : l.length ≤ 2147483647) (d : Nat) : ∀ i, i + d = l.length → (∀ j, j < i → (l.getD j []).length ≤ 2147483647) →
    ∃ z, laws_zzFits2.l0 (d + 1) l (l.length : Int) (i : Int) = some z ∧ (z = true → ∀ j, j < l.length → (l.getD j []).length ≤ 2147483647) := by
  induction d with
  | zero =>
    intro i hi hj
    exact ⟨true, by rw [laws_zzFits2.l0, if_neg (by omega)], fun _ j h => hj j (by omega)⟩
  | succ d ih =>
    intro i hi hj
    rw [laws_zzFits2.l0, if_pos (by omega), if_pos (by omega), if_pos (by omega), rdL]
    by_cases h : ((l.getD i []).length : Int) > 2147483647
    · rw [if_pos h]; exact ⟨false, rfl, fun h => by cases h⟩
    · rw [if_neg h, next64 (by omega)]
      exact ih (i + 1) (by omega) (fun j h2 => by
        by_cases e : j = i
        · subst e; omega
        · exact hj j (by omega))
theorem fits (l : List (List Int)) : ∃ z k, laws_zzFits2.f k l = some z ∧ (z = true → l.length ≤ 2147483647 ∧ ∀ j, j < l.length → (l.getD j []).length ≤ 2147483647) := by
  by_cases h : (l.length : Int) > 2147483647
  · exact ⟨false, 0, by unfold laws_zzFits2.f; rw [if_pos h], fun h => by cases h⟩
  · obtain ⟨z, hz, hb⟩ := fits_loop l (by omega) l.length 0 (by omega) (fun j h => absurd h (by omega))
    exact ⟨z, l.length + 1, by unfold laws_zzFits2.f; rw [if_neg h]; exact hz, fun e => ⟨by omega, hb e⟩⟩
theorem small_loop (l : List (List Int)) (hl : l.length ≤ 2147483647) (d : Nat) : ∀ i, i + d = l.length → (∀ j, j < i → (l.getD j []).length ≤ 5000) →
    ∃ z, laws_logSmall.l0 (d + 1) l l (l.length : Int) (i : Int) = some z ∧ (z = true → l.length ≤ 300 ∧ ∀ j, j < l.length → (l.getD j []).length ≤ 5000) := by
  induction d with
  | zero =>
    intro i hi hj
    exact ⟨decide ((l.length : Int) ≤ 300), by rw [laws_logSmall.l0, if_neg (by omega)], fun h => ⟨by have := of_decide_eq_true h; omega, fun j h => hj j (by omega)⟩⟩
  | succ d ih =>
    intro i hi hj
    rw [laws_logSmall.l0, if_pos (by omega), if_pos (by omega), if_pos (by omega), rdL]
    by_cases h : ((l.getD i []).length : Int) > 5000
    · rw [if_pos h]; exact ⟨false, rfl, fun h => by cases h⟩
    · rw [if_neg h, next64 (by omega)]
      exact ih (i + 1) (by omega) (fun j h2 => by
        by_cases e : j = i
        · subst e; omega
        · exact hj j (by omega))
theorem small (l : List (List Int)) (hl : l.length ≤ 2147483647) : ∃ z, laws_logSmall.f (l.length + 1) l = some z ∧ (z = true → l.length ≤ 300 ∧ ∀ j, j < l.length → (l.getD j []).length ≤ 5000) :=
  small_loop l hl l.length 0 (by omega) (fun j h => absurd h (by omega))
theorem texts_loop (l : List (List Int)) (hl : l.length ≤ 2147483647) (hb : ∀ j, j < l.length → (l.getD j []).length ≤ 2147483647) (d : Nat) : ∀ i, i + d = l.length →
    impl_texts.l0 (d + 1) (l.take i) l (l.length : Int) (i : Int) = some l := by
  induction d with
  | zero =>
    intro i hi
    rw [impl_texts.l0, if_neg (by omega), List.take_of_length_le (by omega)]
  | succ d ih =>
    intro i hi
    have h1 := hb i (by omega)
    have h2 : (l.take i).length < 5864062014805 := by rw [List.length_take]; omega
    rw [impl_texts.l0, if_pos (by omega), if_pos (by omega), if_pos (by omega), Option.bind_some, if_pos (by rw [rdL]; simp only [List.length_nil]; omega), if_pos h2, next64 (by omega), List.nil_append, rdL, ← take_at l i [] (by omega)]
    exact ih (i + 1) (by omega)
theorem texts_eq (l : List (List Int)) (hl : l.length ≤ 2147483647) (hb : ∀ j, j < l.length → (l.getD j []).length ≤ 2147483647) {k : Nat} (hk : l.length < k) : impl_texts.f k l = some l :=
  lift (fun k => impl_texts.mono l k) (texts_loop l hl hb l.length 0 (by omega)) hk
end Go.Proofs.YtielnphmcaecdaaDoor.Hsh
namespace Go.Proofs.YtielnphmcaecdaaDoor.PAll
open Go.RowKit Go.Proofs.YtielnphmcaecdaaDoorW.PrintWords Go.Proofs.YtielnphmcaecdaaDoorW.PrintLast Go.Proofs.YtielnphmcaecdaaDoorW.PrintMore
attribute [local go_sem] max2_int min2_int max_two min_two max_three min_three max_four min_four   -- for this text's walks alone
set_option linter.unusedVariables false
set_option linter.unusedSimpArgs false
def laws_logCopy.l0 : Nat → List (List Int) → List (List Int) → Int → Int → Option ((List (List Int)))
  | 0, _, _, _, _ => none
  | k + 1, x3, x6, x7, x8 => if x8 < x7 then (if 0 ≤ x8 then (if x8 < (x6.length : Int) then ((some (([] : List Int) : List Int)).bind fun y643 => (if y643.length + (rd_L1 x6 x8).length < 140737488355328 then (if x3.length < 5864062014805 then (laws_logCopy.l0 k (x3 ++ [(y643 ++ (rd_L1 x6 x8))]) x6 x7 (wrap64 (x8 + 1))) else (none)) else (none))) else (none)) else (none)) else (some x3)
def laws_logCopy.f (k : Nat) (l0 : List (List Int)) : Option ((List (List Int))) := laws_logCopy.l0 k ([] : List (List Int)) l0 (l0.length : Int) 0
theorem laws_logCopy.mono_l : ∀ k, (∀ y0 y1 y2 y3, LeO (laws_logCopy.l0 k y0 y1 y2 y3) (laws_logCopy.l0 (k + 1) y0 y1 y2 y3))
  | 0 => fun _ _ _ _ r h => by simp [laws_logCopy.l0] at h
  | k + 1 => by
    have ih0 := laws_logCopy.mono_l k
    · intro y0 y1 y2 y3
      unfold laws_logCopy.l0
      repeat' first
      | (with_reducible exact ih0 _ _ _ _)
      | (with_reducible exact LeO.refl _)
      | (with_reducible exact LeO.none _)
      | (with_reducible refine LeO.ite ?_ ?_)
      | (with_reducible refine LeO.bind ?_ (fun _ => ?_))
      | exact ih0 _ _ _ _
      | exact LeO.none _
      | refine LeO.ite ?_ ?_
      | refine LeO.bind ?_ (fun _ => ?_)
theorem laws_logCopy.mono : ∀ a0 k, LeO (laws_logCopy.f k a0) (laws_logCopy.f (k + 1) a0) := by
  intro a0 k
  have ih0 := laws_logCopy.mono_l k
  unfold laws_logCopy.f
  repeat' first
      | (with_reducible exact ih0 _ _ _ _)
      | (with_reducible exact LeO.refl _)
      | (with_reducible exact LeO.none _)
      | (with_reducible refine LeO.ite ?_ ?_)
      | (with_reducible refine LeO.bind ?_ (fun _ => ?_))
      | exact ih0 _ _ _ _
      | exact LeO.none _
      | refine LeO.ite ?_ ?_
      | refine LeO.bind ?_ (fun _ => ?_)
end Go.Proofs.YtielnphmcaecdaaDoor.PAll
namespace Go.Proofs.YtielnphmcaecdaaDoor.PAll
open Go.RowKit Go.Proofs.YtielnphmcaecdaaDoor.Num Go.Proofs.YtielnphmcaecdaaDoor.Mth Go.Proofs.YtielnphmcaecdaaDoor.Hsh Go.Proofs.YtielnphmcaecdaaDoorW.PrintWords Go.Proofs.YtielnphmcaecdaaDoorW.PrintLast
set_option linter.unusedVariables false
set_option linter.unusedSimpArgs false
def bord (H : List Int → List Int → List Int) : List (List Int) → List Int → List Int
  | [], s => s
  | x :: xs, s => bord H xs (H x s)
theorem upB_eq (F : List Int → List Int → Option (List Int)) (H : List Int → List Int → List Int) (hH : ∀ l r, (H l r).length ≤ 9 + l.length + r.length) (hF : ∀ l r, l.length ≤ 1000000000 → r.length ≤ 1000000000 → F l r = some (H l r)) (m : Nat) (hm : m ≤ 1000000000) :
    ∀ (l : List (List Int)) (s : List Int), (∀ x ∈ l, x.length ≤ m) → s.length + (m + 9) * l.length ≤ 1000000000 → upB_ F l s = some (bord H l s)
  | [], s, _, _ => rfl
  | x :: l, s, h, hs => by
    have h2 := hH x s
    have h3 := h x List.mem_cons_self
    rw [List.length_cons, Nat.mul_succ] at hs
    rw [upB_, hF x s (by omega) (by omega), Option.bind_some]
    exact upB_eq F H hH hF m hm l (H x s) (fun y hy => h y (List.mem_cons_of_mem _ hy)) (by omega)
theorem impl_H (a0 a1 a2 a3 a4 a5 : Int) {k : Nat} (hk : 2000000100 ≤ k) : ∀ l r : List Int, l.length ≤ 1000000000 → r.length ≤ 1000000000 → impl_toy_HashChildren.f k a0 a1 a2 a3 a4 a5 l r = some (hash a0 a2 a5 l r) :=
  fun l r hl hr => impl_hash a0 a1 a2 a3 a4 a5 l r (by omega) (by omega) (by omega)
theorem texts_mem (l : List (List Int)) (hl : l.length ≤ 2147483647) (hb : ∀ x ∈ l, x.length ≤ 2147483647) {k : Nat} (hk : l.length < k) : impl_texts.f k l = some l :=
  texts_eq l hl (fun j hj => by rw [List.getD_eq_getElem?_getD, List.getElem?_eq_getElem hj]; exact hb _ (List.getElem_mem hj)) hk
end Go.Proofs.YtielnphmcaecdaaDoor.PAll
