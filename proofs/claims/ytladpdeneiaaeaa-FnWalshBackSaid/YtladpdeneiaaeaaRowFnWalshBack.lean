/-
  FnWalshBack: the statement FnWalshBackSaid is proved here: for every input the law answers true, and each argument reads afterwards as it read before. The law in words: the Walsh-Hadamard transform of the transform is, modulo 255, the list itself, and the transform of a sum is the sum of the transforms (256 numbers each).
  Conditions: none of ours beyond the row's own.
-/
import Derived.Test.YtladpdeneiaaeaaRows
import Derived.Test.YtladpdeneiaaeaaPAllx2
import Derived.Test.YtladpdeneiaaeaaPureFnWalshBack
import Derived.Test.YtladpdeneiaaeaaOpen
import Derived.WalkKit
import Derived.ProofKit
import Derived.OpenShut
import Derived.ChangeOld
import Derived.Below
import Derived.Carry
namespace Go.Proofs.Ytladpdeneiaaeaa.rowFnWalshBack
open Go.ChangeShapes Go.WideShapes Go.ChangeAt Go.RowKit Go.Proofs.YtladpdeneiaaeaaW.PrintWords Go.Proofs.Ytladpdeneiaaeaa.PAll
set_option linter.unusedVariables false
theorem own : ownKnob Try.prog.godebug = none := by kernel_rfl
theorem laidOut : laidOutB Try.prog = true := by kernel_rfl
theorem o5 : Opens Try.prog (Kd.int .u8) 5 (fun x => (Lit.int .u8 x).wf = true) := Opens.int Try.underlying5 (by kernel_rfl)
theorem o22 : Opens Try.prog (Kd.slice 5 (Kd.int .u8)) 22 (fun x => x.length ≤ maxLen ∧ ∀ x' ∈ x, (Lit.int .u8 x').wf = true) := Opens.slice o5 Try.underlying22 (by kernel_rfl)
set_option maxRecDepth 100000 in
theorem lifted (os : Os) (started : os.Started) (H : Type) (enc : TypeId × Value → H) :
    ReturnsInHanded {} Try.checked os 3 .any (Rows.fnWalshBackSpec.pre6 enc Try.prog Try.f3 Rows.fnWalshBackRow.domain false) (Rows.fnWalshBackSpec.post enc Try.prog Try.f3 false true false false) := by
  refine returnsInHanded_of_change (C := Try.checked) own started (by kernel_rfl) Try.func3
    (ChangeSpec.witness6 (enc := enc) (C := Try.checked) false ⟨#[], #[.slice none 0 0, .slice none 0 0], []⟩ 8 (by kernel_rfl) (by kernel_rfl) (by kernel_rfl) (by kernel_rfl)) ?_
  intro W base args ds gs before hval0 hW _ _
  have hval : ∀ (j : Nat) t v, Try.f3.params[j]? = some t → args[j]? = some v → Value.okWide Try.prog W .any base t v := hval0
  have hW' := hW
  obtain ⟨p, q, hA0, hV, rfl, hfz, hnd⟩ := hW
  have hA : DataW.TrodAll enc Try.prog W 0 (fun _ => true) true Try.f3.params.toList args.toList ds p := hA0
  rw [Try.params3] at hA hval
  obtain ⟨v0, vs0, d0, ds0, p0, q0, hargs, rfl, rfl, h0, r0⟩ := trodAll_cons hA
  obtain ⟨v1, vs1, d1, ds1, p1, q1, rfl, rfl, rfl, h1, r1⟩ := trodAll_cons r0
  obtain ⟨rfl, rfl, rfl⟩ := trodAll_nil r1
  obtain rfl : args = #[v0, v1] := by cases args; simp_all
  obtain ⟨rfl, rfl⟩ := trodVars_none hV
  have t0 := h0
  have lt0 : ∀ x ∈ p0, x.block < W.heap.size := by obtain ⟨m, hm⟩ := t0; exact DataW.trod_lt m _ _ _ hm
  obtain ⟨A0, l0, c0, rfl, hc0, hr0, w0⟩ := o22.arg_slice Try.underlying22 (hval 0 22 v0 rfl rfl) h0
  have t1 := h1
  have lt1 : ∀ x ∈ p1, x.block < W.heap.size := by obtain ⟨m, hm⟩ := t1; exact DataW.trod_lt m _ _ _ hm
  obtain ⟨A1, l1, c1, rfl, hc1, hr1, w1⟩ := o22.arg_slice Try.underlying22 (hval 1 22 v1 rfl rfl) h1
  clear hA0 hval0
  obtain ⟨k, h⟩ := Pure.FnWalshBack l0 l1 w0 w1
  refine (laws_FnWalshBack.calls k A0 c0 l0 A1 c1 l1 true W hr0 hc0 hr1 hc1 h).mono fun e W' ⟨he, bel⟩ => ?_
  subst he
  exact ⟨_, rfl, _, _, _, [], _, [], hW', trodAll_mk1 (shut_bool Try.underlying4 _), (trodAll_cons_mk (Below.trod laidOut (by kernel_rfl) (of_decide_eq_true (by kernel_rfl)) t0 bel lt0) (trodAll_cons_mk (Below.trod laidOut (by kernel_rfl) (of_decide_eq_true (by kernel_rfl)) t1 bel lt1) trodAll_mk0)), rfl, bel.frame _, fun h => by cases h⟩
theorem proved : Rows.FnWalshBackSaid :=
  OpenClaim.holds_of_wide 3 Try.f3 rfl rfl rfl rfl rfl rfl rfl ⟨rfl, rfl, rfl, rfl, rfl⟩ rfl rfl rfl rfl rfl (by kernel_rfl) Try.func3 (by kernel_rfl)
    (of_decide_eq_true (by kernel_rfl)) (by unfold Func.isWrapper; first | (rw [if_pos (by decide +kernel)]; kernel_rfl) | (rw [if_neg (by decide +kernel)]; exact ⟨rfl, rfl⟩))
    (fun os started H enc _ => lifted os started H enc)
end Go.Proofs.Ytladpdeneiaaeaa.rowFnWalshBack
namespace Go.Proofs.Ytladpdeneiaaeaa
/-- The row. -/
theorem fnWalshBack_holds : Rows.FnWalshBackSaid := rowFnWalshBack.proved
end Go.Proofs.Ytladpdeneiaaeaa
