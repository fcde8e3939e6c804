/-
  FnFamily: the statement FnFamilySaid is proved here: for every input the law answers true, and each argument reads afterwards as it read before. The law in words: a node and its sibling have one parent, are one another's siblings, and differ in the last bit of their indexes; the parent is one level higher, with half the index.
  Conditions: none of ours beyond the row's own.
-/
import Derived.Test.YthfgegaakfgjkaaRows
import Derived.Test.YthfgegaakfgjkaaPFnFamilyx3
import Derived.Test.YthfgegaakfgjkaaPureFnFamily
import Derived.Test.YthfgegaakfgjkaaOpen
import Derived.WalkKit
import Derived.ProofKit
import Derived.OpenShut
import Derived.ChangeOld
import Derived.Below
import Derived.Carry
namespace Go.Proofs.Ythfgegaakfgjkaa.rowFnFamily
open Go.ChangeShapes Go.WideShapes Go.ChangeAt Go.RowKit Go.Proofs.YthfgegaakfgjkaaW.PrintWords Go.Proofs.Ythfgegaakfgjkaa.PFnFamily
set_option linter.unusedVariables false
theorem own : ownKnob Try.prog.godebug = none := by kernel_rfl
theorem laidOut : laidOutB Try.prog = true := by kernel_rfl
theorem o22 : Opens Try.prog (Kd.int .u64) 22 (fun x => (Lit.int .u64 x).wf = true) := Opens.int Try.underlying22 (by kernel_rfl)
theorem o23 : Opens Try.prog (Kd.int .u64) 23 (fun x => (Lit.int .u64 x).wf = true) := Opens.int Try.underlying23 (by kernel_rfl)
theorem o25 : Opens Try.prog k25 25 (fun x => ((Lit.int .u64 x.f0).wf = true) ∧ ((Lit.int .u64 x.f1).wf = true)) := Opens.struct (d := (Kd.pair (Kd.int .u64) (Kd.int .u64))) (wf := (fun x => ((Lit.int .u64 x.1).wf = true) ∧ ((Lit.int .u64 x.2).wf = true))) Try.underlying25 (by exact (OpensFs.cons (wf := fun x => (Lit.int .u64 x).wf = true) (wf' := fun x => ((Lit.int .u64 x).wf = true)) (by exact o22) (by rfl) (OpensFs.last (by exact o23) (by rfl)))) (by kernel_rfl) (fun x : S25 => (x.f0, x.f1)) (fun x => ⟨x.1, x.2⟩) (fun _ => rfl)
set_option maxRecDepth 100000 in
theorem lifted (os : Os) (started : os.Started) (H : Type) (enc : TypeId × Value → H) :
    ReturnsInHanded {} Try.checked os 3 .any (Rows.fnFamilySpec.pre6 enc Try.prog Try.f3 Rows.fnFamilyRow.domain false) (Rows.fnFamilySpec.post enc Try.prog Try.f3 false true false false) := by
  refine returnsInHanded_of_change (C := Try.checked) own started (by kernel_rfl) Try.func3
    (ChangeSpec.witness6 (enc := enc) (C := Try.checked) false ⟨#[], #[.agg #[.int .u64 0, .int .u64 0]], []⟩ 8 (by kernel_rfl) (by kernel_rfl) (by kernel_rfl) (by kernel_rfl)) ?_
  intro W base args ds gs before hval0 hW _ _
  have hval : ∀ (j : Nat) t v, Try.f3.params[j]? = some t → args[j]? = some v → Value.okWide Try.prog W .any base t v := hval0
  have hW' := hW
  obtain ⟨p, q, hA0, hV, rfl, hfz, hnd⟩ := hW
  have hA : DataW.TrodAll enc Try.prog W 0 (fun _ => true) true Try.f3.params.toList args.toList ds p := hA0
  rw [Try.params3] at hA hval
  obtain ⟨v0, vs0, d0, ds0, p0, q0, hargs, rfl, rfl, h0, r0⟩ := trodAll_cons hA
  obtain ⟨rfl, rfl, rfl⟩ := trodAll_nil r0
  obtain rfl : args = #[v0] := by cases args; simp_all
  obtain ⟨rfl, rfl⟩ := trodVars_none hV
  have t0 := h0
  have lt0 : ∀ x ∈ p0, x.block < W.heap.size := by obtain ⟨m, hm⟩ := t0; exact DataW.trod_lt m _ _ _ hm
  obtain ⟨x0, cs0, rfl, hK0, w0⟩ := o25.arg_struct Try.underlying25 (hval 0 25 v0 rfl rfl) h0
  obtain rfl := k25_open hK0
  clear hA0 hval0
  have h := Pure.FnFamily x0 w0
  refine (laws_FnFamily.calls x0.f0 x0.f1 true W h).mono fun e W' ⟨he, bel⟩ => ?_
  subst he
  exact ⟨_, rfl, _, _, _, [], _, [], hW', trodAll_mk1 (shut_bool Try.underlying4 _), (trodAll_cons_mk (Below.trod laidOut (by kernel_rfl) (of_decide_eq_true (by kernel_rfl)) t0 bel lt0) trodAll_mk0), rfl, bel.frame _, fun h => by cases h⟩
theorem proved : Rows.FnFamilySaid :=
  OpenClaim.holds_of_wide 3 Try.f3 rfl rfl rfl rfl rfl rfl rfl ⟨rfl, rfl, rfl, rfl, rfl⟩ rfl rfl rfl rfl rfl (by kernel_rfl) Try.func3 (by kernel_rfl)
    (of_decide_eq_true (by kernel_rfl)) (by unfold Func.isWrapper; first | (rw [if_pos (by decide +kernel)]; kernel_rfl) | (rw [if_neg (by decide +kernel)]; exact ⟨rfl, rfl⟩))
    (fun os started H enc _ => lifted os started H enc)
end Go.Proofs.Ythfgegaakfgjkaa.rowFnFamily
namespace Go.Proofs.Ythfgegaakfgjkaa
/-- The row. -/
theorem fnFamily_holds : Rows.FnFamilySaid := rowFnFamily.proved
end Go.Proofs.Ythfgegaakfgjkaa
