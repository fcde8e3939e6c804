/-
  FnNewRange: the statement FnNewRangeSaid is proved here: for every input the law answers true, and each argument reads afterwards as it read before. The law in words: a range may be made exactly if it does not end ahead of its beginning and has as many hashes as nodes.
  Conditions: none of ours beyond the row's own.
-/
import Derived.Test.YtbfhmcgiamnliaaRows
import Derived.Test.YtbfhmcgiamnliaaPAllx3
import Derived.Test.YtbfhmcgiamnliaaPureFnNewRange
import Derived.Test.YtbfhmcgiamnliaaOpen
import Derived.WalkKit
import Derived.ProofKit
import Derived.OpenShut
import Derived.ChangeOld
import Derived.Below
import Derived.Carry
namespace Go.Proofs.Ytbfhmcgiamnliaa.rowFnNewRange
open Go.ChangeShapes Go.WideShapes Go.ChangeAt Go.RowKit Go.Proofs.YtbfhmcgiamnliaaW.PrintWords Go.Proofs.Ytbfhmcgiamnliaa.PAll
set_option linter.unusedVariables false
theorem own : ownKnob Try.prog.godebug = none := by kernel_rfl
theorem laidOut : laidOutB Try.prog = true := by kernel_rfl
theorem o22 : Opens Try.prog (Kd.int .u64) 22 (fun x => (Lit.int .u64 x).wf = true) := Opens.int Try.underlying22 (by kernel_rfl)
theorem o5 : Opens Try.prog (Kd.int .u8) 5 (fun x => (Lit.int .u8 x).wf = true) := Opens.int Try.underlying5 (by kernel_rfl)
theorem o25 : Opens Try.prog (Kd.slice 5 (Kd.int .u8)) 25 (fun x => x.length ≤ maxLen ∧ ∀ x' ∈ x, (Lit.int .u8 x').wf = true) := Opens.slice o5 Try.underlying25 (by kernel_rfl)
theorem o26 : Opens Try.prog (Kd.slice 25 (Kd.slice 5 (Kd.int .u8))) 26 (fun x => x.length ≤ maxLen ∧ ∀ x' ∈ x, x'.length ≤ maxLen ∧ ∀ x'' ∈ x', (Lit.int .u8 x'').wf = true) := Opens.slice o25 Try.underlying26 (by kernel_rfl)
theorem o34 : Opens Try.prog k34 34 (fun x => ((Lit.int .u64 x.f0).wf = true) ∧ ((Lit.int .u64 x.f1).wf = true) ∧ (x.f2.length ≤ maxLen ∧ ∀ x_f2' ∈ x.f2, x_f2'.length ≤ maxLen ∧ ∀ x_f2'' ∈ x_f2', (Lit.int .u8 x_f2'').wf = true)) := Opens.struct (d := (Kd.pair (Kd.int .u64) (Kd.pair (Kd.int .u64) (Kd.slice 25 (Kd.slice 5 (Kd.int .u8)))))) (wf := (fun x : Int × Int × List (List (Int)) => ((Lit.int .u64 x.1).wf = true) ∧ ((Lit.int .u64 x.2.1).wf = true) ∧ (x.2.2.length ≤ maxLen ∧ ∀ x_2_2' ∈ x.2.2, x_2_2'.length ≤ maxLen ∧ ∀ x_2_2'' ∈ x_2_2', (Lit.int .u8 x_2_2'').wf = true))) Try.underlying34 (by exact (OpensFs.cons (wf := fun x : Int => (Lit.int .u64 x).wf = true) (wf' := fun x : Int × List (List (Int)) => ((Lit.int .u64 x.1).wf = true) ∧ (x.2.length ≤ maxLen ∧ ∀ x_2' ∈ x.2, x_2'.length ≤ maxLen ∧ ∀ x_2'' ∈ x_2', (Lit.int .u8 x_2'').wf = true)) (by exact o22) (by rfl) (OpensFs.cons (wf := fun x : Int => (Lit.int .u64 x).wf = true) (wf' := fun x : List (List (Int)) => (x.length ≤ maxLen ∧ ∀ x' ∈ x, x'.length ≤ maxLen ∧ ∀ x'' ∈ x', (Lit.int .u8 x'').wf = true)) (by exact o22) (by rfl) (OpensFs.last (by exact o26) (by rfl))))) (by kernel_rfl) (fun x : S34 => (x.f0, x.f1, x.f2)) (fun x => ⟨x.1, x.2.1, x.2.2⟩) (fun _ => rfl)
set_option maxRecDepth 100000 in
theorem lifted (os : Os) (started : os.Started) (H : Type) (enc : TypeId × Value → H) :
    ReturnsInHanded {} Try.checked os 4 .any (Rows.fnNewRangeSpec.pre6 enc Try.prog Try.f4 Rows.fnNewRangeRow.domain false) (Rows.fnNewRangeSpec.post enc Try.prog Try.f4 false true false false) := by
  refine returnsInHanded_of_change (C := Try.checked) own started (by kernel_rfl) Try.func4
    (ChangeSpec.witness6 (enc := enc) (C := Try.checked) false ⟨#[], #[.agg #[.int .u64 0, .int .u64 0, .slice none 0 0]], []⟩ 8 (by kernel_rfl) (by kernel_rfl) (by kernel_rfl) (by kernel_rfl)) ?_
  intro W base args ds gs before hval0 hW _ _
  have hval : ∀ (j : Nat) t v, Try.f4.params[j]? = some t → args[j]? = some v → Value.okWide Try.prog W .any base t v := hval0
  have hW' := hW
  obtain ⟨p, q, hA0, hV, rfl, hfz, hnd⟩ := hW
  have hA : DataW.TrodAll enc Try.prog W 0 (fun _ => true) true Try.f4.params.toList args.toList ds p := hA0
  rw [Try.params4] at hA hval
  obtain ⟨v0, vs0, d0, ds0, p0, q0, hargs, rfl, rfl, h0, r0⟩ := trodAll_cons hA
  obtain ⟨rfl, rfl, rfl⟩ := trodAll_nil r0
  obtain rfl : args = #[v0] := by cases args; simp_all
  obtain ⟨rfl, rfl⟩ := trodVars_none hV
  have t0 := h0
  have lt0 : ∀ x ∈ p0, x.block < W.heap.size := by obtain ⟨m, hm⟩ := t0; exact DataW.trod_lt m _ _ _ hm
  obtain ⟨x0, cs0, rfl, hK0, w0⟩ := o34.arg_struct Try.underlying34 (hval 0 34 v0 rfl rfl) h0
  obtain ⟨A0_2, c0_2, rfl, hc0_2, hr0_2⟩ := k34_open hK0
  clear hA0 hval0
  obtain ⟨k, h⟩ := Pure.FnNewRange x0 w0
  refine (laws_FnNewRange.calls k x0.f0 x0.f1 A0_2 c0_2 x0.f2 true W hr0_2 hc0_2 h).mono fun e W' ⟨he, bel⟩ => ?_
  subst he
  exact ⟨_, rfl, _, _, _, [], _, [], hW', trodAll_mk1 (shut_bool Try.underlying4 _), (trodAll_cons_mk (Below.trod laidOut (by kernel_rfl) (of_decide_eq_true (by kernel_rfl)) t0 bel lt0) trodAll_mk0), rfl, bel.frame _, fun h => by cases h⟩
theorem proved : Rows.FnNewRangeSaid :=
  OpenClaim.holds_of_wide 4 Try.f4 rfl rfl rfl rfl rfl rfl rfl ⟨rfl, rfl, rfl, rfl, rfl⟩ rfl rfl rfl rfl rfl (by kernel_rfl) Try.func4 (by kernel_rfl)
    (of_decide_eq_true (by kernel_rfl)) (by unfold Func.isWrapper; first | (rw [if_pos (by decide +kernel)]; kernel_rfl) | (rw [if_neg (by decide +kernel)]; exact ⟨rfl, rfl⟩))
    (fun os started H enc _ => lifted os started H enc)
end Go.Proofs.Ytbfhmcgiamnliaa.rowFnNewRange
namespace Go.Proofs.Ytbfhmcgiamnliaa
/-- The row. -/
theorem fnNewRange_holds : Rows.FnNewRangeSaid := rowFnNewRange.proved
end Go.Proofs.Ytbfhmcgiamnliaa
