/-
  FnInclusionInTree: the statement FnInclusionInTreeSaid is proved here: for every input the law answers true, and each argument reads afterwards as it read before. The law in words: a leaf of a perfect tree that is a part of a log is included in the log if the tree is: its path begins with that in the tree, and goes on with that of the tree among the others of its size (a log that has nothing beside trees of this size; as many hashes as both paths have, of at most 5000 bytes; the tree's root as long as leaf hashes are to be).
  Conditions: none of ours beyond the row's own.
-/
import Derived.Test.YtbfhmcgiamnliaaRows
import Derived.Test.YtbfhmcgiamnliaaPAllx8
import Derived.Test.YtbfhmcgiamnliaaPureFnInclusionInTree
import Derived.Test.YtbfhmcgiamnliaaOpen
import Derived.WalkKit
import Derived.ProofKit
import Derived.OpenShut
import Derived.ChangeOld
import Derived.Below
import Derived.Carry
namespace Go.Proofs.Ytbfhmcgiamnliaa.rowFnInclusionInTree
open Go.ChangeShapes Go.WideShapes Go.ChangeAt Go.RowKit Go.Proofs.YtbfhmcgiamnliaaW.PrintWords Go.Proofs.Ytbfhmcgiamnliaa.PAll
set_option linter.unusedVariables false
theorem own : ownKnob Try.prog.godebug = none := by kernel_rfl
theorem laidOut : laidOutB Try.prog = true := by kernel_rfl
theorem o3 : Opens Try.prog (Kd.int .i64) 3 (fun x => (Lit.int .i64 x).wf = true) := Opens.int Try.underlying3 (by kernel_rfl)
theorem o22 : Opens Try.prog (Kd.int .u64) 22 (fun x => (Lit.int .u64 x).wf = true) := Opens.int Try.underlying22 (by kernel_rfl)
theorem o24 : Opens Try.prog k24 24 (fun x => ((Lit.int .i64 x.f0).wf = true) ∧ ((Lit.int .i64 x.f1).wf = true) ∧ ((Lit.int .i64 x.f2).wf = true) ∧ ((Lit.int .u64 x.f3).wf = true) ∧ ((Lit.int .u64 x.f4).wf = true) ∧ ((Lit.int .u64 x.f5).wf = true)) := Opens.struct (d := (Kd.pair (Kd.int .i64) (Kd.pair (Kd.int .i64) (Kd.pair (Kd.int .i64) (Kd.pair (Kd.int .u64) (Kd.pair (Kd.int .u64) (Kd.int .u64))))))) (wf := (fun x : Int × Int × Int × Int × Int × Int => ((Lit.int .i64 x.1).wf = true) ∧ ((Lit.int .i64 x.2.1).wf = true) ∧ ((Lit.int .i64 x.2.2.1).wf = true) ∧ ((Lit.int .u64 x.2.2.2.1).wf = true) ∧ ((Lit.int .u64 x.2.2.2.2.1).wf = true) ∧ ((Lit.int .u64 x.2.2.2.2.2).wf = true))) Try.underlying24 (by exact (OpensFs.cons (wf := fun x : Int => (Lit.int .i64 x).wf = true) (wf' := fun x : Int × Int × Int × Int × Int => ((Lit.int .i64 x.1).wf = true) ∧ ((Lit.int .i64 x.2.1).wf = true) ∧ ((Lit.int .u64 x.2.2.1).wf = true) ∧ ((Lit.int .u64 x.2.2.2.1).wf = true) ∧ ((Lit.int .u64 x.2.2.2.2).wf = true)) (by exact o3) (by rfl) (OpensFs.cons (wf := fun x : Int => (Lit.int .i64 x).wf = true) (wf' := fun x : Int × Int × Int × Int => ((Lit.int .i64 x.1).wf = true) ∧ ((Lit.int .u64 x.2.1).wf = true) ∧ ((Lit.int .u64 x.2.2.1).wf = true) ∧ ((Lit.int .u64 x.2.2.2).wf = true)) (by exact o3) (by rfl) (OpensFs.cons (wf := fun x : Int => (Lit.int .i64 x).wf = true) (wf' := fun x : Int × Int × Int => ((Lit.int .u64 x.1).wf = true) ∧ ((Lit.int .u64 x.2.1).wf = true) ∧ ((Lit.int .u64 x.2.2).wf = true)) (by exact o3) (by rfl) (OpensFs.cons (wf := fun x : Int => (Lit.int .u64 x).wf = true) (wf' := fun x : Int × Int => ((Lit.int .u64 x.1).wf = true) ∧ ((Lit.int .u64 x.2).wf = true)) (by exact o22) (by rfl) (OpensFs.cons (wf := fun x : Int => (Lit.int .u64 x).wf = true) (wf' := fun x : Int => ((Lit.int .u64 x).wf = true)) (by exact o22) (by rfl) (OpensFs.last (by exact o22) (by rfl)))))))) (by kernel_rfl) (fun x : S24 => (x.f0, x.f1, x.f2, x.f3, x.f4, x.f5)) (fun x => ⟨x.1, x.2.1, x.2.2.1, x.2.2.2.1, x.2.2.2.2.1, x.2.2.2.2.2⟩) (fun _ => rfl)
theorem o5 : Opens Try.prog (Kd.int .u8) 5 (fun x => (Lit.int .u8 x).wf = true) := Opens.int Try.underlying5 (by kernel_rfl)
theorem o25 : Opens Try.prog (Kd.slice 5 (Kd.int .u8)) 25 (fun x => x.length ≤ maxLen ∧ ∀ x' ∈ x, (Lit.int .u8 x').wf = true) := Opens.slice o5 Try.underlying25 (by kernel_rfl)
theorem o26 : Opens Try.prog (Kd.slice 25 (Kd.slice 5 (Kd.int .u8))) 26 (fun x => x.length ≤ maxLen ∧ ∀ x' ∈ x, x'.length ≤ maxLen ∧ ∀ x'' ∈ x', (Lit.int .u8 x'').wf = true) := Opens.slice o25 Try.underlying26 (by kernel_rfl)
set_option maxRecDepth 100000 in
theorem lifted (os : Os) (started : os.Started) (H : Type) (enc : TypeId × Value → H) :
    ReturnsInHanded {} Try.checked os 5 .any (Rows.fnInclusionInTreeSpec.pre6 enc Try.prog Try.f5 Rows.fnInclusionInTreeRow.domain false) (Rows.fnInclusionInTreeSpec.post enc Try.prog Try.f5 false true false false) := by
  refine returnsInHanded_of_change (C := Try.checked) own started (by kernel_rfl) Try.func5
    (ChangeSpec.witness6 (enc := enc) (C := Try.checked) false ⟨#[], #[.agg #[.int .i64 0, .int .i64 0, .int .i64 0, .int .u64 0, .int .u64 0, .int .u64 0], .int .u64 0, .int .u64 0, .int .i64 0, .slice none 0 0, .slice none 0 0], []⟩ 8 (by kernel_rfl) (by kernel_rfl) (by kernel_rfl) (by kernel_rfl)) ?_
  intro W base args ds gs before hval0 hW _ _
  have hval : ∀ (j : Nat) t v, Try.f5.params[j]? = some t → args[j]? = some v → Value.okWide Try.prog W .any base t v := hval0
  have hW' := hW
  obtain ⟨p, q, hA0, hV, rfl, hfz, hnd⟩ := hW
  have hA : DataW.TrodAll enc Try.prog W 0 (fun _ => true) true Try.f5.params.toList args.toList ds p := hA0
  rw [Try.params5] at hA hval
  obtain ⟨v0, vs0, d0, ds0, p0, q0, hargs, rfl, rfl, h0, r0⟩ := trodAll_cons hA
  obtain ⟨v1, vs1, d1, ds1, p1, q1, rfl, rfl, rfl, h1, r1⟩ := trodAll_cons r0
  obtain ⟨v2, vs2, d2, ds2, p2, q2, rfl, rfl, rfl, h2, r2⟩ := trodAll_cons r1
  obtain ⟨v3, vs3, d3, ds3, p3, q3, rfl, rfl, rfl, h3, r3⟩ := trodAll_cons r2
  obtain ⟨v4, vs4, d4, ds4, p4, q4, rfl, rfl, rfl, h4, r4⟩ := trodAll_cons r3
  obtain ⟨v5, vs5, d5, ds5, p5, q5, rfl, rfl, rfl, h5, r5⟩ := trodAll_cons r4
  obtain ⟨rfl, rfl, rfl⟩ := trodAll_nil r5
  obtain rfl : args = #[v0, v1, v2, v3, v4, v5] := by cases args; simp_all
  obtain ⟨rfl, rfl⟩ := trodVars_none hV
  have t0 := h0
  have lt0 : ∀ x ∈ p0, x.block < W.heap.size := by obtain ⟨m, hm⟩ := t0; exact DataW.trod_lt m _ _ _ hm
  obtain ⟨x0, cs0, rfl, hK0, w0⟩ := o24.arg_struct Try.underlying24 (hval 0 24 v0 rfl rfl) h0
  obtain rfl := k24_open hK0
  obtain ⟨a1, rfl, rfl, rfl, w1⟩ := open_int Try.underlying22 (hval 1 22 v1 rfl rfl) h1
  obtain ⟨a2, rfl, rfl, rfl, w2⟩ := open_int Try.underlying22 (hval 2 22 v2 rfl rfl) h2
  obtain ⟨a3, rfl, rfl, rfl, w3⟩ := open_int Try.underlying3 (hval 3 3 v3 rfl rfl) h3
  have t4 := h4
  have lt4 : ∀ x ∈ p4, x.block < W.heap.size := by obtain ⟨m, hm⟩ := t4; exact DataW.trod_lt m _ _ _ hm
  obtain ⟨A4, l4, c4, rfl, hc4, hr4, w4⟩ := o25.arg_slice Try.underlying25 (hval 4 25 v4 rfl rfl) h4
  have t5 := h5
  have lt5 : ∀ x ∈ p5, x.block < W.heap.size := by obtain ⟨m, hm⟩ := t5; exact DataW.trod_lt m _ _ _ hm
  obtain ⟨A5, l5, c5, rfl, hc5, hr5, w5⟩ := o26.arg_slice Try.underlying26 (hval 5 26 v5 rfl rfl) h5
  clear hA0 hval0
  obtain ⟨k, h⟩ := Pure.FnInclusionInTree x0 a1 a2 a3 l4 l5 w0 w1 w2 w3 w4 w5
  refine (laws_FnInclusionInTree.calls k x0.f0 x0.f1 x0.f2 x0.f3 x0.f4 x0.f5 a1 a2 a3 A4 c4 l4 A5 c5 l5 true W hr4 hc4 hr5 hc5 h).mono fun e W' ⟨he, bel⟩ => ?_
  subst he
  exact ⟨_, rfl, _, _, _, [], _, [], hW', trodAll_mk1 (shut_bool Try.underlying4 _), (trodAll_cons_mk (Below.trod laidOut (by kernel_rfl) (of_decide_eq_true (by kernel_rfl)) t0 bel lt0) (trodAll_cons_mk (shut_int Try.underlying22 w1) (trodAll_cons_mk (shut_int Try.underlying22 w2) (trodAll_cons_mk (shut_int Try.underlying3 w3) (trodAll_cons_mk (Below.trod laidOut (by kernel_rfl) (of_decide_eq_true (by kernel_rfl)) t4 bel lt4) (trodAll_cons_mk (Below.trod laidOut (by kernel_rfl) (of_decide_eq_true (by kernel_rfl)) t5 bel lt5) trodAll_mk0)))))), rfl, bel.frame _, fun h => by cases h⟩
theorem proved : Rows.FnInclusionInTreeSaid :=
  OpenClaim.holds_of_wide 5 Try.f5 rfl rfl rfl rfl rfl rfl rfl ⟨rfl, rfl, rfl, rfl, rfl⟩ rfl rfl rfl rfl rfl (by kernel_rfl) Try.func5 (by kernel_rfl)
    (of_decide_eq_true (by kernel_rfl)) (by unfold Func.isWrapper; first | (rw [if_pos (by decide +kernel)]; kernel_rfl) | (rw [if_neg (by decide +kernel)]; exact ⟨rfl, rfl⟩))
    (fun os started H enc _ => lifted os started H enc)
end Go.Proofs.Ytbfhmcgiamnliaa.rowFnInclusionInTree
namespace Go.Proofs.Ytbfhmcgiamnliaa
/-- The row. -/
theorem fnInclusionInTree_holds : Rows.FnInclusionInTreeSaid := rowFnInclusionInTree.proved
end Go.Proofs.Ytbfhmcgiamnliaa
