/-
  FnChains: the statement FnChainsSaid is proved here: for every input the law answers true, and each argument reads afterwards as it read before. The law in words: a hash is chained up: with inner hashes to its left where the bit of the index, from the lowest one on, is 1, and otherwise to its right; with those to its left alone; and with border hashes to its left (at most 64 hashes of at most 5000 bytes).
  Conditions: none of ours beyond the row's own.
-/
import Derived.Test.YtbfhmcgiamnliaaRows
import Derived.Test.YtbfhmcgiamnliaaPAllx5
import Derived.Test.YtbfhmcgiamnliaaPureFnChains
import Derived.Test.YtbfhmcgiamnliaaOpen
import Derived.WalkKit
import Derived.ProofKit
import Derived.OpenShut
import Derived.ChangeOld
import Derived.Below
import Derived.Carry
namespace Go.Proofs.Ytbfhmcgiamnliaa.rowFnChains
open Go.ChangeShapes Go.WideShapes Go.ChangeAt Go.RowKit Go.Proofs.YtbfhmcgiamnliaaW.PrintWords Go.Proofs.Ytbfhmcgiamnliaa.PAll
set_option linter.unusedVariables false
theorem own : ownKnob Try.prog.godebug = none := by kernel_rfl
theorem laidOut : laidOutB Try.prog = true := by kernel_rfl
theorem o3 : Opens Try.prog (Kd.int .i64) 3 (fun x => (Lit.int .i64 x).wf = true) := Opens.int Try.underlying3 (by kernel_rfl)
theorem o22 : Opens Try.prog (Kd.int .u64) 22 (fun x => (Lit.int .u64 x).wf = true) := Opens.int Try.underlying22 (by kernel_rfl)
theorem o24 : Opens Try.prog k24 24 (fun x => ((Lit.int .i64 x.f0).wf = true) ∧ ((Lit.int .i64 x.f1).wf = true) ∧ ((Lit.int .i64 x.f2).wf = true) ∧ ((Lit.int .u64 x.f3).wf = true) ∧ ((Lit.int .u64 x.f4).wf = true) ∧ ((Lit.int .u64 x.f5).wf = true)) := Opens.struct (d := (Kd.pair (Kd.int .i64) (Kd.pair (Kd.int .i64) (Kd.pair (Kd.int .i64) (Kd.pair (Kd.int .u64) (Kd.pair (Kd.int .u64) (Kd.int .u64))))))) (wf := (fun x : Int × Int × Int × Int × Int × Int => ((Lit.int .i64 x.1).wf = true) ∧ ((Lit.int .i64 x.2.1).wf = true) ∧ ((Lit.int .i64 x.2.2.1).wf = true) ∧ ((Lit.int .u64 x.2.2.2.1).wf = true) ∧ ((Lit.int .u64 x.2.2.2.2.1).wf = true) ∧ ((Lit.int .u64 x.2.2.2.2.2).wf = true))) Try.underlying24 (by exact (OpensFs.cons (wf := fun x : Int => (Lit.int .i64 x).wf = true) (wf' := fun x : Int × Int × Int × Int × Int => ((Lit.int .i64 x.1).wf = true) ∧ ((Lit.int .i64 x.2.1).wf = true) ∧ ((Lit.int .u64 x.2.2.1).wf = true) ∧ ((Lit.int .u64 x.2.2.2.1).wf = true) ∧ ((Lit.int .u64 x.2.2.2.2).wf = true)) (by exact o3) (by rfl) (OpensFs.cons (wf := fun x : Int => (Lit.int .i64 x).wf = true) (wf' := fun x : Int × Int × Int × Int => ((Lit.int .i64 x.1).wf = true) ∧ ((Lit.int .u64 x.2.1).wf = true) ∧ ((Lit.int .u64 x.2.2.1).wf = true) ∧ ((Lit.int .u64 x.2.2.2).wf = true)) (by exact o3) (by rfl) (OpensFs.cons (wf := fun x : Int => (Lit.int .i64 x).wf = true) (wf' := fun x : Int × Int × Int => ((Lit.int .u64 x.1).wf = true) ∧ ((Lit.int .u64 x.2.1).wf = true) ∧ ((Lit.int .u64 x.2.2).wf = true)) (by exact o3) (by rfl) (OpensFs.cons (wf := fun x : Int => (Lit.int .u64 x).wf = true) (wf' := fun x : Int × Int => ((Lit.int .u64 x.1).wf = true) ∧ ((Lit.int .u64 x.2).wf = true)) (by exact o22) (by rfl) (OpensFs.cons (wf := fun x : Int => (Lit.int .u64 x).wf = true) (wf' := fun x : Int => ((Lit.int .u64 x).wf = true)) (by exact o22) (by rfl) (OpensFs.last (by exact o22) (by rfl)))))))) (by kernel_rfl) (fun x : S24 => (x.f0, x.f1, x.f2, x.f3, x.f4, x.f5)) (fun x => ⟨x.1, x.2.1, x.2.2.1, x.2.2.2.1, x.2.2.2.2.1, x.2.2.2.2.2⟩) (fun _ => rfl)
theorem o5 : Opens Try.prog (Kd.int .u8) 5 (fun x => (Lit.int .u8 x).wf = true) := Opens.int Try.underlying5 (by kernel_rfl)
theorem o25 : Opens Try.prog (Kd.slice 5 (Kd.int .u8)) 25 (fun x => x.length ≤ maxLen ∧ ∀ x' ∈ x, (Lit.int .u8 x').wf = true) := Opens.slice o5 Try.underlying25 (by kernel_rfl)
theorem o26 : Opens Try.prog (Kd.slice 25 (Kd.slice 5 (Kd.int .u8))) 26 (fun x => x.length ≤ maxLen ∧ ∀ x' ∈ x, x'.length ≤ maxLen ∧ ∀ x'' ∈ x', (Lit.int .u8 x'').wf = true) := Opens.slice o25 Try.underlying26 (by kernel_rfl)
set_option maxRecDepth 100000 in
theorem lifted (os : Os) (started : os.Started) (H : Type) (enc : TypeId × Value → H) :
    ReturnsInHanded {} Try.checked os 3 .any (Rows.fnChainsSpec.pre6 enc Try.prog Try.f3 Rows.fnChainsRow.domain false) (Rows.fnChainsSpec.post enc Try.prog Try.f3 false true false false) := by
  refine returnsInHanded_of_change (C := Try.checked) own started (by kernel_rfl) Try.func3
    (ChangeSpec.witness6 (enc := enc) (C := Try.checked) false ⟨#[], #[.agg #[.int .i64 0, .int .i64 0, .int .i64 0, .int .u64 0, .int .u64 0, .int .u64 0], .slice none 0 0, .slice none 0 0, .int .u64 0], []⟩ 8 (by kernel_rfl) (by kernel_rfl) (by kernel_rfl) (by kernel_rfl)) ?_
  intro W base args ds gs before hval0 hW _ _
  have hval : ∀ (j : Nat) t v, Try.f3.params[j]? = some t → args[j]? = some v → Value.okWide Try.prog W .any base t v := hval0
  have hW' := hW
  obtain ⟨p, q, hA0, hV, rfl, hfz, hnd⟩ := hW
  have hA : DataW.TrodAll enc Try.prog W 0 (fun _ => true) true Try.f3.params.toList args.toList ds p := hA0
  rw [Try.params3] at hA hval
  obtain ⟨v0, vs0, d0, ds0, p0, q0, hargs, rfl, rfl, h0, r0⟩ := trodAll_cons hA
  obtain ⟨v1, vs1, d1, ds1, p1, q1, rfl, rfl, rfl, h1, r1⟩ := trodAll_cons r0
  obtain ⟨v2, vs2, d2, ds2, p2, q2, rfl, rfl, rfl, h2, r2⟩ := trodAll_cons r1
  obtain ⟨v3, vs3, d3, ds3, p3, q3, rfl, rfl, rfl, h3, r3⟩ := trodAll_cons r2
  obtain ⟨rfl, rfl, rfl⟩ := trodAll_nil r3
  obtain rfl : args = #[v0, v1, v2, v3] := by cases args; simp_all
  obtain ⟨rfl, rfl⟩ := trodVars_none hV
  have t0 := h0
  have lt0 : ∀ x ∈ p0, x.block < W.heap.size := by obtain ⟨m, hm⟩ := t0; exact DataW.trod_lt m _ _ _ hm
  obtain ⟨x0, cs0, rfl, hK0, w0⟩ := o24.arg_struct Try.underlying24 (hval 0 24 v0 rfl rfl) h0
  obtain rfl := k24_open hK0
  have t1 := h1
  have lt1 : ∀ x ∈ p1, x.block < W.heap.size := by obtain ⟨m, hm⟩ := t1; exact DataW.trod_lt m _ _ _ hm
  obtain ⟨A1, l1, c1, rfl, hc1, hr1, w1⟩ := o25.arg_slice Try.underlying25 (hval 1 25 v1 rfl rfl) h1
  have t2 := h2
  have lt2 : ∀ x ∈ p2, x.block < W.heap.size := by obtain ⟨m, hm⟩ := t2; exact DataW.trod_lt m _ _ _ hm
  obtain ⟨A2, l2, c2, rfl, hc2, hr2, w2⟩ := o26.arg_slice Try.underlying26 (hval 2 26 v2 rfl rfl) h2
  obtain ⟨a3, rfl, rfl, rfl, w3⟩ := open_int Try.underlying22 (hval 3 22 v3 rfl rfl) h3
  clear hA0 hval0
  obtain ⟨k, h⟩ := Pure.FnChains x0 l1 l2 a3 w0 w1 w2 w3
  refine (laws_FnChains.calls k x0.f0 x0.f1 x0.f2 x0.f3 x0.f4 x0.f5 A1 c1 l1 A2 c2 l2 a3 true W hr1 hc1 hr2 hc2 h).mono fun e W' ⟨he, bel⟩ => ?_
  subst he
  exact ⟨_, rfl, _, _, _, [], _, [], hW', trodAll_mk1 (shut_bool Try.underlying4 _), (trodAll_cons_mk (Below.trod laidOut (by kernel_rfl) (of_decide_eq_true (by kernel_rfl)) t0 bel lt0) (trodAll_cons_mk (Below.trod laidOut (by kernel_rfl) (of_decide_eq_true (by kernel_rfl)) t1 bel lt1) (trodAll_cons_mk (Below.trod laidOut (by kernel_rfl) (of_decide_eq_true (by kernel_rfl)) t2 bel lt2) (trodAll_cons_mk (shut_int Try.underlying22 w3) trodAll_mk0)))), rfl, bel.frame _, fun h => by cases h⟩
theorem proved : Rows.FnChainsSaid :=
  OpenClaim.holds_of_wide 3 Try.f3 rfl rfl rfl rfl rfl rfl rfl ⟨rfl, rfl, rfl, rfl, rfl⟩ rfl rfl rfl rfl rfl (by kernel_rfl) Try.func3 (by kernel_rfl)
    (of_decide_eq_true (by kernel_rfl)) (by unfold Func.isWrapper; first | (rw [if_pos (by decide +kernel)]; kernel_rfl) | (rw [if_neg (by decide +kernel)]; exact ⟨rfl, rfl⟩))
    (fun os started H enc _ => lifted os started H enc)
end Go.Proofs.Ytbfhmcgiamnliaa.rowFnChains
namespace Go.Proofs.Ytbfhmcgiamnliaa
/-- The row. -/
theorem fnChains_holds : Rows.FnChainsSaid := rowFnChains.proved
end Go.Proofs.Ytbfhmcgiamnliaa
