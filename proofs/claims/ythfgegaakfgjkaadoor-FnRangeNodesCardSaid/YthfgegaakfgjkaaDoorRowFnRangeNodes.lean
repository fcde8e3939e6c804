/-
  FnRangeNodes: the statement FnRangeNodesCardSaid is proved here: for every input the law answers true, and each argument reads afterwards as it read before. The law in words: the nodes of a range are appended to those that are given, from left to right: each the greatest one that begins where the one before ends and does not go beyond the end; and RangeSize tells how many these are (begin not after end).
  Conditions: none of ours beyond the row's own (the listed package-level variables, tied by the card).
-/
import Derived.Test.YthfgegaakfgjkaaDoorRows
import Derived.Test.YthfgegaakfgjkaaDoorPAllx4
import Derived.Test.YthfgegaakfgjkaaDoorPureFnRangeNodes
import Derived.Test.YthfgegaakfgjkaaDoorOpen
import Derived.Test.YthfgegaakfgjkaaDoorCards
import Derived.Test.YthfgegaakfgjkaaDoorTie
import Derived.WalkKit
import Derived.ProofKit
import Derived.OpenShut
import Derived.ChangeOld
import Derived.Below
import Derived.Carry
import Derived.Deep.DeepHandedRow
import Derived.Lib.LaidTab
namespace Go.Proofs.YthfgegaakfgjkaaDoor.rowFnRangeNodes
open Go.ChangeShapes Go.WideShapes Go.ChangeAt Go.RowKit Go.Proofs.YthfgegaakfgjkaaDoorW.PrintWords Go.Proofs.YthfgegaakfgjkaaDoor.PAll
set_option linter.unusedVariables false
theorem own : ownKnob Tryd.prog.godebug = none := by kernel_rfl
theorem laidOut : laidOutB Tryd.prog = true := by kernel_rfl
theorem o22 : Opens Tryd.prog (Kd.int .u64) 22 (fun x => (Lit.int .u64 x).wf = true) := Opens.int Tryd.underlying22 (by kernel_rfl)
theorem o34 : Opens Tryd.prog (Kd.int .u64) 34 (fun x => (Lit.int .u64 x).wf = true) := Opens.int Tryd.underlying34 (by kernel_rfl)
theorem o36 : Opens Tryd.prog k36 36 (fun x => ((Lit.int .u64 x.f0).wf = true) ∧ ((Lit.int .u64 x.f1).wf = true)) := Opens.struct (d := (Kd.pair (Kd.int .u64) (Kd.int .u64))) (wf := (fun x => ((Lit.int .u64 x.1).wf = true) ∧ ((Lit.int .u64 x.2).wf = true))) Tryd.underlying36 (by exact (OpensFs.cons (wf := fun x => (Lit.int .u64 x).wf = true) (wf' := fun x => ((Lit.int .u64 x).wf = true)) (by exact o34) (by rfl) (OpensFs.last (by exact o22) (by rfl)))) (by kernel_rfl) (fun x : S36 => (x.f0, x.f1)) (fun x => ⟨x.1, x.2⟩) (fun _ => rfl)
theorem o23 : Opens Tryd.prog (Kd.slice 36 k36) 23 (fun x => x.length ≤ maxLen ∧ ∀ x' ∈ x, ((Lit.int .u64 x'.f0).wf = true) ∧ ((Lit.int .u64 x'.f1).wf = true)) := Opens.slice o36 Tryd.underlying23 (by kernel_rfl)
theorem gTab : Tryd.prog.globalNamed "math/bits.deBruijn64tab" = some 0 := by kernel_rfl
theorem gTabType : (Tryd.prog.globals[0]?).map (·.type) = some 73 := by kernel_rfl
theorem cellsTab : Tryd.prog.cellsOf 73 = 64 := by kernel_rfl
theorem cellsByte : Tryd.prog.cellsOf 5 = 1 := by kernel_rfl
/-- What the row's list gives: the table's cells hold its numbers. -/
theorem glob_of {W : World} (h : laidMetH Tryd.prog Rows.fnRangeNodesRow.laid W) : Glob W := fun j hj =>
  (show Lib.TabIs Tryd.prog W "math/bits.deBruijn64tab" .u8 tzTab from Lib.tabIs_of_head (rest := []) gTab gTabType Tryd.underlying73 Tryd.underlying5 cellsByte cellsTab h).cell gTab j hj
theorem contract (H : Type) (enc : TypeId × Value → H) (W : World) (base : Nat) (args : Array Value) (ds gs : List (DataW H)) (before : List MemPlace)
    (hval : ∀ (j : Nat) t v, Tryd.f3.params[j]? = some t → args[j]? = some v → Value.okWide Tryd.prog W .any base t v)
    (hW : DataW.Whole enc Tryd.prog Tryd.f3.params.toList Rows.fnRangeNodesSpec.vars false W args.toList ds gs before) (hL : laidMetH Tryd.prog Rows.fnRangeNodesRow.laid W) :
    Calls Tryd.prog 3 args W fun e W' => ∃ v, e = .returned v ∧ Rows.fnRangeNodesSpec.post enc Tryd.prog Tryd.f3 false true false false W args v W' := by
  have hW' := hW
  obtain ⟨p, q, hA0, hV, rfl, hfz, hnd⟩ := hW
  have hA : DataW.TrodAll enc Tryd.prog W 0 (fun _ => true) true Tryd.f3.params.toList args.toList ds p := hA0
  rw [Tryd.params3] at hA hval
  obtain ⟨v0, vs0, d0, ds0, p0, q0, hargs, rfl, rfl, h0, r0⟩ := trodAll_cons hA
  obtain ⟨v1, vs1, d1, ds1, p1, q1, rfl, rfl, rfl, h1, r1⟩ := trodAll_cons r0
  obtain ⟨v2, vs2, d2, ds2, p2, q2, rfl, rfl, rfl, h2, r2⟩ := trodAll_cons r1
  obtain ⟨rfl, rfl, rfl⟩ := trodAll_nil r2
  obtain rfl : args = #[v0, v1, v2] := by cases args; simp_all
  obtain ⟨rfl, rfl⟩ := trodVars_none hV
  obtain ⟨a0, rfl, rfl, rfl, w0⟩ := open_int Tryd.underlying22 (hval 0 22 v0 rfl rfl) h0
  obtain ⟨a1, rfl, rfl, rfl, w1⟩ := open_int Tryd.underlying22 (hval 1 22 v1 rfl rfl) h1
  have t2 := h2
  have lt2 : ∀ x ∈ p2, x.block < W.heap.size := by obtain ⟨m, hm⟩ := t2; exact DataW.trod_lt m _ _ _ hm
  obtain ⟨A2, l2, c2, rfl, hc2, hr2, w2⟩ := o23.arg_slice Tryd.underlying23 (hval 2 23 v2 rfl rfl) h2
  have hG : Glob W := glob_of hL
  clear hA0
  obtain ⟨k, h⟩ := Pure.FnRangeNodes a0 a1 l2 w0 w1 w2
  refine (laws_FnRangeNodes.calls k a0 a1 A2 c2 l2 true W hG hr2 hc2 h).mono fun e W' ⟨he, bel⟩ => ?_
  subst he
  exact ⟨_, rfl, _, _, _, [], _, [], hW', trodAll_mk1 (shut_bool Tryd.underlying4 _), (trodAll_cons_mk (shut_int Tryd.underlying22 w0) (trodAll_cons_mk (shut_int Tryd.underlying22 w1) (trodAll_cons_mk (Below.trod laidOut (by kernel_rfl) (of_decide_eq_true (by kernel_rfl)) t2 bel lt2) trodAll_mk0))), rfl, bel.frame _, fun h => by cases h⟩
/-- A world for the witness: the settled one, the table (block 0) holding what its initialiser lays. -/
noncomputable def laidWorld (os : Os) : World :=
  { World.holding Tryd.prog os ⟨#[], #[], []⟩ with heap := (World.holding Tryd.prog os ⟨#[], #[], []⟩).heap.modify 0 fun
      | .cells _ t frozen => .cells (tzTab.map fun z => Value.int .u8 z).toArray t frozen
      | o => o }
theorem laid_met (os : Os) : laidMet Tryd.prog Rows.fnRangeNodesRow.laid ((laidWorld os).forCall (fun _ _ => 0) ⟨#[], #[.int .u64 0, .int .u64 0, .slice none 0 0], []⟩).memory :=
  laidMet_of_run' 80 (by kernel_rfl) (by kernel_rfl)
theorem reads (os : Os) {H : Type} (enc : TypeId × Value → H) : DataW.whole enc Tryd.prog ((laidWorld os).forCall (fun _ _ => 0) ⟨#[], #[.int .u64 0, .int .u64 0, .slice none 0 0], []⟩).memory Tryd.f3.params.toList Rows.fnRangeNodesSpec.vars false #[.int .u64 0, .int .u64 0, .slice none 0 0].toList 80 = some ([.lit (.int .u64 0), .lit (.int .u64 0), .nil], [], []) := by kernel_rfl
set_option maxRecDepth 100000 in
theorem lifted (os : Os) (started : os.Started) (H : Type) (enc : TypeId × Value → H) (F : Stop.Interp) :
    ReturnsInHanded {} Tryd.checked os 3 .any ((OpenSpec.ofChange Rows.fnRangeNodesSpec).preRow enc Tryd.prog Tryd.f3 Rows.fnRangeNodesRow.domain false Rows.fnRangeNodesRow.laid) (((OpenSpec.ofChange Rows.fnRangeNodesSpec).at F).post enc Tryd.prog Tryd.f3 false true false false) := by
  refine returnsInHanded_of_row (C := Tryd.checked) (s := OpenSpec.ofChange Rows.fnRangeNodesSpec) own started (by kernel_rfl) Tryd.func3
    (witness_row_at (enc := enc) (C := Tryd.checked) false (laidWorld os) #[.int .u64 0, .int .u64 0, .slice none 0 0] rfl (by kernel_rfl) (by kernel_rfl) (by kernel_rfl)
      (OpenSpec.preRow_of_cond 80 (reads os enc) (by kernel_rfl) (fun k hk => by cases hk) (by kernel_rfl) (laid_met os))) ?_
  intro W base args ds gs before hval hW _ _ _ hL _ _
  exact contract H enc W base args ds gs before hval hW hL
theorem said : Rows.FnRangeNodesSaid :=
  OpenClaim.holds_of_cond 3 Tryd.f3 rfl rfl rfl rfl rfl rfl rfl ⟨rfl, rfl, rfl, rfl, rfl⟩ rfl rfl rfl rfl rfl (by kernel_rfl) Tryd.func3 (by kernel_rfl)
    (of_decide_eq_true (by kernel_rfl)) (by unfold Func.isWrapper; first | (rw [if_pos (by decide +kernel)]; kernel_rfl) | (rw [if_neg (by decide +kernel)]; exact ⟨rfl, rfl⟩))
    (fun os started H enc _ F => by rw [OpenClaim.pre_eq_preRow]; exact lifted os started H enc F)
/-- No parameter wants a stand-in; the program's own looks are off: what the card asks. -/
theorem plain (f : FuncId) (fn : Func) (hf : Tryd.pinned.checked.prog.funcNamed "pub-sarsen/laws.FnRangeNodes" = some f) (hfn : Tryd.pinned.checked.prog.funcs[f]? = some fn) :
    false = Tryd.pinned.checked.prog.looks [] ∧ ∀ (j : Nat) t, fn.params[j]? = some t → Tryd.pinned.checked.prog.wantsStandIn t = false := by
  obtain rfl : f = 3 := Option.some.inj ((show Tryd.prog.funcNamed "pub-sarsen/laws.FnRangeNodes" = some 3 by kernel_rfl).symm.trans hf) |>.symm
  obtain rfl : fn = Tryd.f3 := (Option.some.inj (Tryd.func3.symm.trans hfn)).symm
  refine ⟨by kernel_rfl, fun j t ht => ?_⟩
  rw [Tryd.params3] at ht
  have hm : t = 22 ∨ t = 22 ∨ t = 23 := by simpa using Array.mem_of_getElem? ht
  rcases hm with rfl | rfl | rfl
  · exact (show Tryd.prog.wantsStandIn 22 = false by kernel_rfl)
  · exact (show Tryd.prog.wantsStandIn 22 = false by kernel_rfl)
  · exact (show Tryd.prog.wantsStandIn 23 = false by kernel_rfl)
theorem card : Rows.FnRangeNodesCardSaid :=
  Claim7.holds_tied_plain_at .later [] _ _ _ _ said (fun _ h => by cases h) (by kernel_rfl) (fun _ h => by cases h) fnRangeNodes_row_tie rfl ⟨rfl, rfl⟩ (by kernel_rfl) rfl plain (by kernel_rfl)
end Go.Proofs.YthfgegaakfgjkaaDoor.rowFnRangeNodes
namespace Go.Proofs.YthfgegaakfgjkaaDoor
/-- The card. -/
theorem fnRangeNodes_holds : Rows.FnRangeNodesCardSaid := rowFnRangeNodes.card
end Go.Proofs.YthfgegaakfgjkaaDoor
