/-
  FnFieldInterpolates: the statement FnFieldInterpolatesCardSaid is proved here: for every input the law answers true, and each argument reads afterwards as it read before. The law in words: // differ, as many values).
  Conditions: none of ours beyond the row's own (the listed package-level variables, tied by the card).
-/
import Derived.Test.YtladpdeneiaaeaaDoorRows
import Derived.Test.YtladpdeneiaaeaaDoorPAllx4
import Derived.Test.YtladpdeneiaaeaaDoorPureFnFieldInterpolates
import Derived.Test.YtladpdeneiaaeaaDoorOpen
import Derived.Test.YtladpdeneiaaeaaDoorCards
import Derived.Test.YtladpdeneiaaeaaDoorTie
import Derived.WalkKit
import Derived.ProofKit
import Derived.OpenShut
import Derived.ChangeOld
import Derived.Below
import Derived.Carry
import Derived.Deep.DeepHandedRow
import Derived.Lib.LaidTab
import Derived.Stop.LaidErr
namespace Go.Proofs.YtladpdeneiaaeaaDoor.rowFnFieldInterpolates
open Go.ChangeShapes Go.WideShapes Go.ChangeAt Go.RowKit Go.Proofs.YtladpdeneiaaeaaDoorW.PrintWords Go.Proofs.YtladpdeneiaaeaaDoor.PAll
set_option linter.unusedVariables false
theorem own : ownKnob Tryd.prog.godebug = none := by kernel_rfl
theorem laidOut : laidOutB Tryd.prog = true := by kernel_rfl
theorem o5 : Opens Tryd.prog (Kd.int .u8) 5 (fun x => (Lit.int .u8 x).wf = true) := Opens.int Tryd.underlying5 (by kernel_rfl)
theorem o25 : Opens Tryd.prog (Kd.slice 5 (Kd.int .u8)) 25 (fun x => x.length ≤ maxLen ∧ ∀ x' ∈ x, (Lit.int .u8 x').wf = true) := Opens.slice o5 Tryd.underlying25 (by kernel_rfl)
theorem gLog : Tryd.prog.globalNamed "pub-sarsen/pub/reedsolomon.logTable" = some 0 := by kernel_rfl
theorem gLogType : (Tryd.prog.globals[0]?).map (·.type) = some 73 := by kernel_rfl
theorem gExp : Tryd.prog.globalNamed "pub-sarsen/pub/reedsolomon.expTable" = some 1 := by kernel_rfl
theorem gExpType : (Tryd.prog.globals[1]?).map (·.type) = some 73 := by kernel_rfl
theorem cellsTab : Tryd.prog.cellsOf 73 = 256 := by kernel_rfl
theorem cellsByte : Tryd.prog.cellsOf 5 = 1 := by kernel_rfl
theorem logLaid : (Rows.laid_pub_sarsen_pub_reedsolomon_logTable : DataW Unit) = Lib.tabData .u8 logTab := by kernel_rfl
theorem expLaid : (Rows.laid_pub_sarsen_pub_reedsolomon_expTable : DataW Unit) = Lib.tabData .u8 expTab := by kernel_rfl
theorem logLen : logTab.length = 256 := by decide +kernel
theorem expLen : expTab.length = 256 := by decide +kernel
/-- What the row's list gives: the tables' cells hold their numbers. -/
theorem glob_of {W : World} (h : laidMetH Tryd.prog Rows.fnFieldInterpolatesRow.laid W) : Glob W := by
  have h2 : laidMet Tryd.prog [("pub-sarsen/pub/reedsolomon.logTable", Rows.laid_pub_sarsen_pub_reedsolomon_logTable), ("pub-sarsen/pub/reedsolomon.expTable", Rows.laid_pub_sarsen_pub_reedsolomon_expTable)] W := h
  rw [logLaid, expLaid] at h2
  have t1 := Lib.tabIs_of_head gLog gLogType Tryd.underlying73 Tryd.underlying5 cellsByte cellsTab h2
  have t2 := Lib.tabIs_of_head gExp gExpType Tryd.underlying73 Tryd.underlying5 cellsByte cellsTab h2.tail
  exact ⟨fun j hj => t1.cell gLog j (by rw [logLen]; exact hj), fun j hj => t2.cell gExp j (by rw [expLen]; exact hj)⟩
theorem contract (H : Type) (enc : TypeId × Value → H) (W : World) (base : Nat) (args : Array Value) (ds gs : List (DataW H)) (before : List MemPlace)
    (hval : ∀ (j : Nat) t v, Tryd.f4.params[j]? = some t → args[j]? = some v → Value.okWide Tryd.prog W .any base t v)
    (hW : DataW.Whole enc Tryd.prog Tryd.f4.params.toList Rows.fnFieldInterpolatesSpec.vars false W args.toList ds gs before) (hL : laidMetH Tryd.prog Rows.fnFieldInterpolatesRow.laid W) :
    Calls Tryd.prog 4 args W fun e W' => ∃ v, e = .returned v ∧ Rows.fnFieldInterpolatesSpec.post enc Tryd.prog Tryd.f4 false true false false W args v W' := by
  have hW' := hW
  obtain ⟨p, q, hA0, hV, rfl, hfz, hnd⟩ := hW
  have hA : DataW.TrodAll enc Tryd.prog W 0 (fun _ => true) true Tryd.f4.params.toList args.toList ds p := hA0
  rw [Tryd.params4] at hA hval
  obtain ⟨v0, vs0, d0, ds0, p0, q0, hargs, rfl, rfl, h0, r0⟩ := trodAll_cons hA
  obtain ⟨v1, vs1, d1, ds1, p1, q1, rfl, rfl, rfl, h1, r1⟩ := trodAll_cons r0
  obtain ⟨v2, vs2, d2, ds2, p2, q2, rfl, rfl, rfl, h2, r2⟩ := trodAll_cons r1
  obtain ⟨rfl, rfl, rfl⟩ := trodAll_nil r2
  obtain rfl : args = #[v0, v1, v2] := by cases args; simp_all
  obtain ⟨rfl, rfl⟩ := trodVars_none hV
  have t0 := h0
  have lt0 : ∀ x ∈ p0, x.block < W.heap.size := by obtain ⟨m, hm⟩ := t0; exact DataW.trod_lt m _ _ _ hm
  obtain ⟨A0, l0, c0, rfl, hc0, hr0, w0⟩ := o25.arg_slice Tryd.underlying25 (hval 0 25 v0 rfl rfl) h0
  have t1 := h1
  have lt1 : ∀ x ∈ p1, x.block < W.heap.size := by obtain ⟨m, hm⟩ := t1; exact DataW.trod_lt m _ _ _ hm
  obtain ⟨A1, l1, c1, rfl, hc1, hr1, w1⟩ := o25.arg_slice Tryd.underlying25 (hval 1 25 v1 rfl rfl) h1
  obtain ⟨a2, rfl, rfl, rfl, w2⟩ := open_int Tryd.underlying5 (hval 2 5 v2 rfl rfl) h2
  have hG : Glob W := glob_of hL
  clear hA0
  obtain ⟨k, h⟩ := Pure.FnFieldInterpolates l0 l1 a2 w0 w1 w2
  refine (laws_FnFieldInterpolates.calls k A0 c0 l0 A1 c1 l1 a2 true W hG hr0 hc0 hr1 hc1 h).mono fun e W' ⟨he, bel⟩ => ?_
  subst he
  exact ⟨_, rfl, _, _, _, [], _, [], hW', trodAll_mk1 (shut_bool Tryd.underlying4 _), (trodAll_cons_mk (Below.trod laidOut (by kernel_rfl) (of_decide_eq_true (by kernel_rfl)) t0 bel lt0) (trodAll_cons_mk (Below.trod laidOut (by kernel_rfl) (of_decide_eq_true (by kernel_rfl)) t1 bel lt1) (trodAll_cons_mk (shut_int Tryd.underlying5 w2) trodAll_mk0))), rfl, bel.frame _, fun h => by cases h⟩
/-- A block whose cells are these numbers. -/
def holdTab (l : List Int) : Obj → Obj
  | .cells _ t frozen => .cells (l.map fun z => Value.int .u8 z).toArray t frozen
  | o => o
/-- A world for the witness: the settled one, the tables (blocks 0 and 1) holding what their texts lay. -/
noncomputable def laidWorld (os : Os) : World :=
  { World.holding Tryd.prog os ⟨#[], #[], []⟩ with heap := ((World.holding Tryd.prog os ⟨#[], #[], []⟩).heap.modify 0 (holdTab logTab)).modify 1 (holdTab expTab) }
theorem laid_met (os : Os) : laidMet Tryd.prog Rows.fnFieldInterpolatesRow.laid ((laidWorld os).forCall (fun _ _ => 0) ⟨#[], #[.slice none 0 0, .slice none 0 0, .int .u8 0], []⟩).memory :=
  laidMet_of_run' 300 (by kernel_rfl) (by kernel_rfl)
theorem reads (os : Os) {H : Type} (enc : TypeId × Value → H) : DataW.whole enc Tryd.prog ((laidWorld os).forCall (fun _ _ => 0) ⟨#[], #[.slice none 0 0, .slice none 0 0, .int .u8 0], []⟩).memory Tryd.f4.params.toList Rows.fnFieldInterpolatesSpec.vars false #[.slice none 0 0, .slice none 0 0, .int .u8 0].toList 80 = some ([.nil, .nil, .lit (.int .u8 0)], [], []) := by kernel_rfl
set_option maxRecDepth 100000 in
theorem lifted (os : Os) (started : os.Started) (H : Type) (enc : TypeId × Value → H) (F : Stop.Interp) :
    ReturnsInHanded {} Tryd.checked os 4 .any ((OpenSpec.ofChange Rows.fnFieldInterpolatesSpec).preRow enc Tryd.prog Tryd.f4 Rows.fnFieldInterpolatesRow.domain false Rows.fnFieldInterpolatesRow.laid) (((OpenSpec.ofChange Rows.fnFieldInterpolatesSpec).at F).post enc Tryd.prog Tryd.f4 false true false false) := by
  refine returnsInHanded_of_row (C := Tryd.checked) (s := OpenSpec.ofChange Rows.fnFieldInterpolatesSpec) own started (by kernel_rfl) Tryd.func4
    (witness_row_at (enc := enc) (C := Tryd.checked) false (laidWorld os) #[.slice none 0 0, .slice none 0 0, .int .u8 0] rfl (by kernel_rfl) (by kernel_rfl) (by kernel_rfl)
      (OpenSpec.preRow_of_cond 80 (reads os enc) (by kernel_rfl) (fun k hk => by cases hk) (by kernel_rfl) (laid_met os))) ?_
  intro W base args ds gs before hval hW _ _ _ hL _ _
  exact contract H enc W base args ds gs before hval hW hL
theorem said : Rows.FnFieldInterpolatesSaid :=
  OpenClaim.holds_of_cond 4 Tryd.f4 rfl rfl rfl rfl rfl rfl rfl ⟨rfl, rfl, rfl, rfl, rfl⟩ rfl rfl rfl rfl rfl (by kernel_rfl) Tryd.func4 (by kernel_rfl)
    (of_decide_eq_true (by kernel_rfl)) (by unfold Func.isWrapper; first | (rw [if_pos (by decide +kernel)]; kernel_rfl) | (rw [if_neg (by decide +kernel)]; exact ⟨rfl, rfl⟩))
    (fun os started H enc _ F => by rw [OpenClaim.pre_eq_preRow]; exact lifted os started H enc F)
/-- No parameter wants a stand-in; the program's own looks are off: what the card asks. -/
theorem plain (f : FuncId) (fn : Func) (hf : Tryd.pinned.checked.prog.funcNamed "pub-sarsen/laws.FnFieldInterpolates" = some f) (hfn : Tryd.pinned.checked.prog.funcs[f]? = some fn) :
    false = Tryd.pinned.checked.prog.looks [] ∧ ∀ (j : Nat) t, fn.params[j]? = some t → Tryd.pinned.checked.prog.wantsStandIn t = false := by
  obtain rfl : f = 4 := Option.some.inj ((show Tryd.prog.funcNamed "pub-sarsen/laws.FnFieldInterpolates" = some 4 by kernel_rfl).symm.trans hf) |>.symm
  obtain rfl : fn = Tryd.f4 := (Option.some.inj (Tryd.func4.symm.trans hfn)).symm
  refine ⟨by kernel_rfl, fun j t ht => ?_⟩
  rw [Tryd.params4] at ht
  have hm : t = 25 ∨ t = 25 ∨ t = 5 := by simpa using Array.mem_of_getElem? ht
  rcases hm with rfl | rfl | rfl
  · exact (show Tryd.prog.wantsStandIn 25 = false by kernel_rfl)
  · exact (show Tryd.prog.wantsStandIn 25 = false by kernel_rfl)
  · exact (show Tryd.prog.wantsStandIn 5 = false by kernel_rfl)
theorem card : Rows.FnFieldInterpolatesCardSaid :=
  Claim7.holds_tied_plain_at .later [] _ _ _ _ said (fun _ h => by cases h) (by kernel_rfl) (fun _ h => by cases h) fnFieldInterpolates_row_tie rfl ⟨rfl, rfl⟩ (by kernel_rfl) rfl plain (by kernel_rfl)
end Go.Proofs.YtladpdeneiaaeaaDoor.rowFnFieldInterpolates
namespace Go.Proofs.YtladpdeneiaaeaaDoor
/-- The card. -/
theorem fnFieldInterpolates_holds : Rows.FnFieldInterpolatesCardSaid := rowFnFieldInterpolates.card
end Go.Proofs.YtladpdeneiaaeaaDoor
