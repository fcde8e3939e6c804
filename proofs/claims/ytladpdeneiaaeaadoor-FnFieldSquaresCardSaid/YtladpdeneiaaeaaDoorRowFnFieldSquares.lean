/-
  FnFieldSquares: the statement FnFieldSquaresCardSaid is proved here: for every input the law answers true, and each argument reads afterwards as it read before. The law in words: squaring goes through sums; squared eight times, each element is itself again; every element is a square of just one.
  Conditions: none of ours beyond the row's own (the listed package-level variables, tied by the card).
-/
import Derived.Test.YtladpdeneiaaeaaDoorRows
import Derived.Test.YtladpdeneiaaeaaDoorPAllx1
import Derived.Test.YtladpdeneiaaeaaDoorPureFnFieldSquares
import Derived.Test.YtladpdeneiaaeaaDoorOpen
import Derived.Test.YtladpdeneiaaeaaDoorCards
import Derived.Test.YtladpdeneiaaeaaDoorTie
import Derived.WalkKit
import Derived.ProofKit
import Derived.OpenShut
import Derived.ChangeOld
import Derived.Below
import Derived.Carry
import Derived.Deep.DeepHandedRow
import Derived.Lib.LaidTab
import Derived.Stop.LaidErr
namespace Go.Proofs.YtladpdeneiaaeaaDoor.rowFnFieldSquares
open Go.ChangeShapes Go.WideShapes Go.ChangeAt Go.RowKit Go.Proofs.YtladpdeneiaaeaaDoorW.PrintWords Go.Proofs.YtladpdeneiaaeaaDoor.PAll
set_option linter.unusedVariables false
theorem own : ownKnob Tryd.prog.godebug = none := by kernel_rfl
theorem laidOut : laidOutB Tryd.prog = true := by kernel_rfl
theorem o5 : Opens Tryd.prog (Kd.int .u8) 5 (fun x => (Lit.int .u8 x).wf = true) := Opens.int Tryd.underlying5 (by kernel_rfl)
theorem gLog : Tryd.prog.globalNamed "pub-sarsen/pub/reedsolomon.logTable" = some 0 := by kernel_rfl
theorem gLogType : (Tryd.prog.globals[0]?).map (·.type) = some 73 := by kernel_rfl
theorem gExp : Tryd.prog.globalNamed "pub-sarsen/pub/reedsolomon.expTable" = some 1 := by kernel_rfl
theorem gExpType : (Tryd.prog.globals[1]?).map (·.type) = some 73 := by kernel_rfl
theorem cellsTab : Tryd.prog.cellsOf 73 = 256 := by kernel_rfl
theorem cellsByte : Tryd.prog.cellsOf 5 = 1 := by kernel_rfl
theorem logLaid : (Rows.laid_pub_sarsen_pub_reedsolomon_logTable : DataW Unit) = Lib.tabData .u8 logTab := by kernel_rfl
theorem expLaid : (Rows.laid_pub_sarsen_pub_reedsolomon_expTable : DataW Unit) = Lib.tabData .u8 expTab := by kernel_rfl
theorem logLen : logTab.length = 256 := by decide +kernel
theorem expLen : expTab.length = 256 := by decide +kernel
/-- What the row's list gives: the tables' cells hold their numbers. -/
theorem glob_of {W : World} (h : laidMetH Tryd.prog Rows.fnFieldSquaresRow.laid W) : Glob W := by
  have h2 : laidMet Tryd.prog [("pub-sarsen/pub/reedsolomon.logTable", Rows.laid_pub_sarsen_pub_reedsolomon_logTable), ("pub-sarsen/pub/reedsolomon.expTable", Rows.laid_pub_sarsen_pub_reedsolomon_expTable)] W := h
  rw [logLaid, expLaid] at h2
  have t1 := Lib.tabIs_of_head gLog gLogType Tryd.underlying73 Tryd.underlying5 cellsByte cellsTab h2
  have t2 := Lib.tabIs_of_head gExp gExpType Tryd.underlying73 Tryd.underlying5 cellsByte cellsTab h2.tail
  exact ⟨fun j hj => t1.cell gLog j (by rw [logLen]; exact hj), fun j hj => t2.cell gExp j (by rw [expLen]; exact hj)⟩
theorem contract (H : Type) (enc : TypeId × Value → H) (W : World) (base : Nat) (args : Array Value) (ds gs : List (DataW H)) (before : List MemPlace)
    (hval : ∀ (j : Nat) t v, Tryd.f3.params[j]? = some t → args[j]? = some v → Value.okWide Tryd.prog W .any base t v)
    (hW : DataW.Whole enc Tryd.prog Tryd.f3.params.toList Rows.fnFieldSquaresSpec.vars false W args.toList ds gs before) (hL : laidMetH Tryd.prog Rows.fnFieldSquaresRow.laid W) :
    Calls Tryd.prog 3 args W fun e W' => ∃ v, e = .returned v ∧ Rows.fnFieldSquaresSpec.post enc Tryd.prog Tryd.f3 false true false false W args v W' := by
  have hW' := hW
  obtain ⟨p, q, hA0, hV, rfl, hfz, hnd⟩ := hW
  have hA : DataW.TrodAll enc Tryd.prog W 0 (fun _ => true) true Tryd.f3.params.toList args.toList ds p := hA0
  rw [Tryd.params3] at hA hval
  obtain ⟨v0, vs0, d0, ds0, p0, q0, hargs, rfl, rfl, h0, r0⟩ := trodAll_cons hA
  obtain ⟨v1, vs1, d1, ds1, p1, q1, rfl, rfl, rfl, h1, r1⟩ := trodAll_cons r0
  obtain ⟨rfl, rfl, rfl⟩ := trodAll_nil r1
  obtain rfl : args = #[v0, v1] := by cases args; simp_all
  obtain ⟨rfl, rfl⟩ := trodVars_none hV
  obtain ⟨a0, rfl, rfl, rfl, w0⟩ := open_int Tryd.underlying5 (hval 0 5 v0 rfl rfl) h0
  obtain ⟨a1, rfl, rfl, rfl, w1⟩ := open_int Tryd.underlying5 (hval 1 5 v1 rfl rfl) h1
  have hG : Glob W := glob_of hL
  clear hA0
  obtain ⟨k, h⟩ := Pure.FnFieldSquares a0 a1 w0 w1
  refine (laws_FnFieldSquares.calls k a0 a1 true W hG h).mono fun e W' ⟨he, bel⟩ => ?_
  subst he
  have bel := bel.below
  exact ⟨_, rfl, _, _, _, [], _, [], hW', trodAll_mk1 (shut_bool Tryd.underlying4 _), (trodAll_cons_mk (shut_int Tryd.underlying5 w0) (trodAll_cons_mk (shut_int Tryd.underlying5 w1) trodAll_mk0)), rfl, bel.frame _, fun h => by cases h⟩
/-- A block whose cells are these numbers. -/
def holdTab (l : List Int) : Obj → Obj
  | .cells _ t frozen => .cells (l.map fun z => Value.int .u8 z).toArray t frozen
  | o => o
/-- A world for the witness: the settled one, the tables (blocks 0 and 1) holding what their texts lay. -/
noncomputable def laidWorld (os : Os) : World :=
  { World.holding Tryd.prog os ⟨#[], #[], []⟩ with heap := ((World.holding Tryd.prog os ⟨#[], #[], []⟩).heap.modify 0 (holdTab logTab)).modify 1 (holdTab expTab) }
theorem laid_met (os : Os) : laidMet Tryd.prog Rows.fnFieldSquaresRow.laid ((laidWorld os).forCall (fun _ _ => 0) ⟨#[], #[.int .u8 0, .int .u8 0], []⟩).memory :=
  laidMet_of_run' 300 (by kernel_rfl) (by kernel_rfl)
theorem reads (os : Os) {H : Type} (enc : TypeId × Value → H) : DataW.whole enc Tryd.prog ((laidWorld os).forCall (fun _ _ => 0) ⟨#[], #[.int .u8 0, .int .u8 0], []⟩).memory Tryd.f3.params.toList Rows.fnFieldSquaresSpec.vars false #[.int .u8 0, .int .u8 0].toList 80 = some ([.lit (.int .u8 0), .lit (.int .u8 0)], [], []) := by kernel_rfl
set_option maxRecDepth 100000 in
theorem lifted (os : Os) (started : os.Started) (H : Type) (enc : TypeId × Value → H) (F : Stop.Interp) :
    ReturnsInHanded {} Tryd.checked os 3 .any ((OpenSpec.ofChange Rows.fnFieldSquaresSpec).preRow enc Tryd.prog Tryd.f3 Rows.fnFieldSquaresRow.domain false Rows.fnFieldSquaresRow.laid) (((OpenSpec.ofChange Rows.fnFieldSquaresSpec).at F).post enc Tryd.prog Tryd.f3 false true false false) := by
  refine returnsInHanded_of_row (C := Tryd.checked) (s := OpenSpec.ofChange Rows.fnFieldSquaresSpec) own started (by kernel_rfl) Tryd.func3
    (witness_row_at (enc := enc) (C := Tryd.checked) false (laidWorld os) #[.int .u8 0, .int .u8 0] rfl (by kernel_rfl) (by kernel_rfl) (by kernel_rfl)
      (OpenSpec.preRow_of_cond 80 (reads os enc) (by kernel_rfl) (fun k hk => by cases hk) (by kernel_rfl) (laid_met os))) ?_
  intro W base args ds gs before hval hW _ _ _ hL _ _
  exact contract H enc W base args ds gs before hval hW hL
theorem said : Rows.FnFieldSquaresSaid :=
  OpenClaim.holds_of_cond 3 Tryd.f3 rfl rfl rfl rfl rfl rfl rfl ⟨rfl, rfl, rfl, rfl, rfl⟩ rfl rfl rfl rfl rfl (by kernel_rfl) Tryd.func3 (by kernel_rfl)
    (of_decide_eq_true (by kernel_rfl)) (by unfold Func.isWrapper; first | (rw [if_pos (by decide +kernel)]; kernel_rfl) | (rw [if_neg (by decide +kernel)]; exact ⟨rfl, rfl⟩))
    (fun os started H enc _ F => by rw [OpenClaim.pre_eq_preRow]; exact lifted os started H enc F)
/-- No parameter wants a stand-in; the program's own looks are off: what the card asks. -/
theorem plain (f : FuncId) (fn : Func) (hf : Tryd.pinned.checked.prog.funcNamed "pub-sarsen/laws.FnFieldSquares" = some f) (hfn : Tryd.pinned.checked.prog.funcs[f]? = some fn) :
    false = Tryd.pinned.checked.prog.looks [] ∧ ∀ (j : Nat) t, fn.params[j]? = some t → Tryd.pinned.checked.prog.wantsStandIn t = false := by
  obtain rfl : f = 3 := Option.some.inj ((show Tryd.prog.funcNamed "pub-sarsen/laws.FnFieldSquares" = some 3 by kernel_rfl).symm.trans hf) |>.symm
  obtain rfl : fn = Tryd.f3 := (Option.some.inj (Tryd.func3.symm.trans hfn)).symm
  refine ⟨by kernel_rfl, fun j t ht => ?_⟩
  rw [Tryd.params3] at ht
  have hm : t = 5 ∨ t = 5 := by simpa using Array.mem_of_getElem? ht
  rcases hm with rfl | rfl
  · exact (show Tryd.prog.wantsStandIn 5 = false by kernel_rfl)
  · exact (show Tryd.prog.wantsStandIn 5 = false by kernel_rfl)
theorem card : Rows.FnFieldSquaresCardSaid :=
  Claim7.holds_tied_plain_at .later [] _ _ _ _ said (fun _ h => by cases h) (by kernel_rfl) (fun _ h => by cases h) fnFieldSquares_row_tie rfl ⟨rfl, rfl⟩ (by kernel_rfl) rfl plain (by kernel_rfl)
end Go.Proofs.YtladpdeneiaaeaaDoor.rowFnFieldSquares
namespace Go.Proofs.YtladpdeneiaaeaaDoor
/-- The card. -/
theorem fnFieldSquares_holds : Rows.FnFieldSquaresCardSaid := rowFnFieldSquares.card
end Go.Proofs.YtladpdeneiaaeaaDoor
