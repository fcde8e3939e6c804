/-
  FnMatrixInvertsGreat: the statement FnMatrixInvertsGreatCardSaid is proved here: for every input the law answers true, and each argument reads afterwards as it read before. The law in words: // product with it is the identity (at most 40 rows and columns).
  Conditions: none of ours beyond the row's own (the listed package-level variables, tied by the card).
-/
import Derived.Test.YtladpdeneiaaeaaDoorRowInvB
import Derived.Test.YtladpdeneiaaeaaDoorRows
import Derived.Test.YtladpdeneiaaeaaDoorPInvx5
import Derived.Test.YtladpdeneiaaeaaDoorPureFnMatrixInvertsGreat
import Derived.Test.YtladpdeneiaaeaaDoorOpen
import Derived.Test.YtladpdeneiaaeaaDoorCards
import Derived.Test.YtladpdeneiaaeaaDoorTie
import Derived.WalkKit
import Derived.ProofKit
import Derived.OpenShut
import Derived.ChangeOld
import Derived.Below
import Derived.Carry
import Derived.Deep.DeepHandedRow
import Derived.Lib.LaidTab
import Derived.Stop.LaidErr
namespace Go.Proofs.YtladpdeneiaaeaaDoor.rowFnMatrixInvertsGreat
open Go.ChangeShapes Go.WideShapes Go.ChangeAt Go.RowKit Go.Proofs.YtladpdeneiaaeaaDoorW.PrintWords Go.Proofs.YtladpdeneiaaeaaDoor.PInv
set_option linter.unusedVariables false
open Go.Proofs.YtladpdeneiaaeaaDoor.PRow (logTab expTab Sent)
set_option maxRecDepth 100000 in
theorem contract (H : Type) (enc : TypeId × Value → H) (W : World) (base : Nat) (args : Array Value) (ds gs : List (DataW H)) (before : List MemPlace)
    (hval : ∀ (j : Nat) t v, Tryd.f7.params[j]? = some t → args[j]? = some v → Value.okWide Tryd.prog W .any base t v)
    (hW : DataW.Whole enc Tryd.prog Tryd.f7.params.toList Rows.fnMatrixInvertsGreatSpec.vars false W args.toList ds gs before) (hL : laidMetH Tryd.prog Rows.fnMatrixInvertsGreatRow.laid W) :
    Calls Tryd.prog 7 args W fun e W' => ∃ v, e = .returned v ∧ Rows.fnMatrixInvertsGreatSpec.post enc Tryd.prog Tryd.f7 false true false false W args v W' := by
  have hW' := hW
  obtain ⟨p, q, hA0, hV, rfl, hfz, hnd⟩ := hW
  have hA : DataW.TrodAll enc Tryd.prog W 0 (fun _ => true) true Tryd.f7.params.toList args.toList ds p := hA0
  rw [Tryd.params7] at hA hval
  obtain ⟨v0, vs0, d0, ds0, p0, q0, hargs, rfl, rfl, h0, r0⟩ := trodAll_cons hA
  obtain ⟨rfl, rfl, rfl⟩ := trodAll_nil r0
  obtain rfl : args = #[v0] := by cases args; simp_all
  obtain ⟨rfl, rfl⟩ := trodVars_none hV
  have t0 := h0
  have lt0 : ∀ x ∈ p0, x.block < W.heap.size := by obtain ⟨m, hm⟩ := t0; exact DataW.trod_lt m _ _ _ hm
  obtain ⟨A0, l0, c0, rfl, hc0, hr0, w0⟩ := o31.arg_slice Tryd.underlying31 (hval 0 31 v0 rfl rfl) h0
  have hG : Glob W := glob_of hL
  clear hA0
  obtain ⟨k, h⟩ := Pure.FnMatrixInvertsGreat l0 w0
  refine (laws_FnMatrixInvertsGreat.calls k A0 c0 l0 true W hG hr0 hc0 h).mono fun e W' ⟨he, bel⟩ => ?_
  subst he
  exact ⟨_, rfl, _, _, _, [], _, [], hW', trodAll_mk1 (shut_bool Tryd.underlying4 _), (trodAll_cons_mk (Below.trod laidOut (by kernel_rfl) (of_decide_eq_true (by kernel_rfl)) t0 bel lt0) trodAll_mk0), rfl, bel.frame _, fun h => by cases h⟩
theorem reads (os : Os) {H : Type} (enc : TypeId × Value → H) : DataW.whole enc Tryd.prog ((laidWorld os).forCall (fun _ _ => 0) ⟨#[], #[.slice none 0 0], []⟩).memory Tryd.f7.params.toList Rows.fnMatrixInvertsGreatSpec.vars false #[.slice none 0 0].toList 80 = some ([.nil], [], []) := by kernel_rfl
set_option maxRecDepth 100000 in
theorem lifted (os : Os) (started : os.Started) (H : Type) (enc : TypeId × Value → H) (F : Stop.Interp) :
    ReturnsInHanded {} Tryd.checked os 7 .any ((OpenSpec.ofChange Rows.fnMatrixInvertsGreatSpec).preRow enc Tryd.prog Tryd.f7 Rows.fnMatrixInvertsGreatRow.domain false Rows.fnMatrixInvertsGreatRow.laid) (((OpenSpec.ofChange Rows.fnMatrixInvertsGreatSpec).at F).post enc Tryd.prog Tryd.f7 false true false false) := by
  refine returnsInHanded_of_row (C := Tryd.checked) (s := OpenSpec.ofChange Rows.fnMatrixInvertsGreatSpec) own started (by kernel_rfl) Tryd.func7
    (witness_row_at (enc := enc) (C := Tryd.checked) false (laidWorld os) #[.slice none 0 0] rfl (by kernel_rfl) (by kernel_rfl) (by kernel_rfl)
      (OpenSpec.preRow_of_cond 80 (reads os enc) (by kernel_rfl) (fun k hk => by cases hk) (by kernel_rfl) (laid_met os))) ?_
  intro W base args ds gs before hval hW _ _ _ hL _ _
  exact contract H enc W base args ds gs before hval hW hL
theorem said : Rows.FnMatrixInvertsGreatSaid :=
  OpenClaim.holds_of_cond 7 Tryd.f7 rfl rfl rfl rfl rfl rfl rfl ⟨rfl, rfl, rfl, rfl, rfl⟩ rfl rfl rfl rfl rfl (by kernel_rfl) Tryd.func7 (by kernel_rfl)
    (of_decide_eq_true (by kernel_rfl)) (by unfold Func.isWrapper; first | (rw [if_pos (by decide +kernel)]; kernel_rfl) | (rw [if_neg (by decide +kernel)]; exact ⟨rfl, rfl⟩))
    (fun os started H enc _ F => by rw [OpenClaim.pre_eq_preRow]; exact lifted os started H enc F)
/-- No parameter wants a stand-in; the program's own looks are off: what the card asks. -/
theorem plain (f : FuncId) (fn : Func) (hf : Tryd.pinned.checked.prog.funcNamed "pub-sarsen/laws.FnMatrixInvertsGreat" = some f) (hfn : Tryd.pinned.checked.prog.funcs[f]? = some fn) :
    false = Tryd.pinned.checked.prog.looks [] ∧ ∀ (j : Nat) t, fn.params[j]? = some t → Tryd.pinned.checked.prog.wantsStandIn t = false := by
  obtain rfl : f = 7 := Option.some.inj ((show Tryd.prog.funcNamed "pub-sarsen/laws.FnMatrixInvertsGreat" = some 7 by kernel_rfl).symm.trans hf) |>.symm
  obtain rfl : fn = Tryd.f7 := (Option.some.inj (Tryd.func7.symm.trans hfn)).symm
  refine ⟨by kernel_rfl, fun j t ht => ?_⟩
  rw [Tryd.params7] at ht
  have hm : t = 31 := by simpa using Array.mem_of_getElem? ht
  rcases hm with rfl
  exact (show Tryd.prog.wantsStandIn 31 = false by kernel_rfl)
theorem card : Rows.FnMatrixInvertsGreatCardSaid :=
  Claim7.holds_tied_plain_at .later [] _ _ _ _ said (fun _ h => by cases h) (by kernel_rfl) (fun _ h => by cases h) fnMatrixInvertsGreat_row_tie rfl ⟨rfl, rfl⟩ (by kernel_rfl) rfl plain (by kernel_rfl)
end Go.Proofs.YtladpdeneiaaeaaDoor.rowFnMatrixInvertsGreat
namespace Go.Proofs.YtladpdeneiaaeaaDoor
/-- The card. -/
theorem fnMatrixInvertsGreat_holds : Rows.FnMatrixInvertsGreatCardSaid := rowFnMatrixInvertsGreat.card
end Go.Proofs.YtladpdeneiaaeaaDoor
