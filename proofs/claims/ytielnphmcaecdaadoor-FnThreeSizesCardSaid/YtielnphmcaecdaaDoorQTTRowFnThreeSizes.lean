/-
  FnThreeSizes: the statement FnThreeSizesCardSaid is proved here: for every input the law answers true, and each argument reads afterwards as it read before. The law in words: of three ranges that follow each other from 0 on, the first two not empty, the proofs between any two of the three logs that they make are made from their hashes alone, and all three are taken with the three roots: what is consistent with a log that is consistent with a third one is consistent with that (ranges of at most 300 hashes of at most 5000 bytes).
  Conditions: none of ours beyond the row's own (the listed package-level variables, tied by the card).
-/
import Derived.Test.YtielnphmcaecdaaDoorRows
import Derived.Test.YtielnphmcaecdaaDoorQTTMergeLaw
import Derived.Test.YtielnphmcaecdaaDoorQTTOpen
import Derived.Test.YtielnphmcaecdaaDoorCards
import Derived.Test.YtielnphmcaecdaaDoorTie
import Derived.WalkKit
import Derived.ProofKit
import Derived.OpenShut
import Derived.ChangeOld
import Derived.Below
import Derived.Carry
import Derived.Deep.DeepHandedRow
import Derived.Lib.LaidTab
import Derived.Stop.LaidErr
namespace Go.Proofs.YtielnphmcaecdaaDoor.rowFnThreeSizes
open Go.ChangeShapes Go.WideShapes Go.ChangeAt Go.RowKit Go.Proofs.YtielnphmcaecdaaDoorW.PrintWords Go.Proofs.YtielnphmcaecdaaDoor.PAll
set_option linter.unusedVariables false
theorem own : ownKnob Tryd.prog.godebug = none := by kernel_rfl
theorem laidOut : laidOutB Tryd.prog = true := by kernel_rfl
theorem o3 : Opens Tryd.prog (Kd.int .i64) 3 (fun x => (Lit.int .i64 x).wf = true) := Opens.int Tryd.underlying3 (by kernel_rfl)
theorem o22 : Opens Tryd.prog (Kd.int .u64) 22 (fun x => (Lit.int .u64 x).wf = true) := Opens.int Tryd.underlying22 (by kernel_rfl)
theorem o24 : Opens Tryd.prog k24 24 (fun x => ((Lit.int .i64 x.f0).wf = true) ∧ ((Lit.int .i64 x.f1).wf = true) ∧ ((Lit.int .i64 x.f2).wf = true) ∧ ((Lit.int .u64 x.f3).wf = true) ∧ ((Lit.int .u64 x.f4).wf = true) ∧ ((Lit.int .u64 x.f5).wf = true)) := Opens.struct (d := (Kd.pair (Kd.int .i64) (Kd.pair (Kd.int .i64) (Kd.pair (Kd.int .i64) (Kd.pair (Kd.int .u64) (Kd.pair (Kd.int .u64) (Kd.int .u64))))))) (wf := (fun x : Int × Int × Int × Int × Int × Int => ((Lit.int .i64 x.1).wf = true) ∧ ((Lit.int .i64 x.2.1).wf = true) ∧ ((Lit.int .i64 x.2.2.1).wf = true) ∧ ((Lit.int .u64 x.2.2.2.1).wf = true) ∧ ((Lit.int .u64 x.2.2.2.2.1).wf = true) ∧ ((Lit.int .u64 x.2.2.2.2.2).wf = true))) Tryd.underlying24 (by exact (OpensFs.cons (wf := fun x : Int => (Lit.int .i64 x).wf = true) (wf' := fun x : Int × Int × Int × Int × Int => ((Lit.int .i64 x.1).wf = true) ∧ ((Lit.int .i64 x.2.1).wf = true) ∧ ((Lit.int .u64 x.2.2.1).wf = true) ∧ ((Lit.int .u64 x.2.2.2.1).wf = true) ∧ ((Lit.int .u64 x.2.2.2.2).wf = true)) (by exact o3) (by rfl) (OpensFs.cons (wf := fun x : Int => (Lit.int .i64 x).wf = true) (wf' := fun x : Int × Int × Int × Int => ((Lit.int .i64 x.1).wf = true) ∧ ((Lit.int .u64 x.2.1).wf = true) ∧ ((Lit.int .u64 x.2.2.1).wf = true) ∧ ((Lit.int .u64 x.2.2.2).wf = true)) (by exact o3) (by rfl) (OpensFs.cons (wf := fun x : Int => (Lit.int .i64 x).wf = true) (wf' := fun x : Int × Int × Int => ((Lit.int .u64 x.1).wf = true) ∧ ((Lit.int .u64 x.2.1).wf = true) ∧ ((Lit.int .u64 x.2.2).wf = true)) (by exact o3) (by rfl) (OpensFs.cons (wf := fun x : Int => (Lit.int .u64 x).wf = true) (wf' := fun x : Int × Int => ((Lit.int .u64 x.1).wf = true) ∧ ((Lit.int .u64 x.2).wf = true)) (by exact o22) (by rfl) (OpensFs.cons (wf := fun x : Int => (Lit.int .u64 x).wf = true) (wf' := fun x : Int => ((Lit.int .u64 x).wf = true)) (by exact o22) (by rfl) (OpensFs.last (by exact o22) (by rfl)))))))) (by kernel_rfl) (fun x : S24 => (x.f0, x.f1, x.f2, x.f3, x.f4, x.f5)) (fun x => ⟨x.1, x.2.1, x.2.2.1, x.2.2.2.1, x.2.2.2.2.1, x.2.2.2.2.2⟩) (fun _ => rfl)
theorem o5 : Opens Tryd.prog (Kd.int .u8) 5 (fun x => (Lit.int .u8 x).wf = true) := Opens.int Tryd.underlying5 (by kernel_rfl)
theorem o27 : Opens Tryd.prog (Kd.slice 5 (Kd.int .u8)) 27 (fun x => x.length ≤ maxLen ∧ ∀ x' ∈ x, (Lit.int .u8 x').wf = true) := Opens.slice o5 Tryd.underlying27 (by kernel_rfl)
theorem o25 : Opens Tryd.prog (Kd.slice 27 (Kd.slice 5 (Kd.int .u8))) 25 (fun x => x.length ≤ maxLen ∧ ∀ x' ∈ x, x'.length ≤ maxLen ∧ ∀ x'' ∈ x', (Lit.int .u8 x'').wf = true) := Opens.slice o27 Tryd.underlying25 (by kernel_rfl)
theorem o34 : Opens Tryd.prog k34 34 (fun x => ((Lit.int .u64 x.f0).wf = true) ∧ ((Lit.int .u64 x.f1).wf = true) ∧ (x.f2.length ≤ maxLen ∧ ∀ x_f2' ∈ x.f2, x_f2'.length ≤ maxLen ∧ ∀ x_f2'' ∈ x_f2', (Lit.int .u8 x_f2'').wf = true)) := Opens.struct (d := (Kd.pair (Kd.int .u64) (Kd.pair (Kd.int .u64) (Kd.slice 27 (Kd.slice 5 (Kd.int .u8)))))) (wf := (fun x : Int × Int × List (List (Int)) => ((Lit.int .u64 x.1).wf = true) ∧ ((Lit.int .u64 x.2.1).wf = true) ∧ (x.2.2.length ≤ maxLen ∧ ∀ x_2_2' ∈ x.2.2, x_2_2'.length ≤ maxLen ∧ ∀ x_2_2'' ∈ x_2_2', (Lit.int .u8 x_2_2'').wf = true))) Tryd.underlying34 (by exact (OpensFs.cons (wf := fun x : Int => (Lit.int .u64 x).wf = true) (wf' := fun x : Int × List (List (Int)) => ((Lit.int .u64 x.1).wf = true) ∧ (x.2.length ≤ maxLen ∧ ∀ x_2' ∈ x.2, x_2'.length ≤ maxLen ∧ ∀ x_2'' ∈ x_2', (Lit.int .u8 x_2'').wf = true)) (by exact o22) (by rfl) (OpensFs.cons (wf := fun x : Int => (Lit.int .u64 x).wf = true) (wf' := fun x : List (List (Int)) => (x.length ≤ maxLen ∧ ∀ x' ∈ x, x'.length ≤ maxLen ∧ ∀ x'' ∈ x', (Lit.int .u8 x'').wf = true)) (by exact o22) (by rfl) (OpensFs.last (by exact o25) (by rfl))))) (by kernel_rfl) (fun x : S34 => (x.f0, x.f1, x.f2)) (fun x => ⟨x.1, x.2.1, x.2.2⟩) (fun _ => rfl)
theorem gTab : Tryd.prog.globalNamed "math/bits.deBruijn64tab" = some 0 := by kernel_rfl
theorem gTabType : (Tryd.prog.globals[0]?).map (·.type) = some 178 := by kernel_rfl
theorem cellsTab : Tryd.prog.cellsOf 178 = 64 := by kernel_rfl
theorem cellsByte : Tryd.prog.cellsOf 5 = 1 := by kernel_rfl
theorem glob_of {W : World} (h : laidMetH Tryd.prog Rows.fnThreeSizesRow.laid W) : Glob W := fun j hj =>
  (show Lib.TabIs Tryd.prog W "math/bits.deBruijn64tab" .u8 tzTab from Lib.tabIs_of_head (rest := []) gTab gTabType Tryd.underlying178 Tryd.underlying5 cellsByte cellsTab h).cell gTab j hj
set_option maxRecDepth 100000 in
theorem contract (H : Type) (enc : TypeId × Value → H) (W : World) (base : Nat) (args : Array Value) (ds gs : List (DataW H)) (before : List MemPlace)
    (hval : ∀ (j : Nat) t v, Tryd.f11.params[j]? = some t → args[j]? = some v → Value.okWide Tryd.prog W .any base t v)
    (hW : DataW.Whole enc Tryd.prog Tryd.f11.params.toList Rows.fnThreeSizesSpec.vars false W args.toList ds gs before) (hL : laidMetH Tryd.prog Rows.fnThreeSizesRow.laid W) :
    Calls Tryd.prog 11 args W fun e W' => ∃ v, e = .returned v ∧ Rows.fnThreeSizesSpec.post enc Tryd.prog Tryd.f11 false true false false W args v W' := by
  have hW' := hW
  obtain ⟨p, q, hA0, hV, rfl, hfz, hnd⟩ := hW
  have hA : DataW.TrodAll enc Tryd.prog W 0 (fun _ => true) true Tryd.f11.params.toList args.toList ds p := hA0
  rw [Tryd.params11] at hA hval
  obtain ⟨v0, vs0, d0, ds0, p0, q0, hargs, rfl, rfl, h0, r0⟩ := trodAll_cons hA
  obtain ⟨v1, vs1, d1, ds1, p1, q1, rfl, rfl, rfl, h1, r1⟩ := trodAll_cons r0
  obtain ⟨v2, vs2, d2, ds2, p2, q2, rfl, rfl, rfl, h2, r2⟩ := trodAll_cons r1
  obtain ⟨v3, vs3, d3, ds3, p3, q3, rfl, rfl, rfl, h3, r3⟩ := trodAll_cons r2
  obtain ⟨rfl, rfl, rfl⟩ := trodAll_nil r3
  obtain rfl : args = #[v0, v1, v2, v3] := by cases args; simp_all
  obtain ⟨rfl, rfl⟩ := trodVars_none hV
  have t0 := h0
  have lt0 : ∀ x ∈ p0, x.block < W.heap.size := by obtain ⟨m, hm⟩ := t0; exact DataW.trod_lt m _ _ _ hm
  obtain ⟨x0, cs0, rfl, hK0, w0⟩ := o24.arg_struct Tryd.underlying24 (hval 0 24 v0 rfl rfl) h0
  obtain rfl := k24_open hK0
  have t1 := h1
  have lt1 : ∀ x ∈ p1, x.block < W.heap.size := by obtain ⟨m, hm⟩ := t1; exact DataW.trod_lt m _ _ _ hm
  obtain ⟨x1, cs1, rfl, hK1, w1⟩ := o34.arg_struct Tryd.underlying34 (hval 1 34 v1 rfl rfl) h1
  obtain ⟨A1_2, c1_2, rfl, hc1_2, hr1_2⟩ := k34_open hK1
  have t2 := h2
  have lt2 : ∀ x ∈ p2, x.block < W.heap.size := by obtain ⟨m, hm⟩ := t2; exact DataW.trod_lt m _ _ _ hm
  obtain ⟨x2, cs2, rfl, hK2, w2⟩ := o34.arg_struct Tryd.underlying34 (hval 2 34 v2 rfl rfl) h2
  obtain ⟨A2_2, c2_2, rfl, hc2_2, hr2_2⟩ := k34_open hK2
  have t3 := h3
  have lt3 : ∀ x ∈ p3, x.block < W.heap.size := by obtain ⟨m, hm⟩ := t3; exact DataW.trod_lt m _ _ _ hm
  obtain ⟨x3, cs3, rfl, hK3, w3⟩ := o34.arg_struct Tryd.underlying34 (hval 3 34 v3 rfl rfl) h3
  obtain ⟨A3_2, c3_2, rfl, hc3_2, hr3_2⟩ := k34_open hK3
  have hG : Glob W := glob_of hL
  clear hA0
  obtain ⟨k, h⟩ := Pure.FnThreeSizes x0 x1 x2 x3 w0 w1 w2 w3
  refine (laws_FnThreeSizes.calls k x0.f0 x0.f1 x0.f2 x0.f3 x0.f4 x0.f5 x1.f0 x1.f1 A1_2 c1_2 x1.f2 x2.f0 x2.f1 A2_2 c2_2 x2.f2 x3.f0 x3.f1 A3_2 c3_2 x3.f2 true W hG hr1_2 hc1_2 hr2_2 hc2_2 hr3_2 hc3_2 h).mono fun e W' ⟨he, bel⟩ => ?_
  subst he
  exact ⟨_, rfl, _, _, _, [], _, [], hW', trodAll_mk1 (shut_bool Tryd.underlying4 _), (trodAll_cons_mk (Below.trod laidOut (by kernel_rfl) (of_decide_eq_true (by kernel_rfl)) t0 bel lt0) (trodAll_cons_mk (Below.trod laidOut (by kernel_rfl) (of_decide_eq_true (by kernel_rfl)) t1 bel lt1) (trodAll_cons_mk (Below.trod laidOut (by kernel_rfl) (of_decide_eq_true (by kernel_rfl)) t2 bel lt2) (trodAll_cons_mk (Below.trod laidOut (by kernel_rfl) (of_decide_eq_true (by kernel_rfl)) t3 bel lt3) trodAll_mk0)))), rfl, bel.frame _, fun h => by cases h⟩
noncomputable def laidWorld (os : Os) : World :=
  { World.holding Tryd.prog os ⟨#[], #[], []⟩ with heap := (World.holding Tryd.prog os ⟨#[], #[], []⟩).heap.modify 0 fun
      | .cells _ t frozen => .cells (tzTab.map fun z => Value.int .u8 z).toArray t frozen
      | o => o }
theorem laid_met (os : Os) : laidMet Tryd.prog Rows.fnThreeSizesRow.laid ((laidWorld os).forCall (fun _ _ => 0) ⟨#[], #[.agg #[.int .i64 0, .int .i64 0, .int .i64 0, .int .u64 0, .int .u64 0, .int .u64 0], .agg #[.int .u64 0, .int .u64 0, .slice none 0 0], .agg #[.int .u64 0, .int .u64 0, .slice none 0 0], .agg #[.int .u64 0, .int .u64 0, .slice none 0 0]], []⟩).memory :=
  laidMet_of_run' 80 (by kernel_rfl) (by kernel_rfl)
theorem reads (os : Os) {H : Type} (enc : TypeId × Value → H) : DataW.whole enc Tryd.prog ((laidWorld os).forCall (fun _ _ => 0) ⟨#[], #[.agg #[.int .i64 0, .int .i64 0, .int .i64 0, .int .u64 0, .int .u64 0, .int .u64 0], .agg #[.int .u64 0, .int .u64 0, .slice none 0 0], .agg #[.int .u64 0, .int .u64 0, .slice none 0 0], .agg #[.int .u64 0, .int .u64 0, .slice none 0 0]], []⟩).memory Tryd.f11.params.toList Rows.fnThreeSizesSpec.vars false #[.agg #[.int .i64 0, .int .i64 0, .int .i64 0, .int .u64 0, .int .u64 0, .int .u64 0], .agg #[.int .u64 0, .int .u64 0, .slice none 0 0], .agg #[.int .u64 0, .int .u64 0, .slice none 0 0], .agg #[.int .u64 0, .int .u64 0, .slice none 0 0]].toList 80 = some ([.agg [.lit (.int .i64 0), .lit (.int .i64 0), .lit (.int .i64 0), .lit (.int .u64 0), .lit (.int .u64 0), .lit (.int .u64 0)], .agg [.lit (.int .u64 0), .lit (.int .u64 0), .nil], .agg [.lit (.int .u64 0), .lit (.int .u64 0), .nil], .agg [.lit (.int .u64 0), .lit (.int .u64 0), .nil]], [], []) := by kernel_rfl
set_option maxRecDepth 100000 in
theorem lifted (os : Os) (started : os.Started) (H : Type) (enc : TypeId × Value → H) (F : Stop.Interp) :
    ReturnsInHanded {} Tryd.checked os 11 .any ((OpenSpec.ofChange Rows.fnThreeSizesSpec).preRow enc Tryd.prog Tryd.f11 Rows.fnThreeSizesRow.domain false Rows.fnThreeSizesRow.laid) (((OpenSpec.ofChange Rows.fnThreeSizesSpec).at F).post enc Tryd.prog Tryd.f11 false true false false) := by
  refine returnsInHanded_of_row (C := Tryd.checked) (s := OpenSpec.ofChange Rows.fnThreeSizesSpec) own started (by kernel_rfl) Tryd.func11
    (witness_row_at (enc := enc) (C := Tryd.checked) false (laidWorld os) #[.agg #[.int .i64 0, .int .i64 0, .int .i64 0, .int .u64 0, .int .u64 0, .int .u64 0], .agg #[.int .u64 0, .int .u64 0, .slice none 0 0], .agg #[.int .u64 0, .int .u64 0, .slice none 0 0], .agg #[.int .u64 0, .int .u64 0, .slice none 0 0]] rfl (by kernel_rfl) (by kernel_rfl) (by kernel_rfl)
      (OpenSpec.preRow_of_cond 80 (reads os enc) (by kernel_rfl) (fun k hk => by cases hk) (by kernel_rfl) (laid_met os))) ?_
  intro W base args ds gs before hval hW _ _ _ hL _ _
  exact contract H enc W base args ds gs before hval hW hL
theorem said : Rows.FnThreeSizesSaid :=
  OpenClaim.holds_of_cond 11 Tryd.f11 rfl rfl rfl rfl rfl rfl rfl ⟨rfl, rfl, rfl, rfl, rfl⟩ rfl rfl rfl rfl rfl (by kernel_rfl) Tryd.func11 (by kernel_rfl)
    (of_decide_eq_true (by kernel_rfl)) (by unfold Func.isWrapper; first | (rw [if_pos (by decide +kernel)]; kernel_rfl) | (rw [if_neg (by decide +kernel)]; exact ⟨rfl, rfl⟩))
    (fun os started H enc _ F => by rw [OpenClaim.pre_eq_preRow]; exact lifted os started H enc F)
theorem plain (f : FuncId) (fn : Func) (hf : Tryd.pinned.checked.prog.funcNamed "pub-sarsen/laws.FnThreeSizes" = some f) (hfn : Tryd.pinned.checked.prog.funcs[f]? = some fn) :
    true = Tryd.pinned.checked.prog.looks [] ∧ ∀ (j : Nat) t, fn.params[j]? = some t → Tryd.pinned.checked.prog.wantsStandIn t = false := by
  obtain rfl : f = 11 := Option.some.inj ((show Tryd.prog.funcNamed "pub-sarsen/laws.FnThreeSizes" = some 11 by kernel_rfl).symm.trans hf) |>.symm
  obtain rfl : fn = Tryd.f11 := (Option.some.inj (Tryd.func11.symm.trans hfn)).symm
  refine ⟨by kernel_rfl, fun j t ht => ?_⟩
  rw [Tryd.params11] at ht
  have hm : t = 24 ∨ t = 34 ∨ t = 34 ∨ t = 34 := by simpa using Array.mem_of_getElem? ht
  rcases hm with rfl | rfl | rfl | rfl
  · exact (show Tryd.prog.wantsStandIn 24 = false by kernel_rfl)
  · exact (show Tryd.prog.wantsStandIn 34 = false by kernel_rfl)
  · exact (show Tryd.prog.wantsStandIn 34 = false by kernel_rfl)
  · exact (show Tryd.prog.wantsStandIn 34 = false by kernel_rfl)
theorem card : Rows.FnThreeSizesCardSaid :=
  Claim7.holds_tied_plain_at .later [] _ _ _ _ said (fun _ h => by cases h) (by kernel_rfl) (fun _ h => by cases h) fnThreeSizes_row_tie rfl ⟨rfl, rfl⟩ (by kernel_rfl) rfl plain (by kernel_rfl)
end Go.Proofs.YtielnphmcaecdaaDoor.rowFnThreeSizes
namespace Go.Proofs.YtielnphmcaecdaaDoor
theorem fnThreeSizes_holds : Rows.FnThreeSizesCardSaid := rowFnThreeSizes.card
end Go.Proofs.YtielnphmcaecdaaDoor
