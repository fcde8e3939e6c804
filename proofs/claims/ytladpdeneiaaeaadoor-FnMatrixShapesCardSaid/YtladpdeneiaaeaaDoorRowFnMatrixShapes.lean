/-
  FnMatrixShapes: the statement FnMatrixShapesCardSaid is proved here: for every input the law answers true, and each argument reads afterwards as it read before. The law in words: // is no matrix, or has no such rows, is told (at most 40 rows and columns).
  Conditions: none of ours beyond the row's own (the listed package-level variables, tied by the card).
-/
import Derived.Test.YtladpdeneiaaeaaDoorRows
import Derived.Test.YtladpdeneiaaeaaDoorPShpx4
import Derived.Test.YtladpdeneiaaeaaDoorPureFnMatrixShapes
import Derived.Test.YtladpdeneiaaeaaDoorOpen
import Derived.Test.YtladpdeneiaaeaaDoorCards
import Derived.Test.YtladpdeneiaaeaaDoorTie
import Derived.WalkKit
import Derived.ProofKit
import Derived.OpenShut
import Derived.ChangeOld
import Derived.Below
import Derived.Carry
import Derived.Deep.DeepHandedRow
import Derived.Lib.LaidTab
import Derived.Stop.LaidErr
namespace Go.Proofs.YtladpdeneiaaeaaDoor.rowFnMatrixShapes
open Go.ChangeShapes Go.WideShapes Go.ChangeAt Go.RowKit Go.Proofs.YtladpdeneiaaeaaDoorW.PrintWords Go.Proofs.YtladpdeneiaaeaaDoor.PShp
set_option linter.unusedVariables false
theorem own : ownKnob Tryd.prog.godebug = none := by kernel_rfl
theorem laidOut : laidOutB Tryd.prog = true := by kernel_rfl
theorem o5 : Opens Tryd.prog (Kd.int .u8) 5 (fun x => (Lit.int .u8 x).wf = true) := Opens.int Tryd.underlying5 (by kernel_rfl)
theorem o25 : Opens Tryd.prog (Kd.slice 5 (Kd.int .u8)) 25 (fun x => x.length ≤ maxLen ∧ ∀ x' ∈ x, (Lit.int .u8 x').wf = true) := Opens.slice o5 Tryd.underlying25 (by kernel_rfl)
theorem o31 : Opens Tryd.prog (Kd.slice 25 (Kd.slice 5 (Kd.int .u8))) 31 (fun x => x.length ≤ maxLen ∧ ∀ x' ∈ x, x'.length ≤ maxLen ∧ ∀ x'' ∈ x', (Lit.int .u8 x'').wf = true) := Opens.slice o25 Tryd.underlying31 (by kernel_rfl)
theorem o3 : Opens Tryd.prog (Kd.int .i64) 3 (fun x => (Lit.int .i64 x).wf = true) := Opens.int Tryd.underlying3 (by kernel_rfl)
theorem star : "*" ++ "errors.errorString" = "*errors.errorString" := by decide
/-- The one type of that name. -/
theorem rowErr (u : TypeId) (h : Tryd.prog.typeName? 3 u = some "*errors.errorString") : u = 79 :=
  typeName_ptr_named (nm := "errors.errorString") (by rw [star]; kernel_rfl) (by kernel_rfl) (by decide) u (by rw [star]; exact h)
theorem cells96 : Tryd.prog.cellsOf 96 = 1 := by kernel_rfl
theorem cells9 : Tryd.prog.cellsOf 9 = 1 := by kernel_rfl
theorem g2 : Tryd.prog.globalNamed "pub-sarsen/pub/reedsolomon.errInvalidRowSize" = some 2 := by kernel_rfl
theorem gt2 : (Tryd.prog.globals[2]?).map (·.type) = some 50 := by kernel_rfl
theorem g5 : Tryd.prog.globalNamed "pub-sarsen/pub/reedsolomon.errInvalidColSize" = some 5 := by kernel_rfl
theorem gt5 : (Tryd.prog.globals[5]?).map (·.type) = some 50 := by kernel_rfl
theorem g6 : Tryd.prog.globalNamed "pub-sarsen/pub/reedsolomon.errColSizeMismatch" = some 6 := by kernel_rfl
theorem gt6 : (Tryd.prog.globals[6]?).map (·.type) = some 50 := by kernel_rfl
theorem g3 : Tryd.prog.globalNamed "pub-sarsen/pub/reedsolomon.errMatrixSize" = some 3 := by kernel_rfl
theorem gt3 : (Tryd.prog.globals[3]?).map (·.type) = some 50 := by kernel_rfl
theorem sent_of {n : String} {text : List UInt8} {r : List (String × DataW Unit)} {W : World} {g : Nat} (h : laidMet Tryd.prog ((n, .iface "*errors.errorString" (.ptr (.agg [.lit (.string text)]))) :: r) W) (hg : Tryd.prog.globalNamed n = some g) (ht : (Tryd.prog.globals[g]?).map (·.type) = some 50) : Sent g W := by
  obtain ⟨a, s, hv, _, _, _⟩ := laid_sentinel h hg ht Tryd.underlying50 rowErr Tryd.underlying79 Tryd.underlying96 rfl rfl Tryd.underlying9 cells96 cells9
  exact ⟨79, a, by simpa using World.var?_cell hg hv 0⟩
/-- What the row's list gives: the variables hold what they should. -/
theorem glob_of {W : World} (h : laidMetH Tryd.prog Rows.fnMatrixShapesRow.laid W) : Glob W := by
  have h0 : laidMet Tryd.prog [("pub-sarsen/pub/reedsolomon.errInvalidRowSize", Rows.laid_pub_sarsen_pub_reedsolomon_errInvalidRowSize), ("pub-sarsen/pub/reedsolomon.errInvalidColSize", Rows.laid_pub_sarsen_pub_reedsolomon_errInvalidColSize), ("pub-sarsen/pub/reedsolomon.errColSizeMismatch", Rows.laid_pub_sarsen_pub_reedsolomon_errColSizeMismatch), ("pub-sarsen/pub/reedsolomon.errMatrixSize", Rows.laid_pub_sarsen_pub_reedsolomon_errMatrixSize)] W := h
  exact ⟨sent_of h0 g2 gt2, sent_of (h0.tail.tail.tail) g3 gt3, sent_of (h0.tail) g5 gt5, sent_of (h0.tail.tail) g6 gt6⟩
/-- A block that holds an error. -/
def holdErr (b : Nat) : Obj → Obj
  | .cells _ t frozen => .cells #[.iface 79 (.pointer (some ⟨b, 0, none⟩))] t frozen
  | o => o
def text2 : ByteArray := ⟨#[105, 110, 118, 97, 108, 105, 100, 32, 114, 111, 119, 32, 115, 105, 122, 101]⟩
def text5 : ByteArray := ⟨#[105, 110, 118, 97, 108, 105, 100, 32, 99, 111, 108, 117, 109, 110, 32, 115, 105, 122, 101]⟩
def text6 : ByteArray := ⟨#[99, 111, 108, 117, 109, 110, 32, 115, 105, 122, 101, 32, 105, 115, 32, 110, 111, 116, 32, 116, 104, 101, 32, 115, 97, 109, 101, 32, 102, 111, 114, 32, 97, 108, 108, 32, 114, 111, 119, 115]⟩
def text3 : ByteArray := ⟨#[109, 97, 116, 114, 105, 120, 32, 115, 105, 122, 101, 115, 32, 100, 111, 32, 110, 111, 116, 32, 109, 97, 116, 99, 104]⟩
/-- So many blocks has the settled world. -/
noncomputable def low : Nat := (World.holding Tryd.prog default ⟨#[], #[], []⟩).heap.size
/-- A world for the witness: the settled one with blocks more, the errors; the variables hold what their texts lay. -/
noncomputable def laidWorld (os : Os) : World :=
  { World.holding Tryd.prog os ⟨#[.cells #[.string text2] 96, .cells #[.string text5] 96, .cells #[.string text6] 96, .cells #[.string text3] 96], #[], []⟩ with heap := (((((World.holding Tryd.prog os ⟨#[.cells #[.string text2] 96, .cells #[.string text5] 96, .cells #[.string text6] 96, .cells #[.string text3] 96], #[], []⟩).heap).modify 2 (holdErr (low + 0))).modify 5 (holdErr (low + 1))).modify 6 (holdErr (low + 2))).modify 3 (holdErr (low + 3)) }
theorem contract (H : Type) (enc : TypeId × Value → H) (W : World) (base : Nat) (args : Array Value) (ds gs : List (DataW H)) (before : List MemPlace)
    (hval : ∀ (j : Nat) t v, Tryd.f6.params[j]? = some t → args[j]? = some v → Value.okWide Tryd.prog W .any base t v)
    (hW : DataW.Whole enc Tryd.prog Tryd.f6.params.toList Rows.fnMatrixShapesSpec.vars false W args.toList ds gs before) (hL : laidMetH Tryd.prog Rows.fnMatrixShapesRow.laid W) :
    Calls Tryd.prog 6 args W fun e W' => ∃ v, e = .returned v ∧ Rows.fnMatrixShapesSpec.post enc Tryd.prog Tryd.f6 false true false false W args v W' := by
  have hW' := hW
  obtain ⟨p, q, hA0, hV, rfl, hfz, hnd⟩ := hW
  have hA : DataW.TrodAll enc Tryd.prog W 0 (fun _ => true) true Tryd.f6.params.toList args.toList ds p := hA0
  rw [Tryd.params6] at hA hval
  obtain ⟨v0, vs0, d0, ds0, p0, q0, hargs, rfl, rfl, h0, r0⟩ := trodAll_cons hA
  obtain ⟨v1, vs1, d1, ds1, p1, q1, rfl, rfl, rfl, h1, r1⟩ := trodAll_cons r0
  obtain ⟨v2, vs2, d2, ds2, p2, q2, rfl, rfl, rfl, h2, r2⟩ := trodAll_cons r1
  obtain ⟨v3, vs3, d3, ds3, p3, q3, rfl, rfl, rfl, h3, r3⟩ := trodAll_cons r2
  obtain ⟨rfl, rfl, rfl⟩ := trodAll_nil r3
  obtain rfl : args = #[v0, v1, v2, v3] := by cases args; simp_all
  obtain ⟨rfl, rfl⟩ := trodVars_none hV
  have t0 := h0
  have lt0 : ∀ x ∈ p0, x.block < W.heap.size := by obtain ⟨m, hm⟩ := t0; exact DataW.trod_lt m _ _ _ hm
  obtain ⟨A0, l0, c0, rfl, hc0, hr0, w0⟩ := o31.arg_slice Tryd.underlying31 (hval 0 31 v0 rfl rfl) h0
  have t1 := h1
  have lt1 : ∀ x ∈ p1, x.block < W.heap.size := by obtain ⟨m, hm⟩ := t1; exact DataW.trod_lt m _ _ _ hm
  obtain ⟨A1, l1, c1, rfl, hc1, hr1, w1⟩ := o31.arg_slice Tryd.underlying31 (hval 1 31 v1 rfl rfl) h1
  obtain ⟨a2, rfl, rfl, rfl, w2⟩ := open_int Tryd.underlying3 (hval 2 3 v2 rfl rfl) h2
  obtain ⟨a3, rfl, rfl, rfl, w3⟩ := open_int Tryd.underlying3 (hval 3 3 v3 rfl rfl) h3
  have hG : Glob W := glob_of hL
  clear hA0
  obtain ⟨k, h⟩ := Pure.FnMatrixShapes l0 l1 a2 a3 w0 w1 w2 w3
  refine (laws_FnMatrixShapes.calls k A0 c0 l0 A1 c1 l1 a2 a3 true W hG hr0 hc0 hr1 hc1 h).mono fun e W' ⟨he, bel⟩ => ?_
  subst he
  exact ⟨_, rfl, _, _, _, [], _, [], hW', trodAll_mk1 (shut_bool Tryd.underlying4 _), (trodAll_cons_mk (Below.trod laidOut (by kernel_rfl) (of_decide_eq_true (by kernel_rfl)) t0 bel lt0) (trodAll_cons_mk (Below.trod laidOut (by kernel_rfl) (of_decide_eq_true (by kernel_rfl)) t1 bel lt1) (trodAll_cons_mk (shut_int Tryd.underlying3 w2) (trodAll_cons_mk (shut_int Tryd.underlying3 w3) trodAll_mk0)))), rfl, bel.frame _, fun h => by cases h⟩
theorem laid_met (os : Os) : laidMet Tryd.prog Rows.fnMatrixShapesRow.laid ((laidWorld os).forCall (fun _ _ => 0) ⟨#[], #[.slice none 0 0, .slice none 0 0, .int .i64 0, .int .i64 0], []⟩).memory :=
  laidMet_of_run' 300 (by kernel_rfl) (by kernel_rfl)
theorem reads (os : Os) {H : Type} (enc : TypeId × Value → H) : DataW.whole enc Tryd.prog ((laidWorld os).forCall (fun _ _ => 0) ⟨#[], #[.slice none 0 0, .slice none 0 0, .int .i64 0, .int .i64 0], []⟩).memory Tryd.f6.params.toList Rows.fnMatrixShapesSpec.vars false #[.slice none 0 0, .slice none 0 0, .int .i64 0, .int .i64 0].toList 80 = some ([.nil, .nil, .lit (.int .i64 0), .lit (.int .i64 0)], [], []) := by kernel_rfl
set_option maxRecDepth 100000 in
theorem lifted (os : Os) (started : os.Started) (H : Type) (enc : TypeId × Value → H) (F : Stop.Interp) :
    ReturnsInHanded {} Tryd.checked os 6 .any ((OpenSpec.ofChange Rows.fnMatrixShapesSpec).preRow enc Tryd.prog Tryd.f6 Rows.fnMatrixShapesRow.domain false Rows.fnMatrixShapesRow.laid) (((OpenSpec.ofChange Rows.fnMatrixShapesSpec).at F).post enc Tryd.prog Tryd.f6 false true false false) := by
  refine returnsInHanded_of_row (C := Tryd.checked) (s := OpenSpec.ofChange Rows.fnMatrixShapesSpec) own started (by kernel_rfl) Tryd.func6
    (witness_row_at (enc := enc) (C := Tryd.checked) false (laidWorld os) #[.slice none 0 0, .slice none 0 0, .int .i64 0, .int .i64 0] rfl (by kernel_rfl) (by kernel_rfl) (by kernel_rfl)
      (OpenSpec.preRow_of_cond 80 (reads os enc) (by kernel_rfl) (fun k hk => by cases hk) (by kernel_rfl) (laid_met os))) ?_
  intro W base args ds gs before hval hW _ _ _ hL _ _
  exact contract H enc W base args ds gs before hval hW hL
theorem said : Rows.FnMatrixShapesSaid :=
  OpenClaim.holds_of_cond 6 Tryd.f6 rfl rfl rfl rfl rfl rfl rfl ⟨rfl, rfl, rfl, rfl, rfl⟩ rfl rfl rfl rfl rfl (by kernel_rfl) Tryd.func6 (by kernel_rfl)
    (of_decide_eq_true (by kernel_rfl)) (by unfold Func.isWrapper; first | (rw [if_pos (by decide +kernel)]; kernel_rfl) | (rw [if_neg (by decide +kernel)]; exact ⟨rfl, rfl⟩))
    (fun os started H enc _ F => by rw [OpenClaim.pre_eq_preRow]; exact lifted os started H enc F)
/-- No parameter wants a stand-in; the program's own looks are off: what the card asks. -/
theorem plain (f : FuncId) (fn : Func) (hf : Tryd.pinned.checked.prog.funcNamed "pub-sarsen/laws.FnMatrixShapes" = some f) (hfn : Tryd.pinned.checked.prog.funcs[f]? = some fn) :
    false = Tryd.pinned.checked.prog.looks [] ∧ ∀ (j : Nat) t, fn.params[j]? = some t → Tryd.pinned.checked.prog.wantsStandIn t = false := by
  obtain rfl : f = 6 := Option.some.inj ((show Tryd.prog.funcNamed "pub-sarsen/laws.FnMatrixShapes" = some 6 by kernel_rfl).symm.trans hf) |>.symm
  obtain rfl : fn = Tryd.f6 := (Option.some.inj (Tryd.func6.symm.trans hfn)).symm
  refine ⟨by kernel_rfl, fun j t ht => ?_⟩
  rw [Tryd.params6] at ht
  have hm : t = 31 ∨ t = 31 ∨ t = 3 ∨ t = 3 := by simpa using Array.mem_of_getElem? ht
  rcases hm with rfl | rfl | rfl | rfl
  · exact (show Tryd.prog.wantsStandIn 31 = false by kernel_rfl)
  · exact (show Tryd.prog.wantsStandIn 31 = false by kernel_rfl)
  · exact (show Tryd.prog.wantsStandIn 3 = false by kernel_rfl)
  · exact (show Tryd.prog.wantsStandIn 3 = false by kernel_rfl)
theorem card : Rows.FnMatrixShapesCardSaid :=
  Claim7.holds_tied_plain_at .later [] _ _ _ _ said (fun _ h => by cases h) (by kernel_rfl) (fun _ h => by cases h) fnMatrixShapes_row_tie rfl ⟨rfl, rfl⟩ (by kernel_rfl) rfl plain (by kernel_rfl)
end Go.Proofs.YtladpdeneiaaeaaDoor.rowFnMatrixShapes
namespace Go.Proofs.YtladpdeneiaaeaaDoor
/-- The card. -/
theorem fnMatrixShapes_holds : Rows.FnMatrixShapesCardSaid := rowFnMatrixShapes.card
end Go.Proofs.YtladpdeneiaaeaaDoor
