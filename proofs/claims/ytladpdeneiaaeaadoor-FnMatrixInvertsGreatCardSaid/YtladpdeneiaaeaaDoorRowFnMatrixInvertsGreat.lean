/-
  FnMatrixInvertsGreat: the statement FnMatrixInvertsGreatCardSaid is proved here: for every input the law answers true, and each argument reads afterwards as it read before. The law in words: // product with it is the identity (at most 40 rows and columns).
  Conditions: none of ours beyond the row's own (the listed package-level variables, tied by the card).
-/
import Derived.Test.YtladpdeneiaaeaaDoorRows
import Derived.Test.YtladpdeneiaaeaaDoorPInvx5
import Derived.Test.YtladpdeneiaaeaaDoorPureFnMatrixInvertsGreat
import Derived.Test.YtladpdeneiaaeaaDoorOpen
import Derived.Test.YtladpdeneiaaeaaDoorCards
import Derived.Test.YtladpdeneiaaeaaDoorTie
import Derived.WalkKit
import Derived.ProofKit
import Derived.OpenShut
import Derived.ChangeOld
import Derived.Below
import Derived.Carry
import Derived.Deep.DeepHandedRow
import Derived.Lib.LaidTab
import Derived.Stop.LaidErr
namespace Go.Proofs.YtladpdeneiaaeaaDoor.rowFnMatrixInvertsGreat
open Go.ChangeShapes Go.WideShapes Go.ChangeAt Go.RowKit Go.Proofs.YtladpdeneiaaeaaDoorW.PrintWords Go.Proofs.YtladpdeneiaaeaaDoor.PInv
set_option linter.unusedVariables false
theorem own : ownKnob Tryd.prog.godebug = none := by kernel_rfl
theorem laidOut : laidOutB Tryd.prog = true := by kernel_rfl
theorem o5 : Opens Tryd.prog (Kd.int .u8) 5 (fun x => (Lit.int .u8 x).wf = true) := Opens.int Tryd.underlying5 (by kernel_rfl)
theorem o25 : Opens Tryd.prog (Kd.slice 5 (Kd.int .u8)) 25 (fun x => x.length ≤ maxLen ∧ ∀ x' ∈ x, (Lit.int .u8 x').wf = true) := Opens.slice o5 Tryd.underlying25 (by kernel_rfl)
theorem o31 : Opens Tryd.prog (Kd.slice 25 (Kd.slice 5 (Kd.int .u8))) 31 (fun x => x.length ≤ maxLen ∧ ∀ x' ∈ x, x'.length ≤ maxLen ∧ ∀ x'' ∈ x', (Lit.int .u8 x'').wf = true) := Opens.slice o25 Tryd.underlying31 (by kernel_rfl)
open Go.Proofs.YtladpdeneiaaeaaDoor.PRow (logTab expTab Sent)
theorem gLog : Tryd.prog.globalNamed "pub-sarsen/pub/reedsolomon.logTable" = some 0 := by kernel_rfl
theorem gLogType : (Tryd.prog.globals[0]?).map (·.type) = some 73 := by kernel_rfl
theorem gExp : Tryd.prog.globalNamed "pub-sarsen/pub/reedsolomon.expTable" = some 1 := by kernel_rfl
theorem gExpType : (Tryd.prog.globals[1]?).map (·.type) = some 73 := by kernel_rfl
theorem cellsTab : Tryd.prog.cellsOf 73 = 256 := by kernel_rfl
theorem cellsByte : Tryd.prog.cellsOf 5 = 1 := by kernel_rfl
theorem logLaid : (Rows.laid_pub_sarsen_pub_reedsolomon_logTable : DataW Unit) = Lib.tabData .u8 logTab := by kernel_rfl
theorem expLaid : (Rows.laid_pub_sarsen_pub_reedsolomon_expTable : DataW Unit) = Lib.tabData .u8 expTab := by kernel_rfl
theorem logLen : logTab.length = 256 := by decide +kernel
theorem expLen : expTab.length = 256 := by decide +kernel
theorem star : "*" ++ "errors.errorString" = "*errors.errorString" := by decide
/-- The one type of that name. -/
theorem rowErr (u : TypeId) (h : Tryd.prog.typeName? 3 u = some "*errors.errorString") : u = 79 :=
  typeName_ptr_named (nm := "errors.errorString") (by rw [star]; kernel_rfl) (by kernel_rfl) (by decide) u (by rw [star]; exact h)
theorem cells96 : Tryd.prog.cellsOf 96 = 1 := by kernel_rfl
theorem cells9 : Tryd.prog.cellsOf 9 = 1 := by kernel_rfl
theorem g2 : Tryd.prog.globalNamed "pub-sarsen/pub/reedsolomon.errInvalidRowSize" = some 2 := by kernel_rfl
theorem gt2 : (Tryd.prog.globals[2]?).map (·.type) = some 50 := by kernel_rfl
theorem g5 : Tryd.prog.globalNamed "pub-sarsen/pub/reedsolomon.errInvalidColSize" = some 5 := by kernel_rfl
theorem gt5 : (Tryd.prog.globals[5]?).map (·.type) = some 50 := by kernel_rfl
theorem g6 : Tryd.prog.globalNamed "pub-sarsen/pub/reedsolomon.errColSizeMismatch" = some 6 := by kernel_rfl
theorem gt6 : (Tryd.prog.globals[6]?).map (·.type) = some 50 := by kernel_rfl
theorem g3 : Tryd.prog.globalNamed "pub-sarsen/pub/reedsolomon.errMatrixSize" = some 3 := by kernel_rfl
theorem gt3 : (Tryd.prog.globals[3]?).map (·.type) = some 50 := by kernel_rfl
theorem g7 : Tryd.prog.globalNamed "pub-sarsen/pub/reedsolomon.errSingular" = some 7 := by kernel_rfl
theorem gt7 : (Tryd.prog.globals[7]?).map (·.type) = some 50 := by kernel_rfl
theorem g4 : Tryd.prog.globalNamed "pub-sarsen/pub/reedsolomon.errNotSquare" = some 4 := by kernel_rfl
theorem gt4 : (Tryd.prog.globals[4]?).map (·.type) = some 50 := by kernel_rfl
theorem sent_of {n : String} {text : List UInt8} {r : List (String × DataW Unit)} {W : World} {g : Nat} (h : laidMet Tryd.prog ((n, .iface "*errors.errorString" (.ptr (.agg [.lit (.string text)]))) :: r) W) (hg : Tryd.prog.globalNamed n = some g) (ht : (Tryd.prog.globals[g]?).map (·.type) = some 50) : Sent g W := by
  obtain ⟨a, s, hv, _, _, _⟩ := laid_sentinel h hg ht Tryd.underlying50 rowErr Tryd.underlying79 Tryd.underlying96 rfl rfl Tryd.underlying9 cells96 cells9
  exact ⟨79, a, by simpa using World.var?_cell hg hv 0⟩
/-- What the row's list gives: the variables hold what they should. -/
theorem glob_of {W : World} (h : laidMetH Tryd.prog Rows.fnMatrixInvertsGreatRow.laid W) : Glob W := by
  have h0 : laidMet Tryd.prog [("pub-sarsen/pub/reedsolomon.logTable", Rows.laid_pub_sarsen_pub_reedsolomon_logTable), ("pub-sarsen/pub/reedsolomon.expTable", Rows.laid_pub_sarsen_pub_reedsolomon_expTable), ("pub-sarsen/pub/reedsolomon.errInvalidRowSize", Rows.laid_pub_sarsen_pub_reedsolomon_errInvalidRowSize), ("pub-sarsen/pub/reedsolomon.errInvalidColSize", Rows.laid_pub_sarsen_pub_reedsolomon_errInvalidColSize), ("pub-sarsen/pub/reedsolomon.errColSizeMismatch", Rows.laid_pub_sarsen_pub_reedsolomon_errColSizeMismatch), ("pub-sarsen/pub/reedsolomon.errMatrixSize", Rows.laid_pub_sarsen_pub_reedsolomon_errMatrixSize), ("pub-sarsen/pub/reedsolomon.errSingular", Rows.laid_pub_sarsen_pub_reedsolomon_errSingular), ("pub-sarsen/pub/reedsolomon.errNotSquare", Rows.laid_pub_sarsen_pub_reedsolomon_errNotSquare)] W := h
  rw [logLaid, expLaid] at h0
  have t1 := Lib.tabIs_of_head gLog gLogType Tryd.underlying73 Tryd.underlying5 cellsByte cellsTab h0
  have t2 := Lib.tabIs_of_head gExp gExpType Tryd.underlying73 Tryd.underlying5 cellsByte cellsTab h0.tail
  exact ⟨⟨⟨fun j hj => t1.cell gLog j (by rw [logLen]; exact hj), fun j hj => t2.cell gExp j (by rw [expLen]; exact hj)⟩, sent_of (h0.tail.tail) g2 gt2, sent_of (h0.tail.tail.tail) g5 gt5, sent_of (h0.tail.tail.tail.tail) g6 gt6⟩, sent_of (h0.tail.tail.tail.tail.tail.tail) g7 gt7⟩
/-- A block whose cells are these numbers. -/
def holdTab (l : List Int) : Obj → Obj
  | .cells _ t frozen => .cells (l.map fun z => Value.int .u8 z).toArray t frozen
  | o => o
/-- A block that holds an error. -/
def holdErr (b : Nat) : Obj → Obj
  | .cells _ t frozen => .cells #[.iface 79 (.pointer (some ⟨b, 0, none⟩))] t frozen
  | o => o
def text2 : ByteArray := ⟨#[105, 110, 118, 97, 108, 105, 100, 32, 114, 111, 119, 32, 115, 105, 122, 101]⟩
def text5 : ByteArray := ⟨#[105, 110, 118, 97, 108, 105, 100, 32, 99, 111, 108, 117, 109, 110, 32, 115, 105, 122, 101]⟩
def text6 : ByteArray := ⟨#[99, 111, 108, 117, 109, 110, 32, 115, 105, 122, 101, 32, 105, 115, 32, 110, 111, 116, 32, 116, 104, 101, 32, 115, 97, 109, 101, 32, 102, 111, 114, 32, 97, 108, 108, 32, 114, 111, 119, 115]⟩
def text3 : ByteArray := ⟨#[109, 97, 116, 114, 105, 120, 32, 115, 105, 122, 101, 115, 32, 100, 111, 32, 110, 111, 116, 32, 109, 97, 116, 99, 104]⟩
def text7 : ByteArray := ⟨#[109, 97, 116, 114, 105, 120, 32, 105, 115, 32, 115, 105, 110, 103, 117, 108, 97, 114]⟩
def text4 : ByteArray := ⟨#[111, 110, 108, 121, 32, 115, 113, 117, 97, 114, 101, 32, 109, 97, 116, 114, 105, 99, 101, 115, 32, 99, 97, 110, 32, 98, 101, 32, 105, 110, 118, 101, 114, 116, 101, 100]⟩
/-- So many blocks has the settled world. -/
noncomputable def low : Nat := (World.holding Tryd.prog default ⟨#[], #[], []⟩).heap.size
/-- A world for the witness: the settled one with blocks more, the errors; the variables hold what their texts lay. -/
noncomputable def laidWorld (os : Os) : World :=
  { World.holding Tryd.prog os ⟨#[.cells #[.string text2] 96, .cells #[.string text5] 96, .cells #[.string text6] 96, .cells #[.string text3] 96, .cells #[.string text7] 96, .cells #[.string text4] 96], #[], []⟩ with heap := (((((((((World.holding Tryd.prog os ⟨#[.cells #[.string text2] 96, .cells #[.string text5] 96, .cells #[.string text6] 96, .cells #[.string text3] 96, .cells #[.string text7] 96, .cells #[.string text4] 96], #[], []⟩).heap).modify 0 (holdTab logTab)).modify 1 (holdTab expTab)).modify 2 (holdErr (low + 0))).modify 5 (holdErr (low + 1))).modify 6 (holdErr (low + 2))).modify 3 (holdErr (low + 3))).modify 7 (holdErr (low + 4))).modify 4 (holdErr (low + 5)) }
set_option maxRecDepth 100000 in
theorem contract (H : Type) (enc : TypeId × Value → H) (W : World) (base : Nat) (args : Array Value) (ds gs : List (DataW H)) (before : List MemPlace)
    (hval : ∀ (j : Nat) t v, Tryd.f7.params[j]? = some t → args[j]? = some v → Value.okWide Tryd.prog W .any base t v)
    (hW : DataW.Whole enc Tryd.prog Tryd.f7.params.toList Rows.fnMatrixInvertsGreatSpec.vars false W args.toList ds gs before) (hL : laidMetH Tryd.prog Rows.fnMatrixInvertsGreatRow.laid W) :
    Calls Tryd.prog 7 args W fun e W' => ∃ v, e = .returned v ∧ Rows.fnMatrixInvertsGreatSpec.post enc Tryd.prog Tryd.f7 false true false false W args v W' := by
  have hW' := hW
  obtain ⟨p, q, hA0, hV, rfl, hfz, hnd⟩ := hW
  have hA : DataW.TrodAll enc Tryd.prog W 0 (fun _ => true) true Tryd.f7.params.toList args.toList ds p := hA0
  rw [Tryd.params7] at hA hval
  obtain ⟨v0, vs0, d0, ds0, p0, q0, hargs, rfl, rfl, h0, r0⟩ := trodAll_cons hA
  obtain ⟨rfl, rfl, rfl⟩ := trodAll_nil r0
  obtain rfl : args = #[v0] := by cases args; simp_all
  obtain ⟨rfl, rfl⟩ := trodVars_none hV
  have t0 := h0
  have lt0 : ∀ x ∈ p0, x.block < W.heap.size := by obtain ⟨m, hm⟩ := t0; exact DataW.trod_lt m _ _ _ hm
  obtain ⟨A0, l0, c0, rfl, hc0, hr0, w0⟩ := o31.arg_slice Tryd.underlying31 (hval 0 31 v0 rfl rfl) h0
  have hG : Glob W := glob_of hL
  clear hA0
  obtain ⟨k, h⟩ := Pure.FnMatrixInvertsGreat l0 w0
  refine (laws_FnMatrixInvertsGreat.calls k A0 c0 l0 true W hG hr0 hc0 h).mono fun e W' ⟨he, bel⟩ => ?_
  subst he
  exact ⟨_, rfl, _, _, _, [], _, [], hW', trodAll_mk1 (shut_bool Tryd.underlying4 _), (trodAll_cons_mk (Below.trod laidOut (by kernel_rfl) (of_decide_eq_true (by kernel_rfl)) t0 bel lt0) trodAll_mk0), rfl, bel.frame _, fun h => by cases h⟩
theorem laid_met (os : Os) : laidMet Tryd.prog Rows.fnMatrixInvertsGreatRow.laid ((laidWorld os).forCall (fun _ _ => 0) ⟨#[], #[.slice none 0 0], []⟩).memory :=
  laidMet_of_run' 300 (by kernel_rfl) (by kernel_rfl)
theorem reads (os : Os) {H : Type} (enc : TypeId × Value → H) : DataW.whole enc Tryd.prog ((laidWorld os).forCall (fun _ _ => 0) ⟨#[], #[.slice none 0 0], []⟩).memory Tryd.f7.params.toList Rows.fnMatrixInvertsGreatSpec.vars false #[.slice none 0 0].toList 80 = some ([.nil], [], []) := by kernel_rfl
set_option maxRecDepth 100000 in
theorem lifted (os : Os) (started : os.Started) (H : Type) (enc : TypeId × Value → H) (F : Stop.Interp) :
    ReturnsInHanded {} Tryd.checked os 7 .any ((OpenSpec.ofChange Rows.fnMatrixInvertsGreatSpec).preRow enc Tryd.prog Tryd.f7 Rows.fnMatrixInvertsGreatRow.domain false Rows.fnMatrixInvertsGreatRow.laid) (((OpenSpec.ofChange Rows.fnMatrixInvertsGreatSpec).at F).post enc Tryd.prog Tryd.f7 false true false false) := by
  refine returnsInHanded_of_row (C := Tryd.checked) (s := OpenSpec.ofChange Rows.fnMatrixInvertsGreatSpec) own started (by kernel_rfl) Tryd.func7
    (witness_row_at (enc := enc) (C := Tryd.checked) false (laidWorld os) #[.slice none 0 0] rfl (by kernel_rfl) (by kernel_rfl) (by kernel_rfl)
      (OpenSpec.preRow_of_cond 80 (reads os enc) (by kernel_rfl) (fun k hk => by cases hk) (by kernel_rfl) (laid_met os))) ?_
  intro W base args ds gs before hval hW _ _ _ hL _ _
  exact contract H enc W base args ds gs before hval hW hL
theorem said : Rows.FnMatrixInvertsGreatSaid :=
  OpenClaim.holds_of_cond 7 Tryd.f7 rfl rfl rfl rfl rfl rfl rfl ⟨rfl, rfl, rfl, rfl, rfl⟩ rfl rfl rfl rfl rfl (by kernel_rfl) Tryd.func7 (by kernel_rfl)
    (of_decide_eq_true (by kernel_rfl)) (by unfold Func.isWrapper; first | (rw [if_pos (by decide +kernel)]; kernel_rfl) | (rw [if_neg (by decide +kernel)]; exact ⟨rfl, rfl⟩))
    (fun os started H enc _ F => by rw [OpenClaim.pre_eq_preRow]; exact lifted os started H enc F)
/-- No parameter wants a stand-in; the program's own looks are off: what the card asks. -/
theorem plain (f : FuncId) (fn : Func) (hf : Tryd.pinned.checked.prog.funcNamed "pub-sarsen/laws.FnMatrixInvertsGreat" = some f) (hfn : Tryd.pinned.checked.prog.funcs[f]? = some fn) :
    false = Tryd.pinned.checked.prog.looks [] ∧ ∀ (j : Nat) t, fn.params[j]? = some t → Tryd.pinned.checked.prog.wantsStandIn t = false := by
  obtain rfl : f = 7 := Option.some.inj ((show Tryd.prog.funcNamed "pub-sarsen/laws.FnMatrixInvertsGreat" = some 7 by kernel_rfl).symm.trans hf) |>.symm
  obtain rfl : fn = Tryd.f7 := (Option.some.inj (Tryd.func7.symm.trans hfn)).symm
  refine ⟨by kernel_rfl, fun j t ht => ?_⟩
  rw [Tryd.params7] at ht
  have hm : t = 31 := by simpa using Array.mem_of_getElem? ht
  rcases hm with rfl
  exact (show Tryd.prog.wantsStandIn 31 = false by kernel_rfl)
theorem card : Rows.FnMatrixInvertsGreatCardSaid :=
  Claim7.holds_tied_plain_at .later [] _ _ _ _ said (fun _ h => by cases h) (by kernel_rfl) (fun _ h => by cases h) fnMatrixInvertsGreat_row_tie rfl ⟨rfl, rfl⟩ (by kernel_rfl) rfl plain (by kernel_rfl)
end Go.Proofs.YtladpdeneiaaeaaDoor.rowFnMatrixInvertsGreat
namespace Go.Proofs.YtladpdeneiaaeaaDoor
/-- The card. -/
theorem fnMatrixInvertsGreat_holds : Rows.FnMatrixInvertsGreatCardSaid := rowFnMatrixInvertsGreat.card
end Go.Proofs.YtladpdeneiaaeaaDoor
