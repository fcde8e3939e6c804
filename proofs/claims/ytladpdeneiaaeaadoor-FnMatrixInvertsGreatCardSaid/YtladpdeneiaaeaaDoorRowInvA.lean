/- The row of FnMatrixInvertsGreat, first part: what its list of variables gives, and a world for the witness. -/
import Derived.Test.YtladpdeneiaaeaaDoorRows
import Derived.Test.YtladpdeneiaaeaaDoorPInvx5
import Derived.Test.YtladpdeneiaaeaaDoorPureFnMatrixInvertsGreat
import Derived.Test.YtladpdeneiaaeaaDoorOpen
import Derived.Test.YtladpdeneiaaeaaDoorCards
import Derived.Test.YtladpdeneiaaeaaDoorTie
import Derived.WalkKit
import Derived.ProofKit
import Derived.OpenShut
import Derived.ChangeOld
import Derived.Below
import Derived.Carry
import Derived.Deep.DeepHandedRow
import Derived.Lib.LaidTab
import Derived.Stop.LaidErr
namespace Go.Proofs.YtladpdeneiaaeaaDoor.rowFnMatrixInvertsGreat
open Go.ChangeShapes Go.WideShapes Go.ChangeAt Go.RowKit Go.Proofs.YtladpdeneiaaeaaDoorW.PrintWords Go.Proofs.YtladpdeneiaaeaaDoor.PInv
set_option linter.unusedVariables false
theorem own : ownKnob Tryd.prog.godebug = none := by kernel_rfl
theorem laidOut : laidOutB Tryd.prog = true := by kernel_rfl
theorem o5 : Opens Tryd.prog (Kd.int .u8) 5 (fun x => (Lit.int .u8 x).wf = true) := Opens.int Tryd.underlying5 (by kernel_rfl)
theorem o25 : Opens Tryd.prog (Kd.slice 5 (Kd.int .u8)) 25 (fun x => x.length ≤ maxLen ∧ ∀ x' ∈ x, (Lit.int .u8 x').wf = true) := Opens.slice o5 Tryd.underlying25 (by kernel_rfl)
theorem o31 : Opens Tryd.prog (Kd.slice 25 (Kd.slice 5 (Kd.int .u8))) 31 (fun x => x.length ≤ maxLen ∧ ∀ x' ∈ x, x'.length ≤ maxLen ∧ ∀ x'' ∈ x', (Lit.int .u8 x'').wf = true) := Opens.slice o25 Tryd.underlying31 (by kernel_rfl)
open Go.Proofs.YtladpdeneiaaeaaDoor.PRow (logTab expTab Sent)
theorem gLog : Tryd.prog.globalNamed "pub-sarsen/pub/reedsolomon.logTable" = some 0 := by kernel_rfl
theorem gLogType : (Tryd.prog.globals[0]?).map (·.type) = some 73 := by kernel_rfl
theorem gExp : Tryd.prog.globalNamed "pub-sarsen/pub/reedsolomon.expTable" = some 1 := by kernel_rfl
theorem gExpType : (Tryd.prog.globals[1]?).map (·.type) = some 73 := by kernel_rfl
theorem cellsTab : Tryd.prog.cellsOf 73 = 256 := by kernel_rfl
theorem cellsByte : Tryd.prog.cellsOf 5 = 1 := by kernel_rfl
theorem logLaid : (Rows.laid_pub_sarsen_pub_reedsolomon_logTable : DataW Unit) = Lib.tabData .u8 logTab := by kernel_rfl
theorem expLaid : (Rows.laid_pub_sarsen_pub_reedsolomon_expTable : DataW Unit) = Lib.tabData .u8 expTab := by kernel_rfl
theorem logLen : logTab.length = 256 := by decide +kernel
theorem expLen : expTab.length = 256 := by decide +kernel
theorem star : "*" ++ "errors.errorString" = "*errors.errorString" := by decide
/-- The one type of that name. -/
theorem rowErr (u : TypeId) (h : Tryd.prog.typeName? 3 u = some "*errors.errorString") : u = 79 :=
  typeName_ptr_named (nm := "errors.errorString") (by rw [star]; kernel_rfl) (by kernel_rfl) (by decide) u (by rw [star]; exact h)
theorem cells96 : Tryd.prog.cellsOf 96 = 1 := by kernel_rfl
theorem cells9 : Tryd.prog.cellsOf 9 = 1 := by kernel_rfl
theorem g2 : Tryd.prog.globalNamed "pub-sarsen/pub/reedsolomon.errInvalidRowSize" = some 2 := by kernel_rfl
theorem gt2 : (Tryd.prog.globals[2]?).map (·.type) = some 50 := by kernel_rfl
theorem g5 : Tryd.prog.globalNamed "pub-sarsen/pub/reedsolomon.errInvalidColSize" = some 5 := by kernel_rfl
theorem gt5 : (Tryd.prog.globals[5]?).map (·.type) = some 50 := by kernel_rfl
theorem g6 : Tryd.prog.globalNamed "pub-sarsen/pub/reedsolomon.errColSizeMismatch" = some 6 := by kernel_rfl
theorem gt6 : (Tryd.prog.globals[6]?).map (·.type) = some 50 := by kernel_rfl
theorem g3 : Tryd.prog.globalNamed "pub-sarsen/pub/reedsolomon.errMatrixSize" = some 3 := by kernel_rfl
theorem gt3 : (Tryd.prog.globals[3]?).map (·.type) = some 50 := by kernel_rfl
theorem g7 : Tryd.prog.globalNamed "pub-sarsen/pub/reedsolomon.errSingular" = some 7 := by kernel_rfl
theorem gt7 : (Tryd.prog.globals[7]?).map (·.type) = some 50 := by kernel_rfl
theorem g4 : Tryd.prog.globalNamed "pub-sarsen/pub/reedsolomon.errNotSquare" = some 4 := by kernel_rfl
theorem gt4 : (Tryd.prog.globals[4]?).map (·.type) = some 50 := by kernel_rfl
theorem sent_of {n : String} {text : List UInt8} {r : List (String × DataW Unit)} {W : World} {g : Nat} (h : laidMet Tryd.prog ((n, .iface "*errors.errorString" (.ptr (.agg [.lit (.string text)]))) :: r) W) (hg : Tryd.prog.globalNamed n = some g) (ht : (Tryd.prog.globals[g]?).map (·.type) = some 50) : Sent g W := by
  obtain ⟨a, s, hv, _, _, _⟩ := laid_sentinel h hg ht Tryd.underlying50 rowErr Tryd.underlying79 Tryd.underlying96 rfl rfl Tryd.underlying9 cells96 cells9
  exact ⟨79, a, by simpa using World.var?_cell hg hv 0⟩
/-- What the row's list gives: the variables hold what they should. -/
theorem glob_of {W : World} (h : laidMetH Tryd.prog Rows.fnMatrixInvertsGreatRow.laid W) : Glob W := by
  have h0 : laidMet Tryd.prog [("pub-sarsen/pub/reedsolomon.logTable", Rows.laid_pub_sarsen_pub_reedsolomon_logTable), ("pub-sarsen/pub/reedsolomon.expTable", Rows.laid_pub_sarsen_pub_reedsolomon_expTable), ("pub-sarsen/pub/reedsolomon.errInvalidRowSize", Rows.laid_pub_sarsen_pub_reedsolomon_errInvalidRowSize), ("pub-sarsen/pub/reedsolomon.errInvalidColSize", Rows.laid_pub_sarsen_pub_reedsolomon_errInvalidColSize), ("pub-sarsen/pub/reedsolomon.errColSizeMismatch", Rows.laid_pub_sarsen_pub_reedsolomon_errColSizeMismatch), ("pub-sarsen/pub/reedsolomon.errMatrixSize", Rows.laid_pub_sarsen_pub_reedsolomon_errMatrixSize), ("pub-sarsen/pub/reedsolomon.errSingular", Rows.laid_pub_sarsen_pub_reedsolomon_errSingular), ("pub-sarsen/pub/reedsolomon.errNotSquare", Rows.laid_pub_sarsen_pub_reedsolomon_errNotSquare)] W := h
  rw [logLaid, expLaid] at h0
  have t1 := Lib.tabIs_of_head gLog gLogType Tryd.underlying73 Tryd.underlying5 cellsByte cellsTab h0
  have t2 := Lib.tabIs_of_head gExp gExpType Tryd.underlying73 Tryd.underlying5 cellsByte cellsTab h0.tail
  exact ⟨⟨⟨fun j hj => t1.cell gLog j (by rw [logLen]; exact hj), fun j hj => t2.cell gExp j (by rw [expLen]; exact hj)⟩, sent_of (h0.tail.tail) g2 gt2, sent_of (h0.tail.tail.tail) g5 gt5, sent_of (h0.tail.tail.tail.tail) g6 gt6⟩, sent_of (h0.tail.tail.tail.tail.tail.tail) g7 gt7⟩
/-- A block whose cells are these numbers. -/
def holdTab (l : List Int) : Obj → Obj
  | .cells _ t frozen => .cells (l.map fun z => Value.int .u8 z).toArray t frozen
  | o => o
/-- A block that holds an error. -/
def holdErr (b : Nat) : Obj → Obj
  | .cells _ t frozen => .cells #[.iface 79 (.pointer (some ⟨b, 0, none⟩))] t frozen
  | o => o
def text2 : ByteArray := ⟨#[105, 110, 118, 97, 108, 105, 100, 32, 114, 111, 119, 32, 115, 105, 122, 101]⟩
def text5 : ByteArray := ⟨#[105, 110, 118, 97, 108, 105, 100, 32, 99, 111, 108, 117, 109, 110, 32, 115, 105, 122, 101]⟩
def text6 : ByteArray := ⟨#[99, 111, 108, 117, 109, 110, 32, 115, 105, 122, 101, 32, 105, 115, 32, 110, 111, 116, 32, 116, 104, 101, 32, 115, 97, 109, 101, 32, 102, 111, 114, 32, 97, 108, 108, 32, 114, 111, 119, 115]⟩
def text3 : ByteArray := ⟨#[109, 97, 116, 114, 105, 120, 32, 115, 105, 122, 101, 115, 32, 100, 111, 32, 110, 111, 116, 32, 109, 97, 116, 99, 104]⟩
def text7 : ByteArray := ⟨#[109, 97, 116, 114, 105, 120, 32, 105, 115, 32, 115, 105, 110, 103, 117, 108, 97, 114]⟩
def text4 : ByteArray := ⟨#[111, 110, 108, 121, 32, 115, 113, 117, 97, 114, 101, 32, 109, 97, 116, 114, 105, 99, 101, 115, 32, 99, 97, 110, 32, 98, 101, 32, 105, 110, 118, 101, 114, 116, 101, 100]⟩
/-- So many blocks has the settled world. -/
noncomputable def low : Nat := (World.holding Tryd.prog default ⟨#[], #[], []⟩).heap.size
/-- A world for the witness: the settled one with blocks more, the errors; the variables hold what their texts lay. -/
noncomputable def laidWorld (os : Os) : World :=
  { World.holding Tryd.prog os ⟨#[.cells #[.string text2] 96, .cells #[.string text5] 96, .cells #[.string text6] 96, .cells #[.string text3] 96, .cells #[.string text7] 96, .cells #[.string text4] 96], #[], []⟩ with heap := (((((((((World.holding Tryd.prog os ⟨#[.cells #[.string text2] 96, .cells #[.string text5] 96, .cells #[.string text6] 96, .cells #[.string text3] 96, .cells #[.string text7] 96, .cells #[.string text4] 96], #[], []⟩).heap).modify 0 (holdTab logTab)).modify 1 (holdTab expTab)).modify 2 (holdErr (low + 0))).modify 5 (holdErr (low + 1))).modify 6 (holdErr (low + 2))).modify 3 (holdErr (low + 3))).modify 7 (holdErr (low + 4))).modify 4 (holdErr (low + 5)) }
theorem run_is (os : Os) : (DataW.laidRun Tryd.prog ((laidWorld os).forCall (fun _ _ => 0) ⟨#[], #[.slice none 0 0], []⟩).memory 300 (Rows.fnMatrixInvertsGreatRow.laid.map (·.1))).map (·.1) = some Rows.fnMatrixInvertsGreatRow.laid := by kernel_rfl
theorem run_rows (os : Os) : (DataW.laidRun Tryd.prog ((laidWorld os).forCall (fun _ _ => 0) ⟨#[], #[.slice none 0 0], []⟩).memory 300 (Rows.fnMatrixInvertsGreatRow.laid.map (·.1))).map (fun x => laidRowsB Tryd.prog ((laidWorld os).forCall (fun _ _ => 0) ⟨#[], #[.slice none 0 0], []⟩).memory x.2) = some true := by kernel_rfl
end Go.Proofs.YtladpdeneiaaeaaDoor.rowFnMatrixInvertsGreat
