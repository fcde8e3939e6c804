/-
  DERIVED. GIVEN WITH THE SEED: THE CARDS: each row of YtladpdeneiaaeaaDoorRows.lean that lists a variable, with what it lists TIED to the program's text (the seventh form; the later family's looks); each row that meets fmt, with fmt's text TOLD by the authors' own Lean function (tested against real Go, not proved from fmt's source: count such statements apart). THE CARD IS WHAT COUNTS. Prove the row's statement (the work); the ties are given (YtladpdeneiaaeaaDoorTie.lean); close each card by the builder's one call (the guide's Derived/Test/ToyasCard.lean, 'card_holds'). Laid BY PROGRAM, IN A SANDBOX (cutbox-door.mjs). By AI agents, Wed Nov 11 2026. No macro, syntax, notation, axiom, sorry.
-/
import Derived.Test.YtladpdeneiaaeaaDoorRows
import GoSem.ClaimSeven
namespace Go.Proofs.YtladpdeneiaaeaaDoor
namespace Rows

/-- THE TIED CARD OF 'laws.FnFieldSquares'. -/
def fnFieldSquaresCard : Claim7 := { stood := { row := fnFieldSquaresRow, standIns := [], harness := (true, "38112781f08373de2ed55f43260b1008ce051f615109cd4813182c4d21096922"), looks := false }, kinds := [], alts := [], laidByText := true, laidKinds := [.data, .data], laidTests := true, laidLooks := .later }
def FnFieldSquaresCardSaid : Prop := Claim7.holds Tryd.pinned (.plain (OpenSpec.ofChange fnFieldSquaresSpec)) fnFieldSquaresCard

/-- THE TIED CARD OF 'laws.FnFieldInterpolates'. -/
def fnFieldInterpolatesCard : Claim7 := { stood := { row := fnFieldInterpolatesRow, standIns := [], harness := (true, "38112781f08373de2ed55f43260b1008ce051f615109cd4813182c4d21096922"), looks := false }, kinds := [], alts := [], laidByText := true, laidKinds := [.data, .data], laidTests := true, laidLooks := .later }
def FnFieldInterpolatesCardSaid : Prop := Claim7.holds Tryd.pinned (.plain (OpenSpec.ofChange fnFieldInterpolatesSpec)) fnFieldInterpolatesCard

/-- THE TIED CARD OF 'laws.FnMatrixRow'. -/
def fnMatrixRowCard : Claim7 := { stood := { row := fnMatrixRowRow, standIns := [], harness := (true, "38112781f08373de2ed55f43260b1008ce051f615109cd4813182c4d21096922"), looks := false }, kinds := [], alts := [], laidByText := true, laidKinds := [.data, .data, .sentinel, .sentinel, .sentinel], laidTests := true, laidLooks := .later }
def FnMatrixRowCardSaid : Prop := Claim7.holds Tryd.pinned (.plain (OpenSpec.ofChange fnMatrixRowSpec)) fnMatrixRowCard

/-- THE TIED CARD OF 'laws.FnMatrixShapes'. -/
def fnMatrixShapesCard : Claim7 := { stood := { row := fnMatrixShapesRow, standIns := [], harness := (true, "38112781f08373de2ed55f43260b1008ce051f615109cd4813182c4d21096922"), looks := false }, kinds := [], alts := [], laidByText := true, laidKinds := [.sentinel, .sentinel, .sentinel, .sentinel], laidTests := true, laidLooks := .later }
def FnMatrixShapesCardSaid : Prop := Claim7.holds Tryd.pinned (.plain (OpenSpec.ofChange fnMatrixShapesSpec)) fnMatrixShapesCard

/-- THE TIED CARD OF 'laws.FnMatrixInvertsGreat'. -/
def fnMatrixInvertsGreatCard : Claim7 := { stood := { row := fnMatrixInvertsGreatRow, standIns := [], harness := (true, "38112781f08373de2ed55f43260b1008ce051f615109cd4813182c4d21096922"), looks := false }, kinds := [], alts := [], laidByText := true, laidKinds := [.data, .data, .sentinel, .sentinel, .sentinel, .sentinel, .sentinel, .sentinel], laidTests := true, laidLooks := .later }
def FnMatrixInvertsGreatCardSaid : Prop := Claim7.holds Tryd.pinned (.plain (OpenSpec.ofChange fnMatrixInvertsGreatSpec)) fnMatrixInvertsGreatCard

/-- THE SECOND FORM's CARD OF 'laws.FnFieldSquares'. -/
def fnFieldSquaresUptoCard : Claim7 := { stood := { row := fnFieldSquaresUptoRow, standIns := [], harness := (true, "38112781f08373de2ed55f43260b1008ce051f615109cd4813182c4d21096922"), looks := false }, kinds := [], alts := [], laidByText := true, laidKinds := [.data, .data], laidTests := true, laidLooks := .later }
def FnFieldSquaresUptoCardSaid : Prop := Claim7.holds Tryd.pinned (.plain (OpenSpec.upto fnFieldSquaresSpec)) fnFieldSquaresUptoCard

/-- THE SECOND FORM's CARD OF 'laws.FnFieldInterpolates'. -/
def fnFieldInterpolatesUptoCard : Claim7 := { stood := { row := fnFieldInterpolatesUptoRow, standIns := [], harness := (true, "38112781f08373de2ed55f43260b1008ce051f615109cd4813182c4d21096922"), looks := false }, kinds := [], alts := [], laidByText := true, laidKinds := [.data, .data], laidTests := true, laidLooks := .later }
def FnFieldInterpolatesUptoCardSaid : Prop := Claim7.holds Tryd.pinned (.plain (OpenSpec.upto fnFieldInterpolatesSpec)) fnFieldInterpolatesUptoCard

/-- THE SECOND FORM's CARD OF 'laws.FnMatrixRow'. -/
def fnMatrixRowUptoCard : Claim7 := { stood := { row := fnMatrixRowUptoRow, standIns := [], harness := (true, "38112781f08373de2ed55f43260b1008ce051f615109cd4813182c4d21096922"), looks := false }, kinds := [], alts := [], laidByText := true, laidKinds := [.data, .data, .sentinel, .sentinel, .sentinel], laidTests := true, laidLooks := .later }
def FnMatrixRowUptoCardSaid : Prop := Claim7.holds Tryd.pinned (.plain (OpenSpec.upto fnMatrixRowSpec)) fnMatrixRowUptoCard

/-- THE SECOND FORM's CARD OF 'laws.FnMatrixShapes'. -/
def fnMatrixShapesUptoCard : Claim7 := { stood := { row := fnMatrixShapesUptoRow, standIns := [], harness := (true, "38112781f08373de2ed55f43260b1008ce051f615109cd4813182c4d21096922"), looks := false }, kinds := [], alts := [], laidByText := true, laidKinds := [.sentinel, .sentinel, .sentinel, .sentinel], laidTests := true, laidLooks := .later }
def FnMatrixShapesUptoCardSaid : Prop := Claim7.holds Tryd.pinned (.plain (OpenSpec.upto fnMatrixShapesSpec)) fnMatrixShapesUptoCard

/-- THE SECOND FORM's CARD OF 'laws.FnMatrixInvertsGreat'. -/
def fnMatrixInvertsGreatUptoCard : Claim7 := { stood := { row := fnMatrixInvertsGreatUptoRow, standIns := [], harness := (true, "38112781f08373de2ed55f43260b1008ce051f615109cd4813182c4d21096922"), looks := false }, kinds := [], alts := [], laidByText := true, laidKinds := [.data, .data, .sentinel, .sentinel, .sentinel, .sentinel, .sentinel, .sentinel], laidTests := true, laidLooks := .later }
def FnMatrixInvertsGreatUptoCardSaid : Prop := Claim7.holds Tryd.pinned (.plain (OpenSpec.upto fnMatrixInvertsGreatSpec)) fnMatrixInvertsGreatUptoCard
end Rows
end Go.Proofs.YtladpdeneiaaeaaDoor
