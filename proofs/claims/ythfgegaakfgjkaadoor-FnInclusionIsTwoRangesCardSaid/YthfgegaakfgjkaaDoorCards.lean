/-
  DERIVED. GIVEN WITH THE SEED: THE CARDS: each row of YthfgegaakfgjkaaDoorRows.lean that lists a variable, with what it lists TIED to the program's text (the seventh form; the later family's looks); each row that meets fmt, with fmt's text TOLD by the authors' own Lean function (tested against real Go, not proved from fmt's source: count such statements apart). THE CARD IS WHAT COUNTS. Prove the row's statement (the work); the ties are given (YthfgegaakfgjkaaDoorTie.lean); close each card by the builder's one call (the guide's Derived/Test/ToyasCard.lean, 'card_holds'). Laid BY PROGRAM, IN A SANDBOX (cutbox-door.mjs). By AI agents, Wed Nov 11 2026. No macro, syntax, notation, axiom, sorry.
-/
import Derived.Test.YthfgegaakfgjkaaDoorRows
import GoSem.ClaimSeven
namespace Go.Proofs.YthfgegaakfgjkaaDoor
namespace Rows

/-- THE TIED CARD OF 'laws.FnRangeNodes'. -/
def fnRangeNodesCard : Claim7 := { stood := { row := fnRangeNodesRow, standIns := [], harness := (true, "dc6338992fe28429648eff5fc19c429b2123062015426d76f38a24d6e4b80e42"), looks := false }, kinds := [], alts := [], laidByText := true, laidKinds := [.data], laidTests := true, laidLooks := .later }
def FnRangeNodesCardSaid : Prop := Claim7.holds Tryd.pinned (.plain (OpenSpec.ofChange fnRangeNodesSpec)) fnRangeNodesCard

/-- THE TIED CARD OF 'laws.FnRangeNodesScaled'. -/
def fnRangeNodesScaledCard : Claim7 := { stood := { row := fnRangeNodesScaledRow, standIns := [], harness := (true, "dc6338992fe28429648eff5fc19c429b2123062015426d76f38a24d6e4b80e42"), looks := false }, kinds := [], alts := [], laidByText := true, laidKinds := [.data], laidTests := true, laidLooks := .later }
def FnRangeNodesScaledCardSaid : Prop := Claim7.holds Tryd.pinned (.plain (OpenSpec.ofChange fnRangeNodesScaledSpec)) fnRangeNodesScaledCard

/-- THE TIED CARD OF 'laws.FnInclusion'. -/
def fnInclusionCard : Claim7 := { stood := { row := fnInclusionRow, standIns := [], harness := (true, "dc6338992fe28429648eff5fc19c429b2123062015426d76f38a24d6e4b80e42"), looks := false }, kinds := [], alts := [], laidByText := true, laidKinds := [.data], laidTests := true, laidLooks := .later }
def FnInclusionCardSaid : Prop := Claim7.holds Tryd.pinned (.plain (OpenSpec.ofChange fnInclusionSpec)) fnInclusionCard

/-- THE TIED CARD OF 'laws.FnInclusionIsTwoRanges'. -/
def fnInclusionIsTwoRangesCard : Claim7 := { stood := { row := fnInclusionIsTwoRangesRow, standIns := [], harness := (true, "dc6338992fe28429648eff5fc19c429b2123062015426d76f38a24d6e4b80e42"), looks := false }, kinds := [], alts := [], laidByText := true, laidKinds := [.data], laidTests := true, laidLooks := .later }
def FnInclusionIsTwoRangesCardSaid : Prop := Claim7.holds Tryd.pinned (.plain (OpenSpec.ofChange fnInclusionIsTwoRangesSpec)) fnInclusionIsTwoRangesCard

/-- THE SECOND FORM's CARD OF 'laws.FnRangeNodes'. -/
def fnRangeNodesUptoCard : Claim7 := { stood := { row := fnRangeNodesUptoRow, standIns := [], harness := (true, "dc6338992fe28429648eff5fc19c429b2123062015426d76f38a24d6e4b80e42"), looks := false }, kinds := [], alts := [], laidByText := true, laidKinds := [.data], laidTests := true, laidLooks := .later }
def FnRangeNodesUptoCardSaid : Prop := Claim7.holds Tryd.pinned (.plain (OpenSpec.upto fnRangeNodesSpec)) fnRangeNodesUptoCard

/-- THE SECOND FORM's CARD OF 'laws.FnRangeNodesScaled'. -/
def fnRangeNodesScaledUptoCard : Claim7 := { stood := { row := fnRangeNodesScaledUptoRow, standIns := [], harness := (true, "dc6338992fe28429648eff5fc19c429b2123062015426d76f38a24d6e4b80e42"), looks := false }, kinds := [], alts := [], laidByText := true, laidKinds := [.data], laidTests := true, laidLooks := .later }
def FnRangeNodesScaledUptoCardSaid : Prop := Claim7.holds Tryd.pinned (.plain (OpenSpec.upto fnRangeNodesScaledSpec)) fnRangeNodesScaledUptoCard

/-- THE SECOND FORM's CARD OF 'laws.FnInclusion'. -/
def fnInclusionUptoCard : Claim7 := { stood := { row := fnInclusionUptoRow, standIns := [], harness := (true, "dc6338992fe28429648eff5fc19c429b2123062015426d76f38a24d6e4b80e42"), looks := false }, kinds := [], alts := [], laidByText := true, laidKinds := [.data], laidTests := true, laidLooks := .later }
def FnInclusionUptoCardSaid : Prop := Claim7.holds Tryd.pinned (.plain (OpenSpec.upto fnInclusionSpec)) fnInclusionUptoCard

/-- THE SECOND FORM's CARD OF 'laws.FnInclusionIsTwoRanges'. -/
def fnInclusionIsTwoRangesUptoCard : Claim7 := { stood := { row := fnInclusionIsTwoRangesUptoRow, standIns := [], harness := (true, "dc6338992fe28429648eff5fc19c429b2123062015426d76f38a24d6e4b80e42"), looks := false }, kinds := [], alts := [], laidByText := true, laidKinds := [.data], laidTests := true, laidLooks := .later }
def FnInclusionIsTwoRangesUptoCardSaid : Prop := Claim7.holds Tryd.pinned (.plain (OpenSpec.upto fnInclusionIsTwoRangesSpec)) fnInclusionIsTwoRangesUptoCard
end Rows
end Go.Proofs.YthfgegaakfgjkaaDoor
