/-
  DERIVED. GIVEN WITH THE SEED: THE CARDS: each row of YtielnphmcaecdaaDoorRows.lean that lists a variable, with what it lists TIED to the program's text (the seventh form; the later family's looks); each row that meets fmt, with fmt's text TOLD by the authors' own Lean function (tested against real Go, not proved from fmt's source: count such statements apart). THE CARD IS WHAT COUNTS. Prove the row's statement (the work); the ties are given (YtielnphmcaecdaaDoorTie.lean); close each card by the builder's one call (the guide's Derived/Test/ToyasCard.lean, 'card_holds'). Laid BY PROGRAM, IN A SANDBOX (cutbox-door.mjs). By AI agents, Wed Nov 11 2026. No macro, syntax, notation, axiom, sorry.
-/
import Derived.Test.YtielnphmcaecdaaDoorRows
import GoSem.ClaimSeven
namespace Go.Proofs.YtielnphmcaecdaaDoor
namespace Rows

/-- THE TIED CARD OF 'laws.FnTreeRoot'. -/
def fnTreeRootCard : Claim7 := { stood := { row := fnTreeRootRow, standIns := [], harness := (true, "63e4ed8ad81ae1d26e413f1477ed10f38f59685346a1ee6e37a95364ce1e90b0"), looks := true }, kinds := [], alts := [], laidByText := true, laidKinds := [.data], laidTests := true, laidLooks := .later }
def FnTreeRootCardSaid : Prop := Claim7.holds Tryd.pinned (.plain (OpenSpec.ofChange fnTreeRootSpec)) fnTreeRootCard

/-- THE TIED CARD OF 'laws.FnRangeMerge'. -/
def fnRangeMergeCard : Claim7 := { stood := { row := fnRangeMergeRow, standIns := [], harness := (true, "63e4ed8ad81ae1d26e413f1477ed10f38f59685346a1ee6e37a95364ce1e90b0"), looks := true }, kinds := [], alts := [], laidByText := true, laidKinds := [.data], laidTests := true, laidLooks := .later }
def FnRangeMergeCardSaid : Prop := Claim7.holds Tryd.pinned (.plain (OpenSpec.ofChange fnRangeMergeSpec)) fnRangeMergeCard

/-- THE TIED CARD OF 'laws.FnRangeRootOfLeaves'. -/
def fnRangeRootOfLeavesCard : Claim7 := { stood := { row := fnRangeRootOfLeavesRow, standIns := [], harness := (true, "63e4ed8ad81ae1d26e413f1477ed10f38f59685346a1ee6e37a95364ce1e90b0"), looks := true }, kinds := [], alts := [], laidByText := true, laidKinds := [.data], laidTests := true, laidLooks := .later }
def FnRangeRootOfLeavesCardSaid : Prop := Claim7.holds Tryd.pinned (.plain (OpenSpec.ofChange fnRangeRootOfLeavesSpec)) fnRangeRootOfLeavesCard

/-- THE TIED CARD OF 'laws.FnConsistencyHashes'. -/
def fnConsistencyHashesCard : Claim7 := { stood := { row := fnConsistencyHashesRow, standIns := [], harness := (true, "63e4ed8ad81ae1d26e413f1477ed10f38f59685346a1ee6e37a95364ce1e90b0"), looks := true }, kinds := [], alts := [], laidByText := true, laidKinds := [.data], laidTests := true, laidLooks := .later }
def FnConsistencyHashesCardSaid : Prop := Claim7.holds Tryd.pinned (.plain (OpenSpec.ofChange fnConsistencyHashesSpec)) fnConsistencyHashesCard

/-- THE TIED CARD OF 'laws.FnInclusionMade'. -/
def fnInclusionMadeCard : Claim7 := { stood := { row := fnInclusionMadeRow, standIns := [], harness := (true, "63e4ed8ad81ae1d26e413f1477ed10f38f59685346a1ee6e37a95364ce1e90b0"), looks := true }, kinds := [], alts := [], laidByText := true, laidKinds := [.data], laidTests := true, laidLooks := .later }
def FnInclusionMadeCardSaid : Prop := Claim7.holds Tryd.pinned (.plain (OpenSpec.ofChange fnInclusionMadeSpec)) fnInclusionMadeCard

/-- THE TIED CARD OF 'laws.FnConsistencySound'. -/
def fnConsistencySoundCard : Claim7 := { stood := { row := fnConsistencySoundRow, standIns := [], harness := (true, "63e4ed8ad81ae1d26e413f1477ed10f38f59685346a1ee6e37a95364ce1e90b0"), looks := true }, kinds := [], alts := [], laidByText := true, laidKinds := [.data], laidTests := true, laidLooks := .later }
def FnConsistencySoundCardSaid : Prop := Claim7.holds Tryd.pinned (.plain (OpenSpec.ofChange fnConsistencySoundSpec)) fnConsistencySoundCard

/-- THE TIED CARD OF 'laws.FnTreeIsRange'. -/
def fnTreeIsRangeCard : Claim7 := { stood := { row := fnTreeIsRangeRow, standIns := [], harness := (true, "63e4ed8ad81ae1d26e413f1477ed10f38f59685346a1ee6e37a95364ce1e90b0"), looks := true }, kinds := [], alts := [], laidByText := true, laidKinds := [.data], laidTests := true, laidLooks := .later }
def FnTreeIsRangeCardSaid : Prop := Claim7.holds Tryd.pinned (.plain (OpenSpec.ofChange fnTreeIsRangeSpec)) fnTreeIsRangeCard

/-- THE TIED CARD OF 'laws.FnInclusionTaken'. -/
def fnInclusionTakenCard : Claim7 := { stood := { row := fnInclusionTakenRow, standIns := [], harness := (true, "63e4ed8ad81ae1d26e413f1477ed10f38f59685346a1ee6e37a95364ce1e90b0"), looks := true }, kinds := [], alts := [], laidByText := true, laidKinds := [.data], laidTests := true, laidLooks := .later }
def FnInclusionTakenCardSaid : Prop := Claim7.holds Tryd.pinned (.plain (OpenSpec.ofChange fnInclusionTakenSpec)) fnInclusionTakenCard

/-- THE TIED CARD OF 'laws.FnThreeSizes'. -/
def fnThreeSizesCard : Claim7 := { stood := { row := fnThreeSizesRow, standIns := [], harness := (true, "63e4ed8ad81ae1d26e413f1477ed10f38f59685346a1ee6e37a95364ce1e90b0"), looks := true }, kinds := [], alts := [], laidByText := true, laidKinds := [.data], laidTests := true, laidLooks := .later }
def FnThreeSizesCardSaid : Prop := Claim7.holds Tryd.pinned (.plain (OpenSpec.ofChange fnThreeSizesSpec)) fnThreeSizesCard

/-- THE SECOND FORM's CARD OF 'laws.FnTreeRoot'. -/
def fnTreeRootUptoCard : Claim7 := { stood := { row := fnTreeRootUptoRow, standIns := [], harness := (true, "63e4ed8ad81ae1d26e413f1477ed10f38f59685346a1ee6e37a95364ce1e90b0"), looks := true }, kinds := [], alts := [], laidByText := true, laidKinds := [.data], laidTests := true, laidLooks := .later }
def FnTreeRootUptoCardSaid : Prop := Claim7.holds Tryd.pinned (.plain (OpenSpec.upto fnTreeRootSpec)) fnTreeRootUptoCard

/-- THE SECOND FORM's CARD OF 'laws.FnRangeMerge'. -/
def fnRangeMergeUptoCard : Claim7 := { stood := { row := fnRangeMergeUptoRow, standIns := [], harness := (true, "63e4ed8ad81ae1d26e413f1477ed10f38f59685346a1ee6e37a95364ce1e90b0"), looks := true }, kinds := [], alts := [], laidByText := true, laidKinds := [.data], laidTests := true, laidLooks := .later }
def FnRangeMergeUptoCardSaid : Prop := Claim7.holds Tryd.pinned (.plain (OpenSpec.upto fnRangeMergeSpec)) fnRangeMergeUptoCard

/-- THE SECOND FORM's CARD OF 'laws.FnRangeRootOfLeaves'. -/
def fnRangeRootOfLeavesUptoCard : Claim7 := { stood := { row := fnRangeRootOfLeavesUptoRow, standIns := [], harness := (true, "63e4ed8ad81ae1d26e413f1477ed10f38f59685346a1ee6e37a95364ce1e90b0"), looks := true }, kinds := [], alts := [], laidByText := true, laidKinds := [.data], laidTests := true, laidLooks := .later }
def FnRangeRootOfLeavesUptoCardSaid : Prop := Claim7.holds Tryd.pinned (.plain (OpenSpec.upto fnRangeRootOfLeavesSpec)) fnRangeRootOfLeavesUptoCard

/-- THE SECOND FORM's CARD OF 'laws.FnConsistencyHashes'. -/
def fnConsistencyHashesUptoCard : Claim7 := { stood := { row := fnConsistencyHashesUptoRow, standIns := [], harness := (true, "63e4ed8ad81ae1d26e413f1477ed10f38f59685346a1ee6e37a95364ce1e90b0"), looks := true }, kinds := [], alts := [], laidByText := true, laidKinds := [.data], laidTests := true, laidLooks := .later }
def FnConsistencyHashesUptoCardSaid : Prop := Claim7.holds Tryd.pinned (.plain (OpenSpec.upto fnConsistencyHashesSpec)) fnConsistencyHashesUptoCard

/-- THE SECOND FORM's CARD OF 'laws.FnInclusionMade'. -/
def fnInclusionMadeUptoCard : Claim7 := { stood := { row := fnInclusionMadeUptoRow, standIns := [], harness := (true, "63e4ed8ad81ae1d26e413f1477ed10f38f59685346a1ee6e37a95364ce1e90b0"), looks := true }, kinds := [], alts := [], laidByText := true, laidKinds := [.data], laidTests := true, laidLooks := .later }
def FnInclusionMadeUptoCardSaid : Prop := Claim7.holds Tryd.pinned (.plain (OpenSpec.upto fnInclusionMadeSpec)) fnInclusionMadeUptoCard

/-- THE SECOND FORM's CARD OF 'laws.FnConsistencySound'. -/
def fnConsistencySoundUptoCard : Claim7 := { stood := { row := fnConsistencySoundUptoRow, standIns := [], harness := (true, "63e4ed8ad81ae1d26e413f1477ed10f38f59685346a1ee6e37a95364ce1e90b0"), looks := true }, kinds := [], alts := [], laidByText := true, laidKinds := [.data], laidTests := true, laidLooks := .later }
def FnConsistencySoundUptoCardSaid : Prop := Claim7.holds Tryd.pinned (.plain (OpenSpec.upto fnConsistencySoundSpec)) fnConsistencySoundUptoCard

/-- THE SECOND FORM's CARD OF 'laws.FnTreeIsRange'. -/
def fnTreeIsRangeUptoCard : Claim7 := { stood := { row := fnTreeIsRangeUptoRow, standIns := [], harness := (true, "63e4ed8ad81ae1d26e413f1477ed10f38f59685346a1ee6e37a95364ce1e90b0"), looks := true }, kinds := [], alts := [], laidByText := true, laidKinds := [.data], laidTests := true, laidLooks := .later }
def FnTreeIsRangeUptoCardSaid : Prop := Claim7.holds Tryd.pinned (.plain (OpenSpec.upto fnTreeIsRangeSpec)) fnTreeIsRangeUptoCard

/-- THE SECOND FORM's CARD OF 'laws.FnInclusionTaken'. -/
def fnInclusionTakenUptoCard : Claim7 := { stood := { row := fnInclusionTakenUptoRow, standIns := [], harness := (true, "63e4ed8ad81ae1d26e413f1477ed10f38f59685346a1ee6e37a95364ce1e90b0"), looks := true }, kinds := [], alts := [], laidByText := true, laidKinds := [.data], laidTests := true, laidLooks := .later }
def FnInclusionTakenUptoCardSaid : Prop := Claim7.holds Tryd.pinned (.plain (OpenSpec.upto fnInclusionTakenSpec)) fnInclusionTakenUptoCard

/-- THE SECOND FORM's CARD OF 'laws.FnThreeSizes'. -/
def fnThreeSizesUptoCard : Claim7 := { stood := { row := fnThreeSizesUptoRow, standIns := [], harness := (true, "63e4ed8ad81ae1d26e413f1477ed10f38f59685346a1ee6e37a95364ce1e90b0"), looks := true }, kinds := [], alts := [], laidByText := true, laidKinds := [.data], laidTests := true, laidLooks := .later }
def FnThreeSizesUptoCardSaid : Prop := Claim7.holds Tryd.pinned (.plain (OpenSpec.upto fnThreeSizesSpec)) fnThreeSizesUptoCard
end Rows
end Go.Proofs.YtielnphmcaecdaaDoor
