/-
  NARROWER THAN 'FOR EVERY INPUT', by the rows' own cells (each row's printed sentence says how): FnTreeRoot: laid · FnRangeMerge: laid · FnRangeRootOfLeaves: laid · FnConsistencyHashes: laid · FnInclusionMade: laid · FnConsistencySound: laid · FnTreeIsRange: laid · FnInclusionTaken: laid · FnThreeSizes: laid.
  DERIVED. THE GIVEN ROWS OF THIS SEAT. 9 by the template 'for every input the law returns true; each argument reads behind the call as it read before'; 0 by the template 'total and deterministic' (their statements: YtielnphmcaecdaaDoorTotals.lean).
  GIVEN WITH THE SEED: the statements are not yours to turn. If you find one false, say at which input.
  Laid BY PROGRAM, IN A SANDBOX (cutbox-rows.mjs): the forced cells as the released guide's own fill.sh prints them over the translation ead66ce95f5ef722… (all of the seat's roots in one cut). By AI agents, Wed Nov 11 2026. No macro, syntax, notation, axiom, sorry.
-/
import Derived.Test.YtielnphmcaecdaaDoorChecked
import GoSem.Claim
import GoSem.ClaimJoined
import GoSem.ClaimMapViews
import Derived.JoinedTies
import Derived.KernelRfl
namespace Go.Proofs.YtielnphmcaecdaaDoor
/- THE CELL 'sum', in the pinned program and in every row, IS THE sha256 OF THE DUMP (.gsa) THAT YtielnphmcaecdaaDoorProg.lean LOADS. Nothing in Lean hashes anything: it is a label: what it is worth is what the hold of that sum in a sandbox is worth. -/
noncomputable def Tryd.pinned : Pinned := { name := "ytielnphmcaecdaadoor", sum := "ead66ce95f5ef722170a29e2c7b8edb0097ae5c1275e1210ec89d054f2d81a63", checked := Tryd.checked }
namespace Rows
def none {H : Type} : Left H := { results := [], args := [] }

/- WHAT THE LISTED PACKAGE-LEVEL VARIABLES READ AS WHEN THE CALL BEGINS. Each datum BY PROGRAM (the guide's laid-datum.mjs) off the statement by which the dump's own 'gosem.cut.vars' lays the variable. In a bare row this is a premise. The card (YtielnphmcaecdaaDoorCards.lean) ties it to the program's text. -/
def laid_math_bits_deBruijn64tab {H : Type} : DataW H := .agg [.lit (.int .u8 0), .lit (.int .u8 1), .lit (.int .u8 56), .lit (.int .u8 2), .lit (.int .u8 57), .lit (.int .u8 49), .lit (.int .u8 28), .lit (.int .u8 3), .lit (.int .u8 61), .lit (.int .u8 58), .lit (.int .u8 42), .lit (.int .u8 50), .lit (.int .u8 38), .lit (.int .u8 29), .lit (.int .u8 17), .lit (.int .u8 4), .lit (.int .u8 62), .lit (.int .u8 47), .lit (.int .u8 59), .lit (.int .u8 36), .lit (.int .u8 45), .lit (.int .u8 43), .lit (.int .u8 51), .lit (.int .u8 22), .lit (.int .u8 53), .lit (.int .u8 39), .lit (.int .u8 33), .lit (.int .u8 30), .lit (.int .u8 24), .lit (.int .u8 18), .lit (.int .u8 12), .lit (.int .u8 5), .lit (.int .u8 63), .lit (.int .u8 55), .lit (.int .u8 48), .lit (.int .u8 27), .lit (.int .u8 60), .lit (.int .u8 41), .lit (.int .u8 37), .lit (.int .u8 16), .lit (.int .u8 46), .lit (.int .u8 35), .lit (.int .u8 44), .lit (.int .u8 21), .lit (.int .u8 52), .lit (.int .u8 32), .lit (.int .u8 23), .lit (.int .u8 11), .lit (.int .u8 54), .lit (.int .u8 26), .lit (.int .u8 40), .lit (.int .u8 15), .lit (.int .u8 34), .lit (.int .u8 20), .lit (.int .u8 31), .lit (.int .u8 10), .lit (.int .u8 25), .lit (.int .u8 14), .lit (.int .u8 19), .lit (.int .u8 9), .lit (.int .u8 13), .lit (.int .u8 8), .lit (.int .u8 7), .lit (.int .u8 6)]

/-- 'laws.FnTreeRoot': WHATEVER THE INPUT: true; the input reads as it did. -/
def fnTreeRootSpec : ChangeSpec := { name := "fnTreeRoot", fn := fun _ => fun
  | [d1, d2, d3] => { results := [.lit (.bool true)], args := [d1, d2, d3] }
  | _ => none }
def fnTreeRootRow : OpenClaim := { program := "ytielnphmcaecdaadoor", sum := "ead66ce95f5ef722170a29e2c7b8edb0097ae5c1275e1210ec89d054f2d81a63", func := "pub-sarsen/laws.FnTreeRoot", spec := "fnTreeRoot", unfollowed := true, recurses := true, named := ["math/bits.deBruijn64tab"], apart := false, laid := [("math/bits.deBruijn64tab", laid_math_bits_deBruijn64tab)] }
def FnTreeRootSaid : Prop := fnTreeRootRow.holds Tryd.pinned (OpenSpec.ofChange fnTreeRootSpec)

/-- ITS FALSE NEIGHBOUR: 'it returns false'. Refute it at one input. -/
def fnTreeRootWrong : ChangeSpec := { name := "fnTreeRoot", fn := fun _ => fun
  | [d1, d2, d3] => { results := [.lit (.bool false)], args := [d1, d2, d3] }
  | _ => none }
def FnTreeRootWrongFalsely : Prop := fnTreeRootRow.holds Tryd.pinned (OpenSpec.ofChange fnTreeRootWrong)

/-- 'laws.FnRangeMerge': WHATEVER THE INPUT: true; the input reads as it did. -/
def fnRangeMergeSpec : ChangeSpec := { name := "fnRangeMerge", fn := fun _ => fun
  | [d1, d2, d3] => { results := [.lit (.bool true)], args := [d1, d2, d3] }
  | _ => none }
def fnRangeMergeRow : OpenClaim := { program := "ytielnphmcaecdaadoor", sum := "ead66ce95f5ef722170a29e2c7b8edb0097ae5c1275e1210ec89d054f2d81a63", func := "pub-sarsen/laws.FnRangeMerge", spec := "fnRangeMerge", unfollowed := true, recurses := true, named := ["math/bits.deBruijn64tab"], apart := false, laid := [("math/bits.deBruijn64tab", laid_math_bits_deBruijn64tab)] }
def FnRangeMergeSaid : Prop := fnRangeMergeRow.holds Tryd.pinned (OpenSpec.ofChange fnRangeMergeSpec)

/-- ITS FALSE NEIGHBOUR: 'it returns false'. Refute it at one input. -/
def fnRangeMergeWrong : ChangeSpec := { name := "fnRangeMerge", fn := fun _ => fun
  | [d1, d2, d3] => { results := [.lit (.bool false)], args := [d1, d2, d3] }
  | _ => none }
def FnRangeMergeWrongFalsely : Prop := fnRangeMergeRow.holds Tryd.pinned (OpenSpec.ofChange fnRangeMergeWrong)

/-- 'laws.FnRangeRootOfLeaves': WHATEVER THE INPUT: true; the input reads as it did. -/
def fnRangeRootOfLeavesSpec : ChangeSpec := { name := "fnRangeRootOfLeaves", fn := fun _ => fun
  | [d1, d2] => { results := [.lit (.bool true)], args := [d1, d2] }
  | _ => none }
def fnRangeRootOfLeavesRow : OpenClaim := { program := "ytielnphmcaecdaadoor", sum := "ead66ce95f5ef722170a29e2c7b8edb0097ae5c1275e1210ec89d054f2d81a63", func := "pub-sarsen/laws.FnRangeRootOfLeaves", spec := "fnRangeRootOfLeaves", unfollowed := true, recurses := true, named := ["math/bits.deBruijn64tab"], apart := false, laid := [("math/bits.deBruijn64tab", laid_math_bits_deBruijn64tab)] }
def FnRangeRootOfLeavesSaid : Prop := fnRangeRootOfLeavesRow.holds Tryd.pinned (OpenSpec.ofChange fnRangeRootOfLeavesSpec)

/-- ITS FALSE NEIGHBOUR: 'it returns false'. Refute it at one input. -/
def fnRangeRootOfLeavesWrong : ChangeSpec := { name := "fnRangeRootOfLeaves", fn := fun _ => fun
  | [d1, d2] => { results := [.lit (.bool false)], args := [d1, d2] }
  | _ => none }
def FnRangeRootOfLeavesWrongFalsely : Prop := fnRangeRootOfLeavesRow.holds Tryd.pinned (OpenSpec.ofChange fnRangeRootOfLeavesWrong)

/-- 'laws.FnConsistencyHashes': WHATEVER THE INPUT: true; the input reads as it did. -/
def fnConsistencyHashesSpec : ChangeSpec := { name := "fnConsistencyHashes", fn := fun _ => fun
  | [d1, d2, d3, d4] => { results := [.lit (.bool true)], args := [d1, d2, d3, d4] }
  | _ => none }
def fnConsistencyHashesRow : OpenClaim := { program := "ytielnphmcaecdaadoor", sum := "ead66ce95f5ef722170a29e2c7b8edb0097ae5c1275e1210ec89d054f2d81a63", func := "pub-sarsen/laws.FnConsistencyHashes", spec := "fnConsistencyHashes", unfollowed := true, recurses := true, named := ["math/bits.deBruijn64tab"], apart := false, laid := [("math/bits.deBruijn64tab", laid_math_bits_deBruijn64tab)] }
def FnConsistencyHashesSaid : Prop := fnConsistencyHashesRow.holds Tryd.pinned (OpenSpec.ofChange fnConsistencyHashesSpec)

/-- ITS FALSE NEIGHBOUR: 'it returns false'. Refute it at one input. -/
def fnConsistencyHashesWrong : ChangeSpec := { name := "fnConsistencyHashes", fn := fun _ => fun
  | [d1, d2, d3, d4] => { results := [.lit (.bool false)], args := [d1, d2, d3, d4] }
  | _ => none }
def FnConsistencyHashesWrongFalsely : Prop := fnConsistencyHashesRow.holds Tryd.pinned (OpenSpec.ofChange fnConsistencyHashesWrong)

/-- 'laws.FnInclusionMade': WHATEVER THE INPUT: true; the input reads as it did. -/
def fnInclusionMadeSpec : ChangeSpec := { name := "fnInclusionMade", fn := fun _ => fun
  | [d1, d2, d3] => { results := [.lit (.bool true)], args := [d1, d2, d3] }
  | _ => none }
def fnInclusionMadeRow : OpenClaim := { program := "ytielnphmcaecdaadoor", sum := "ead66ce95f5ef722170a29e2c7b8edb0097ae5c1275e1210ec89d054f2d81a63", func := "pub-sarsen/laws.FnInclusionMade", spec := "fnInclusionMade", unfollowed := true, recurses := true, named := ["math/bits.deBruijn64tab"], apart := false, laid := [("math/bits.deBruijn64tab", laid_math_bits_deBruijn64tab)] }
def FnInclusionMadeSaid : Prop := fnInclusionMadeRow.holds Tryd.pinned (OpenSpec.ofChange fnInclusionMadeSpec)

/-- ITS FALSE NEIGHBOUR: 'it returns false'. Refute it at one input. -/
def fnInclusionMadeWrong : ChangeSpec := { name := "fnInclusionMade", fn := fun _ => fun
  | [d1, d2, d3] => { results := [.lit (.bool false)], args := [d1, d2, d3] }
  | _ => none }
def FnInclusionMadeWrongFalsely : Prop := fnInclusionMadeRow.holds Tryd.pinned (OpenSpec.ofChange fnInclusionMadeWrong)

/-- 'laws.FnConsistencySound': WHATEVER THE INPUT: true; the input reads as it did. -/
def fnConsistencySoundSpec : ChangeSpec := { name := "fnConsistencySound", fn := fun _ => fun
  | [d1, d2, d3, d4, d5] => { results := [.lit (.bool true)], args := [d1, d2, d3, d4, d5] }
  | _ => none }
def fnConsistencySoundRow : OpenClaim := { program := "ytielnphmcaecdaadoor", sum := "ead66ce95f5ef722170a29e2c7b8edb0097ae5c1275e1210ec89d054f2d81a63", func := "pub-sarsen/laws.FnConsistencySound", spec := "fnConsistencySound", unfollowed := true, recurses := true, named := ["math/bits.deBruijn64tab"], apart := false, laid := [("math/bits.deBruijn64tab", laid_math_bits_deBruijn64tab)] }
def FnConsistencySoundSaid : Prop := fnConsistencySoundRow.holds Tryd.pinned (OpenSpec.ofChange fnConsistencySoundSpec)

/-- ITS FALSE NEIGHBOUR: 'it returns false'. Refute it at one input. -/
def fnConsistencySoundWrong : ChangeSpec := { name := "fnConsistencySound", fn := fun _ => fun
  | [d1, d2, d3, d4, d5] => { results := [.lit (.bool false)], args := [d1, d2, d3, d4, d5] }
  | _ => none }
def FnConsistencySoundWrongFalsely : Prop := fnConsistencySoundRow.holds Tryd.pinned (OpenSpec.ofChange fnConsistencySoundWrong)

/-- 'laws.FnTreeIsRange': WHATEVER THE INPUT: true; the input reads as it did. -/
def fnTreeIsRangeSpec : ChangeSpec := { name := "fnTreeIsRange", fn := fun _ => fun
  | [d1, d2, d3] => { results := [.lit (.bool true)], args := [d1, d2, d3] }
  | _ => none }
def fnTreeIsRangeRow : OpenClaim := { program := "ytielnphmcaecdaadoor", sum := "ead66ce95f5ef722170a29e2c7b8edb0097ae5c1275e1210ec89d054f2d81a63", func := "pub-sarsen/laws.FnTreeIsRange", spec := "fnTreeIsRange", unfollowed := true, recurses := true, named := ["math/bits.deBruijn64tab"], apart := false, laid := [("math/bits.deBruijn64tab", laid_math_bits_deBruijn64tab)] }
def FnTreeIsRangeSaid : Prop := fnTreeIsRangeRow.holds Tryd.pinned (OpenSpec.ofChange fnTreeIsRangeSpec)

/-- ITS FALSE NEIGHBOUR: 'it returns false'. Refute it at one input. -/
def fnTreeIsRangeWrong : ChangeSpec := { name := "fnTreeIsRange", fn := fun _ => fun
  | [d1, d2, d3] => { results := [.lit (.bool false)], args := [d1, d2, d3] }
  | _ => none }
def FnTreeIsRangeWrongFalsely : Prop := fnTreeIsRangeRow.holds Tryd.pinned (OpenSpec.ofChange fnTreeIsRangeWrong)

/-- 'laws.FnInclusionTaken': WHATEVER THE INPUT: true; the input reads as it did. -/
def fnInclusionTakenSpec : ChangeSpec := { name := "fnInclusionTaken", fn := fun _ => fun
  | [d1, d2, d3, d4] => { results := [.lit (.bool true)], args := [d1, d2, d3, d4] }
  | _ => none }
def fnInclusionTakenRow : OpenClaim := { program := "ytielnphmcaecdaadoor", sum := "ead66ce95f5ef722170a29e2c7b8edb0097ae5c1275e1210ec89d054f2d81a63", func := "pub-sarsen/laws.FnInclusionTaken", spec := "fnInclusionTaken", unfollowed := true, recurses := true, named := ["math/bits.deBruijn64tab"], apart := false, laid := [("math/bits.deBruijn64tab", laid_math_bits_deBruijn64tab)] }
def FnInclusionTakenSaid : Prop := fnInclusionTakenRow.holds Tryd.pinned (OpenSpec.ofChange fnInclusionTakenSpec)

/-- ITS FALSE NEIGHBOUR: 'it returns false'. Refute it at one input. -/
def fnInclusionTakenWrong : ChangeSpec := { name := "fnInclusionTaken", fn := fun _ => fun
  | [d1, d2, d3, d4] => { results := [.lit (.bool false)], args := [d1, d2, d3, d4] }
  | _ => none }
def FnInclusionTakenWrongFalsely : Prop := fnInclusionTakenRow.holds Tryd.pinned (OpenSpec.ofChange fnInclusionTakenWrong)

/-- 'laws.FnThreeSizes': WHATEVER THE INPUT: true; the input reads as it did. -/
def fnThreeSizesSpec : ChangeSpec := { name := "fnThreeSizes", fn := fun _ => fun
  | [d1, d2, d3, d4] => { results := [.lit (.bool true)], args := [d1, d2, d3, d4] }
  | _ => none }
def fnThreeSizesRow : OpenClaim := { program := "ytielnphmcaecdaadoor", sum := "ead66ce95f5ef722170a29e2c7b8edb0097ae5c1275e1210ec89d054f2d81a63", func := "pub-sarsen/laws.FnThreeSizes", spec := "fnThreeSizes", unfollowed := true, recurses := true, named := ["math/bits.deBruijn64tab"], apart := false, laid := [("math/bits.deBruijn64tab", laid_math_bits_deBruijn64tab)] }
def FnThreeSizesSaid : Prop := fnThreeSizesRow.holds Tryd.pinned (OpenSpec.ofChange fnThreeSizesSpec)

/-- ITS FALSE NEIGHBOUR: 'it returns false'. Refute it at one input. -/
def fnThreeSizesWrong : ChangeSpec := { name := "fnThreeSizes", fn := fun _ => fun
  | [d1, d2, d3, d4] => { results := [.lit (.bool false)], args := [d1, d2, d3, d4] }
  | _ => none }
def FnThreeSizesWrongFalsely : Prop := fnThreeSizesRow.holds Tryd.pinned (OpenSpec.ofChange fnThreeSizesWrong)

/- THE SECOND FORM. 'bulk': how many values and letters a reading holds, each counted each time it is reached (what is shared counts as often as it is met; a slice's spare places count too). A statement '..UptoSaid' is the law's where the arguments, and the package variables that the reading takes, are together of bulk at most 1048576: NARROWER than '..Said'. Prove '..Said' where nothing that the law and all that it calls make is longer than what came in: it says more and counts as full. Else prove '..UptoSaid'. A law counts once. -/
mutual
def uptoBulk {H : Type} : DataW H → Nat
  | .lit (.string bytes) => bytes.length + 1
  | .lit _ => 1
  | .nil => 1
  | .ptr d => uptoBulk d + 1
  | .slice elems spare => uptoBulkAll elems + uptoBulkAll spare + 1
  | .agg parts => uptoBulkAll parts + 1
  | .iface _ d => uptoBulk d + 1
  | .map entries => uptoBulkEntries entries + 1
  | .held _ => 1
def uptoBulkAll {H : Type} : List (DataW H) → Nat
  | [] => 0
  | d :: r => uptoBulk d + uptoBulkAll r
def uptoBulkEntries {H : Type} : List (Lit × DataW H) → Nat
  | [] => 0
  | x :: r => uptoBulkEntry x + uptoBulkEntries r
def uptoBulkEntry {H : Type} : Lit × DataW H → Nat
  | (.string bytes, d) => bytes.length + uptoBulk d + 1
  | (_, d) => uptoBulk d + 1
 end
def uptoSmall : (H : Type) → List (DataW H) → Bool := fun _ ds => decide (uptoBulkAll ds ≤ 1048576)
def OpenSpec.upto (s : _root_.Go.ChangeSpec) : _root_.Go.OpenSpec := { _root_.Go.OpenSpec.ofChange s with cond := some uptoSmall }

/-- 'laws.FnTreeRoot', WHERE WHAT IT READS IS OF BULK AT MOST 1048576: true; the input reads as it did. -/
def fnTreeRootUptoRow : OpenClaim := { program := "ytielnphmcaecdaadoor", sum := "ead66ce95f5ef722170a29e2c7b8edb0097ae5c1275e1210ec89d054f2d81a63", func := "pub-sarsen/laws.FnTreeRoot", spec := "fnTreeRoot", unfollowed := true, recurses := true, named := ["math/bits.deBruijn64tab"], apart := false, laid := [("math/bits.deBruijn64tab", laid_math_bits_deBruijn64tab)], narrowed := true }
def FnTreeRootUptoSaid : Prop := fnTreeRootUptoRow.holds Tryd.pinned (OpenSpec.upto fnTreeRootSpec)

/-- 'laws.FnRangeMerge', WHERE WHAT IT READS IS OF BULK AT MOST 1048576: true; the input reads as it did. -/
def fnRangeMergeUptoRow : OpenClaim := { program := "ytielnphmcaecdaadoor", sum := "ead66ce95f5ef722170a29e2c7b8edb0097ae5c1275e1210ec89d054f2d81a63", func := "pub-sarsen/laws.FnRangeMerge", spec := "fnRangeMerge", unfollowed := true, recurses := true, named := ["math/bits.deBruijn64tab"], apart := false, laid := [("math/bits.deBruijn64tab", laid_math_bits_deBruijn64tab)], narrowed := true }
def FnRangeMergeUptoSaid : Prop := fnRangeMergeUptoRow.holds Tryd.pinned (OpenSpec.upto fnRangeMergeSpec)

/-- 'laws.FnRangeRootOfLeaves', WHERE WHAT IT READS IS OF BULK AT MOST 1048576: true; the input reads as it did. -/
def fnRangeRootOfLeavesUptoRow : OpenClaim := { program := "ytielnphmcaecdaadoor", sum := "ead66ce95f5ef722170a29e2c7b8edb0097ae5c1275e1210ec89d054f2d81a63", func := "pub-sarsen/laws.FnRangeRootOfLeaves", spec := "fnRangeRootOfLeaves", unfollowed := true, recurses := true, named := ["math/bits.deBruijn64tab"], apart := false, laid := [("math/bits.deBruijn64tab", laid_math_bits_deBruijn64tab)], narrowed := true }
def FnRangeRootOfLeavesUptoSaid : Prop := fnRangeRootOfLeavesUptoRow.holds Tryd.pinned (OpenSpec.upto fnRangeRootOfLeavesSpec)

/-- 'laws.FnConsistencyHashes', WHERE WHAT IT READS IS OF BULK AT MOST 1048576: true; the input reads as it did. -/
def fnConsistencyHashesUptoRow : OpenClaim := { program := "ytielnphmcaecdaadoor", sum := "ead66ce95f5ef722170a29e2c7b8edb0097ae5c1275e1210ec89d054f2d81a63", func := "pub-sarsen/laws.FnConsistencyHashes", spec := "fnConsistencyHashes", unfollowed := true, recurses := true, named := ["math/bits.deBruijn64tab"], apart := false, laid := [("math/bits.deBruijn64tab", laid_math_bits_deBruijn64tab)], narrowed := true }
def FnConsistencyHashesUptoSaid : Prop := fnConsistencyHashesUptoRow.holds Tryd.pinned (OpenSpec.upto fnConsistencyHashesSpec)

/-- 'laws.FnInclusionMade', WHERE WHAT IT READS IS OF BULK AT MOST 1048576: true; the input reads as it did. -/
def fnInclusionMadeUptoRow : OpenClaim := { program := "ytielnphmcaecdaadoor", sum := "ead66ce95f5ef722170a29e2c7b8edb0097ae5c1275e1210ec89d054f2d81a63", func := "pub-sarsen/laws.FnInclusionMade", spec := "fnInclusionMade", unfollowed := true, recurses := true, named := ["math/bits.deBruijn64tab"], apart := false, laid := [("math/bits.deBruijn64tab", laid_math_bits_deBruijn64tab)], narrowed := true }
def FnInclusionMadeUptoSaid : Prop := fnInclusionMadeUptoRow.holds Tryd.pinned (OpenSpec.upto fnInclusionMadeSpec)

/-- 'laws.FnConsistencySound', WHERE WHAT IT READS IS OF BULK AT MOST 1048576: true; the input reads as it did. -/
def fnConsistencySoundUptoRow : OpenClaim := { program := "ytielnphmcaecdaadoor", sum := "ead66ce95f5ef722170a29e2c7b8edb0097ae5c1275e1210ec89d054f2d81a63", func := "pub-sarsen/laws.FnConsistencySound", spec := "fnConsistencySound", unfollowed := true, recurses := true, named := ["math/bits.deBruijn64tab"], apart := false, laid := [("math/bits.deBruijn64tab", laid_math_bits_deBruijn64tab)], narrowed := true }
def FnConsistencySoundUptoSaid : Prop := fnConsistencySoundUptoRow.holds Tryd.pinned (OpenSpec.upto fnConsistencySoundSpec)

/-- 'laws.FnTreeIsRange', WHERE WHAT IT READS IS OF BULK AT MOST 1048576: true; the input reads as it did. -/
def fnTreeIsRangeUptoRow : OpenClaim := { program := "ytielnphmcaecdaadoor", sum := "ead66ce95f5ef722170a29e2c7b8edb0097ae5c1275e1210ec89d054f2d81a63", func := "pub-sarsen/laws.FnTreeIsRange", spec := "fnTreeIsRange", unfollowed := true, recurses := true, named := ["math/bits.deBruijn64tab"], apart := false, laid := [("math/bits.deBruijn64tab", laid_math_bits_deBruijn64tab)], narrowed := true }
def FnTreeIsRangeUptoSaid : Prop := fnTreeIsRangeUptoRow.holds Tryd.pinned (OpenSpec.upto fnTreeIsRangeSpec)

/-- 'laws.FnInclusionTaken', WHERE WHAT IT READS IS OF BULK AT MOST 1048576: true; the input reads as it did. -/
def fnInclusionTakenUptoRow : OpenClaim := { program := "ytielnphmcaecdaadoor", sum := "ead66ce95f5ef722170a29e2c7b8edb0097ae5c1275e1210ec89d054f2d81a63", func := "pub-sarsen/laws.FnInclusionTaken", spec := "fnInclusionTaken", unfollowed := true, recurses := true, named := ["math/bits.deBruijn64tab"], apart := false, laid := [("math/bits.deBruijn64tab", laid_math_bits_deBruijn64tab)], narrowed := true }
def FnInclusionTakenUptoSaid : Prop := fnInclusionTakenUptoRow.holds Tryd.pinned (OpenSpec.upto fnInclusionTakenSpec)

/-- 'laws.FnThreeSizes', WHERE WHAT IT READS IS OF BULK AT MOST 1048576: true; the input reads as it did. -/
def fnThreeSizesUptoRow : OpenClaim := { program := "ytielnphmcaecdaadoor", sum := "ead66ce95f5ef722170a29e2c7b8edb0097ae5c1275e1210ec89d054f2d81a63", func := "pub-sarsen/laws.FnThreeSizes", spec := "fnThreeSizes", unfollowed := true, recurses := true, named := ["math/bits.deBruijn64tab"], apart := false, laid := [("math/bits.deBruijn64tab", laid_math_bits_deBruijn64tab)], narrowed := true }
def FnThreeSizesUptoSaid : Prop := fnThreeSizesUptoRow.holds Tryd.pinned (OpenSpec.upto fnThreeSizesSpec)

end Rows
end Go.Proofs.YtielnphmcaecdaaDoor
