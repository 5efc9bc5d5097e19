/-
  No cell of these rows narrows 'for every input' (looked for: loops, veiled, ifaces, maps, wideKeys, modest, calm, conditions, laid).
  DERIVED. THE GIVEN ROWS OF THIS SEAT. 9 by the template 'for every input the law returns true; each argument reads behind the call as it read before'; 0 by the template 'total and deterministic' (their statements: Qxb6000744aModsTotals.lean).
  GIVEN WITH THE SEED: the statements are not yours to turn. If you find one false, say at which input.
  Laid BY PROGRAM, IN A SANDBOX (cutbox-rows.mjs): the forced cells as the released guide's own fill.sh prints them over the translation f1d41bf89c0870b2… (all of the seat's roots in one cut). By AI agents, Wed Nov 11 2026. No macro, syntax, notation, axiom, sorry.
-/
import Derived.Test.Qxb6000744aModsChecked
import GoSem.Claim
import GoSem.ClaimJoined
import GoSem.ClaimMapViews
import Derived.JoinedTies
import Derived.KernelRfl
namespace Go.Proofs.Qxb6000744aMods
/- THE CELL 'sum', in the pinned program and in every row, IS THE sha256 OF THE DUMP (.gsa) THAT Qxb6000744aModsProg.lean LOADS. Nothing in Lean hashes anything: it is a label: what it is worth is what the hold of that sum in a sandbox is worth. -/
noncomputable def Trym.pinned : Pinned := { name := "qxb6000744amods", sum := "f1d41bf89c0870b2bf4e0d41f5a8d500317336f2c5c0472b826c2335f313a959", checked := Trym.checked }
namespace Rows
def none {H : Type} : Left H := { results := [], args := [] }

/-- 'zzlaws_parity_b1.FnMostIsPluralityLowestOnTie': WHATEVER THE INPUT: true; the input reads as it did. -/
def fnMostIsPluralityLowestOnTieSpec : ChangeSpec := { name := "fnMostIsPluralityLowestOnTie", fn := fun _ => fun
  | [d] => { results := [.lit (.bool true)], args := [d] }
  | _ => none }
def fnMostIsPluralityLowestOnTieRow : OpenClaim := { program := "qxb6000744amods", sum := "f1d41bf89c0870b2bf4e0d41f5a8d500317336f2c5c0472b826c2335f313a959", func := "example.com/stoneseal/stoneseal/zzlaws_parity_b1.FnMostIsPluralityLowestOnTie", spec := "fnMostIsPluralityLowestOnTie", make := .lifted ["publicsums"], apart := false }
def FnMostIsPluralityLowestOnTieSaid : Prop := fnMostIsPluralityLowestOnTieRow.holds Trym.pinned (OpenSpec.ofChange fnMostIsPluralityLowestOnTieSpec)

/-- ITS FALSE NEIGHBOUR: 'it returns false'. Refute it at one input. -/
def fnMostIsPluralityLowestOnTieWrong : ChangeSpec := { name := "fnMostIsPluralityLowestOnTie", fn := fun _ => fun
  | [d] => { results := [.lit (.bool false)], args := [d] }
  | _ => none }
def FnMostIsPluralityLowestOnTieWrongFalsely : Prop := fnMostIsPluralityLowestOnTieRow.holds Trym.pinned (OpenSpec.ofChange fnMostIsPluralityLowestOnTieWrong)

/-- 'zzlaws_parity_b1.FnMostOrderFree': WHATEVER THE INPUT: true; the input reads as it did. -/
def fnMostOrderFreeSpec : ChangeSpec := { name := "fnMostOrderFree", fn := fun _ => fun
  | [d] => { results := [.lit (.bool true)], args := [d] }
  | _ => none }
def fnMostOrderFreeRow : OpenClaim := { program := "qxb6000744amods", sum := "f1d41bf89c0870b2bf4e0d41f5a8d500317336f2c5c0472b826c2335f313a959", func := "example.com/stoneseal/stoneseal/zzlaws_parity_b1.FnMostOrderFree", spec := "fnMostOrderFree", make := .lifted ["publicsums"], apart := false }
def FnMostOrderFreeSaid : Prop := fnMostOrderFreeRow.holds Trym.pinned (OpenSpec.ofChange fnMostOrderFreeSpec)

/-- ITS FALSE NEIGHBOUR: 'it returns false'. Refute it at one input. -/
def fnMostOrderFreeWrong : ChangeSpec := { name := "fnMostOrderFree", fn := fun _ => fun
  | [d] => { results := [.lit (.bool false)], args := [d] }
  | _ => none }
def FnMostOrderFreeWrongFalsely : Prop := fnMostOrderFreeRow.holds Trym.pinned (OpenSpec.ofChange fnMostOrderFreeWrong)

/-- 'zzlaws_parity_b1.FnMostStableUnderWinnerVote': WHATEVER THE INPUT: true; the input reads as it did. -/
def fnMostStableUnderWinnerVoteSpec : ChangeSpec := { name := "fnMostStableUnderWinnerVote", fn := fun _ => fun
  | [d] => { results := [.lit (.bool true)], args := [d] }
  | _ => none }
def fnMostStableUnderWinnerVoteRow : OpenClaim := { program := "qxb6000744amods", sum := "f1d41bf89c0870b2bf4e0d41f5a8d500317336f2c5c0472b826c2335f313a959", func := "example.com/stoneseal/stoneseal/zzlaws_parity_b1.FnMostStableUnderWinnerVote", spec := "fnMostStableUnderWinnerVote", make := .lifted ["publicsums"], apart := false }
def FnMostStableUnderWinnerVoteSaid : Prop := fnMostStableUnderWinnerVoteRow.holds Trym.pinned (OpenSpec.ofChange fnMostStableUnderWinnerVoteSpec)

/-- ITS FALSE NEIGHBOUR: 'it returns false'. Refute it at one input. -/
def fnMostStableUnderWinnerVoteWrong : ChangeSpec := { name := "fnMostStableUnderWinnerVote", fn := fun _ => fun
  | [d] => { results := [.lit (.bool false)], args := [d] }
  | _ => none }
def FnMostStableUnderWinnerVoteWrongFalsely : Prop := fnMostStableUnderWinnerVoteRow.holds Trym.pinned (OpenSpec.ofChange fnMostStableUnderWinnerVoteWrong)

/-- 'zzlaws_parity_b1.FnLostSymbolsCoverExactlyTheRuns': WHATEVER THE INPUT: true; the input reads as it did. -/
def fnLostSymbolsCoverExactlyTheRunsSpec : ChangeSpec := { name := "fnLostSymbolsCoverExactlyTheRuns", fn := fun _ => fun
  | [d1, d2, d3, d4] => { results := [.lit (.bool true)], args := [d1, d2, d3, d4] }
  | _ => none }
def fnLostSymbolsCoverExactlyTheRunsRow : OpenClaim := { program := "qxb6000744amods", sum := "f1d41bf89c0870b2bf4e0d41f5a8d500317336f2c5c0472b826c2335f313a959", func := "example.com/stoneseal/stoneseal/zzlaws_parity_b1.FnLostSymbolsCoverExactlyTheRuns", spec := "fnLostSymbolsCoverExactlyTheRuns", make := .lifted ["publicsums"], apart := false }
def FnLostSymbolsCoverExactlyTheRunsSaid : Prop := fnLostSymbolsCoverExactlyTheRunsRow.holds Trym.pinned (OpenSpec.ofChange fnLostSymbolsCoverExactlyTheRunsSpec)

/-- ITS FALSE NEIGHBOUR: 'it returns false'. Refute it at one input. -/
def fnLostSymbolsCoverExactlyTheRunsWrong : ChangeSpec := { name := "fnLostSymbolsCoverExactlyTheRuns", fn := fun _ => fun
  | [d1, d2, d3, d4] => { results := [.lit (.bool false)], args := [d1, d2, d3, d4] }
  | _ => none }
def FnLostSymbolsCoverExactlyTheRunsWrongFalsely : Prop := fnLostSymbolsCoverExactlyTheRunsRow.holds Trym.pinned (OpenSpec.ofChange fnLostSymbolsCoverExactlyTheRunsWrong)

/-- 'zzlaws_parity_b1.FnLostSymbolsKeepsTotalLength': WHATEVER THE INPUT: true; the input reads as it did. -/
def fnLostSymbolsKeepsTotalLengthSpec : ChangeSpec := { name := "fnLostSymbolsKeepsTotalLength", fn := fun _ => fun
  | [d1, d2, d3, d4] => { results := [.lit (.bool true)], args := [d1, d2, d3, d4] }
  | _ => none }
def fnLostSymbolsKeepsTotalLengthRow : OpenClaim := { program := "qxb6000744amods", sum := "f1d41bf89c0870b2bf4e0d41f5a8d500317336f2c5c0472b826c2335f313a959", func := "example.com/stoneseal/stoneseal/zzlaws_parity_b1.FnLostSymbolsKeepsTotalLength", spec := "fnLostSymbolsKeepsTotalLength", make := .lifted ["publicsums"], apart := false }
def FnLostSymbolsKeepsTotalLengthSaid : Prop := fnLostSymbolsKeepsTotalLengthRow.holds Trym.pinned (OpenSpec.ofChange fnLostSymbolsKeepsTotalLengthSpec)

/-- ITS FALSE NEIGHBOUR: 'it returns false'. Refute it at one input. -/
def fnLostSymbolsKeepsTotalLengthWrong : ChangeSpec := { name := "fnLostSymbolsKeepsTotalLength", fn := fun _ => fun
  | [d1, d2, d3, d4] => { results := [.lit (.bool false)], args := [d1, d2, d3, d4] }
  | _ => none }
def FnLostSymbolsKeepsTotalLengthWrongFalsely : Prop := fnLostSymbolsKeepsTotalLengthRow.holds Trym.pinned (OpenSpec.ofChange fnLostSymbolsKeepsTotalLengthWrong)

/-- 'zzlaws_parity_b1.FnLostSymbolsSortedRunsGiveSortedStretches': WHATEVER THE INPUT: true; the input reads as it did. -/
def fnLostSymbolsSortedRunsGiveSortedStretchesSpec : ChangeSpec := { name := "fnLostSymbolsSortedRunsGiveSortedStretches", fn := fun _ => fun
  | [d1, d2, d3, d4] => { results := [.lit (.bool true)], args := [d1, d2, d3, d4] }
  | _ => none }
def fnLostSymbolsSortedRunsGiveSortedStretchesRow : OpenClaim := { program := "qxb6000744amods", sum := "f1d41bf89c0870b2bf4e0d41f5a8d500317336f2c5c0472b826c2335f313a959", func := "example.com/stoneseal/stoneseal/zzlaws_parity_b1.FnLostSymbolsSortedRunsGiveSortedStretches", spec := "fnLostSymbolsSortedRunsGiveSortedStretches", make := .lifted ["publicsums"], apart := false }
def FnLostSymbolsSortedRunsGiveSortedStretchesSaid : Prop := fnLostSymbolsSortedRunsGiveSortedStretchesRow.holds Trym.pinned (OpenSpec.ofChange fnLostSymbolsSortedRunsGiveSortedStretchesSpec)

/-- ITS FALSE NEIGHBOUR: 'it returns false'. Refute it at one input. -/
def fnLostSymbolsSortedRunsGiveSortedStretchesWrong : ChangeSpec := { name := "fnLostSymbolsSortedRunsGiveSortedStretches", fn := fun _ => fun
  | [d1, d2, d3, d4] => { results := [.lit (.bool false)], args := [d1, d2, d3, d4] }
  | _ => none }
def FnLostSymbolsSortedRunsGiveSortedStretchesWrongFalsely : Prop := fnLostSymbolsSortedRunsGiveSortedStretchesRow.holds Trym.pinned (OpenSpec.ofChange fnLostSymbolsSortedRunsGiveSortedStretchesWrong)

/-- 'zzlaws_parity_b1.FnGeometryHoldsStreamWithoutSpareRow': WHATEVER THE INPUT: true; the input reads as it did. -/
def fnGeometryHoldsStreamWithoutSpareRowSpec : ChangeSpec := { name := "fnGeometryHoldsStreamWithoutSpareRow", fn := fun _ => fun
  | [d1, d2, d3, d4] => { results := [.lit (.bool true)], args := [d1, d2, d3, d4] }
  | _ => none }
def fnGeometryHoldsStreamWithoutSpareRowRow : OpenClaim := { program := "qxb6000744amods", sum := "f1d41bf89c0870b2bf4e0d41f5a8d500317336f2c5c0472b826c2335f313a959", func := "example.com/stoneseal/stoneseal/zzlaws_parity_b1.FnGeometryHoldsStreamWithoutSpareRow", spec := "fnGeometryHoldsStreamWithoutSpareRow", make := .lifted ["publicsums"], apart := false }
def FnGeometryHoldsStreamWithoutSpareRowSaid : Prop := fnGeometryHoldsStreamWithoutSpareRowRow.holds Trym.pinned (OpenSpec.ofChange fnGeometryHoldsStreamWithoutSpareRowSpec)

/-- ITS FALSE NEIGHBOUR: 'it returns false'. Refute it at one input. -/
def fnGeometryHoldsStreamWithoutSpareRowWrong : ChangeSpec := { name := "fnGeometryHoldsStreamWithoutSpareRow", fn := fun _ => fun
  | [d1, d2, d3, d4] => { results := [.lit (.bool false)], args := [d1, d2, d3, d4] }
  | _ => none }
def FnGeometryHoldsStreamWithoutSpareRowWrongFalsely : Prop := fnGeometryHoldsStreamWithoutSpareRowRow.holds Trym.pinned (OpenSpec.ofChange fnGeometryHoldsStreamWithoutSpareRowWrong)

/-- 'zzlaws_parity_b1.FnGeometryPiecesFitTheHead': WHATEVER THE INPUT: true; the input reads as it did. -/
def fnGeometryPiecesFitTheHeadSpec : ChangeSpec := { name := "fnGeometryPiecesFitTheHead", fn := fun _ => fun
  | [d1, d2, d3, d4] => { results := [.lit (.bool true)], args := [d1, d2, d3, d4] }
  | _ => none }
def fnGeometryPiecesFitTheHeadRow : OpenClaim := { program := "qxb6000744amods", sum := "f1d41bf89c0870b2bf4e0d41f5a8d500317336f2c5c0472b826c2335f313a959", func := "example.com/stoneseal/stoneseal/zzlaws_parity_b1.FnGeometryPiecesFitTheHead", spec := "fnGeometryPiecesFitTheHead", make := .lifted ["publicsums"], apart := false }
def FnGeometryPiecesFitTheHeadSaid : Prop := fnGeometryPiecesFitTheHeadRow.holds Trym.pinned (OpenSpec.ofChange fnGeometryPiecesFitTheHeadSpec)

/-- ITS FALSE NEIGHBOUR: 'it returns false'. Refute it at one input. -/
def fnGeometryPiecesFitTheHeadWrong : ChangeSpec := { name := "fnGeometryPiecesFitTheHead", fn := fun _ => fun
  | [d1, d2, d3, d4] => { results := [.lit (.bool false)], args := [d1, d2, d3, d4] }
  | _ => none }
def FnGeometryPiecesFitTheHeadWrongFalsely : Prop := fnGeometryPiecesFitTheHeadRow.holds Trym.pinned (OpenSpec.ofChange fnGeometryPiecesFitTheHeadWrong)

/-- 'zzlaws_parity_b1.FnGeometryGrowsWithTheStream': WHATEVER THE INPUT: true; the input reads as it did. -/
def fnGeometryGrowsWithTheStreamSpec : ChangeSpec := { name := "fnGeometryGrowsWithTheStream", fn := fun _ => fun
  | [d1, d2, d3, d4, d5] => { results := [.lit (.bool true)], args := [d1, d2, d3, d4, d5] }
  | _ => none }
def fnGeometryGrowsWithTheStreamRow : OpenClaim := { program := "qxb6000744amods", sum := "f1d41bf89c0870b2bf4e0d41f5a8d500317336f2c5c0472b826c2335f313a959", func := "example.com/stoneseal/stoneseal/zzlaws_parity_b1.FnGeometryGrowsWithTheStream", spec := "fnGeometryGrowsWithTheStream", make := .lifted ["publicsums"], apart := false }
def FnGeometryGrowsWithTheStreamSaid : Prop := fnGeometryGrowsWithTheStreamRow.holds Trym.pinned (OpenSpec.ofChange fnGeometryGrowsWithTheStreamSpec)

/-- ITS FALSE NEIGHBOUR: 'it returns false'. Refute it at one input. -/
def fnGeometryGrowsWithTheStreamWrong : ChangeSpec := { name := "fnGeometryGrowsWithTheStream", fn := fun _ => fun
  | [d1, d2, d3, d4, d5] => { results := [.lit (.bool false)], args := [d1, d2, d3, d4, d5] }
  | _ => none }
def FnGeometryGrowsWithTheStreamWrongFalsely : Prop := fnGeometryGrowsWithTheStreamRow.holds Trym.pinned (OpenSpec.ofChange fnGeometryGrowsWithTheStreamWrong)

end Rows
end Go.Proofs.Qxb6000744aMods
