/-
  No cell of these rows narrows 'for every input' (looked for: loops, veiled, ifaces, maps, wideKeys, modest, calm, conditions, laid).
  DERIVED. THE GIVEN ROWS OF THIS SEAT. 6 by the template 'for every input the law returns true; each argument reads behind the call as it read before'; 0 by the template 'total and deterministic' (their statements: Qxb6601991aModsTotals.lean).
  GIVEN WITH THE SEED: the statements are not yours to turn. If you find one false, say at which input.
  Laid BY PROGRAM, IN A SANDBOX (cutbox-rows.mjs): the forced cells as the released guide's own fill.sh prints them over the translation 87d52b0a29e043ba… (all of the seat's roots in one cut). By AI agents, Wed Nov 11 2026. No macro, syntax, notation, axiom, sorry.
-/
import Derived.Test.Qxb6601991aModsChecked
import GoSem.Claim
import GoSem.ClaimJoined
import GoSem.ClaimMapViews
import Derived.JoinedTies
import Derived.KernelRfl
namespace Go.Proofs.Qxb6601991aMods
/- THE CELL 'sum', in the pinned program and in every row, IS THE sha256 OF THE DUMP (.gsa) THAT Qxb6601991aModsProg.lean LOADS. Nothing in Lean hashes anything: it is a label: what it is worth is what the hold of that sum in a sandbox is worth. -/
noncomputable def Trym.pinned : Pinned := { name := "qxb6601991amods", sum := "87d52b0a29e043ba7f31b2a8c187982ad58e49b13027535d785c0c245cdfdc0c", checked := Trym.checked }
namespace Rows
def none {H : Type} : Left H := { results := [], args := [] }

/-- 'zzlaws_root_b1.FnAppendStayingKeepsStayersInBothBranches': WHATEVER THE INPUT: true; the input reads as it did. -/
def fnAppendStayingKeepsStayersInBothBranchesSpec : ChangeSpec := { name := "fnAppendStayingKeepsStayersInBothBranches", fn := fun _ => fun
  | [d1, d2, d3] => { results := [.lit (.bool true)], args := [d1, d2, d3] }
  | _ => none }
def fnAppendStayingKeepsStayersInBothBranchesRow : OpenClaim := { program := "qxb6601991amods", sum := "87d52b0a29e043ba7f31b2a8c187982ad58e49b13027535d785c0c245cdfdc0c", func := "example.com/ringwise/ringwise/zzlaws_root_b1.FnAppendStayingKeepsStayersInBothBranches", spec := "fnAppendStayingKeepsStayersInBothBranches", make := .lifted ["publicsums"], apart := false }
def FnAppendStayingKeepsStayersInBothBranchesSaid : Prop := fnAppendStayingKeepsStayersInBothBranchesRow.holds Trym.pinned (OpenSpec.ofChange fnAppendStayingKeepsStayersInBothBranchesSpec)

/-- ITS FALSE NEIGHBOUR: 'it returns false'. Refute it at one input. -/
def fnAppendStayingKeepsStayersInBothBranchesWrong : ChangeSpec := { name := "fnAppendStayingKeepsStayersInBothBranches", fn := fun _ => fun
  | [d1, d2, d3] => { results := [.lit (.bool false)], args := [d1, d2, d3] }
  | _ => none }
def FnAppendStayingKeepsStayersInBothBranchesWrongFalsely : Prop := fnAppendStayingKeepsStayersInBothBranchesRow.holds Trym.pinned (OpenSpec.ofChange fnAppendStayingKeepsStayersInBothBranchesWrong)

/-- 'zzlaws_root_b1.FnAppendStayingInTwoPartsIsInOne': WHATEVER THE INPUT: true; the input reads as it did. -/
def fnAppendStayingInTwoPartsIsInOneSpec : ChangeSpec := { name := "fnAppendStayingInTwoPartsIsInOne", fn := fun _ => fun
  | [d1, d2, d3, d4] => { results := [.lit (.bool true)], args := [d1, d2, d3, d4] }
  | _ => none }
def fnAppendStayingInTwoPartsIsInOneRow : OpenClaim := { program := "qxb6601991amods", sum := "87d52b0a29e043ba7f31b2a8c187982ad58e49b13027535d785c0c245cdfdc0c", func := "example.com/ringwise/ringwise/zzlaws_root_b1.FnAppendStayingInTwoPartsIsInOne", spec := "fnAppendStayingInTwoPartsIsInOne", make := .lifted ["publicsums"], apart := false }
def FnAppendStayingInTwoPartsIsInOneSaid : Prop := fnAppendStayingInTwoPartsIsInOneRow.holds Trym.pinned (OpenSpec.ofChange fnAppendStayingInTwoPartsIsInOneSpec)

/-- ITS FALSE NEIGHBOUR: 'it returns false'. Refute it at one input. -/
def fnAppendStayingInTwoPartsIsInOneWrong : ChangeSpec := { name := "fnAppendStayingInTwoPartsIsInOne", fn := fun _ => fun
  | [d1, d2, d3, d4] => { results := [.lit (.bool false)], args := [d1, d2, d3, d4] }
  | _ => none }
def FnAppendStayingInTwoPartsIsInOneWrongFalsely : Prop := fnAppendStayingInTwoPartsIsInOneRow.holds Trym.pinned (OpenSpec.ofChange fnAppendStayingInTwoPartsIsInOneWrong)

/-- 'zzlaws_root_b1.FnSeatsGivesSittingSeatsAndLowestFreeNumbers': WHATEVER THE INPUT: true; the input reads as it did. -/
def fnSeatsGivesSittingSeatsAndLowestFreeNumbersSpec : ChangeSpec := { name := "fnSeatsGivesSittingSeatsAndLowestFreeNumbers", fn := fun _ => fun
  | [d1, d2, d3] => { results := [.lit (.bool true)], args := [d1, d2, d3] }
  | _ => none }
def fnSeatsGivesSittingSeatsAndLowestFreeNumbersRow : OpenClaim := { program := "qxb6601991amods", sum := "87d52b0a29e043ba7f31b2a8c187982ad58e49b13027535d785c0c245cdfdc0c", func := "example.com/ringwise/ringwise/zzlaws_root_b1.FnSeatsGivesSittingSeatsAndLowestFreeNumbers", spec := "fnSeatsGivesSittingSeatsAndLowestFreeNumbers", make := .lifted ["publicsums"], apart := false }
def FnSeatsGivesSittingSeatsAndLowestFreeNumbersSaid : Prop := fnSeatsGivesSittingSeatsAndLowestFreeNumbersRow.holds Trym.pinned (OpenSpec.ofChange fnSeatsGivesSittingSeatsAndLowestFreeNumbersSpec)

/-- ITS FALSE NEIGHBOUR: 'it returns false'. Refute it at one input. -/
def fnSeatsGivesSittingSeatsAndLowestFreeNumbersWrong : ChangeSpec := { name := "fnSeatsGivesSittingSeatsAndLowestFreeNumbers", fn := fun _ => fun
  | [d1, d2, d3] => { results := [.lit (.bool false)], args := [d1, d2, d3] }
  | _ => none }
def FnSeatsGivesSittingSeatsAndLowestFreeNumbersWrongFalsely : Prop := fnSeatsGivesSittingSeatsAndLowestFreeNumbersRow.holds Trym.pinned (OpenSpec.ofChange fnSeatsGivesSittingSeatsAndLowestFreeNumbersWrong)

/-- 'zzlaws_root_b1.FnSeatsLeavesRosterAndTakesOnlyFreeNumbers': WHATEVER THE INPUT: true; the input reads as it did. -/
def fnSeatsLeavesRosterAndTakesOnlyFreeNumbersSpec : ChangeSpec := { name := "fnSeatsLeavesRosterAndTakesOnlyFreeNumbers", fn := fun _ => fun
  | [d1, d2, d3] => { results := [.lit (.bool true)], args := [d1, d2, d3] }
  | _ => none }
def fnSeatsLeavesRosterAndTakesOnlyFreeNumbersRow : OpenClaim := { program := "qxb6601991amods", sum := "87d52b0a29e043ba7f31b2a8c187982ad58e49b13027535d785c0c245cdfdc0c", func := "example.com/ringwise/ringwise/zzlaws_root_b1.FnSeatsLeavesRosterAndTakesOnlyFreeNumbers", spec := "fnSeatsLeavesRosterAndTakesOnlyFreeNumbers", make := .lifted ["publicsums"], apart := false }
def FnSeatsLeavesRosterAndTakesOnlyFreeNumbersSaid : Prop := fnSeatsLeavesRosterAndTakesOnlyFreeNumbersRow.holds Trym.pinned (OpenSpec.ofChange fnSeatsLeavesRosterAndTakesOnlyFreeNumbersSpec)

/-- ITS FALSE NEIGHBOUR: 'it returns false'. Refute it at one input. -/
def fnSeatsLeavesRosterAndTakesOnlyFreeNumbersWrong : ChangeSpec := { name := "fnSeatsLeavesRosterAndTakesOnlyFreeNumbers", fn := fun _ => fun
  | [d1, d2, d3] => { results := [.lit (.bool false)], args := [d1, d2, d3] }
  | _ => none }
def FnSeatsLeavesRosterAndTakesOnlyFreeNumbersWrongFalsely : Prop := fnSeatsLeavesRosterAndTakesOnlyFreeNumbersRow.holds Trym.pinned (OpenSpec.ofChange fnSeatsLeavesRosterAndTakesOnlyFreeNumbersWrong)

/-- 'zzlaws_root_b1.FnWalkNextMeetsPointsInDistanceOrder': WHATEVER THE INPUT: true; the input reads as it did. -/
def fnWalkNextMeetsPointsInDistanceOrderSpec : ChangeSpec := { name := "fnWalkNextMeetsPointsInDistanceOrder", fn := fun _ => fun
  | [d1, d2, d3, d4] => { results := [.lit (.bool true)], args := [d1, d2, d3, d4] }
  | _ => none }
def fnWalkNextMeetsPointsInDistanceOrderRow : OpenClaim := { program := "qxb6601991amods", sum := "87d52b0a29e043ba7f31b2a8c187982ad58e49b13027535d785c0c245cdfdc0c", func := "example.com/ringwise/ringwise/zzlaws_root_b1.FnWalkNextMeetsPointsInDistanceOrder", spec := "fnWalkNextMeetsPointsInDistanceOrder", make := .lifted ["publicsums"], apart := false }
def FnWalkNextMeetsPointsInDistanceOrderSaid : Prop := fnWalkNextMeetsPointsInDistanceOrderRow.holds Trym.pinned (OpenSpec.ofChange fnWalkNextMeetsPointsInDistanceOrderSpec)

/-- ITS FALSE NEIGHBOUR: 'it returns false'. Refute it at one input. -/
def fnWalkNextMeetsPointsInDistanceOrderWrong : ChangeSpec := { name := "fnWalkNextMeetsPointsInDistanceOrder", fn := fun _ => fun
  | [d1, d2, d3, d4] => { results := [.lit (.bool false)], args := [d1, d2, d3, d4] }
  | _ => none }
def FnWalkNextMeetsPointsInDistanceOrderWrongFalsely : Prop := fnWalkNextMeetsPointsInDistanceOrderRow.holds Trym.pinned (OpenSpec.ofChange fnWalkNextMeetsPointsInDistanceOrderWrong)

/-- 'zzlaws_root_b1.FnWalkNextIgnoresPaging': WHATEVER THE INPUT: true; the input reads as it did. -/
def fnWalkNextIgnoresPagingSpec : ChangeSpec := { name := "fnWalkNextIgnoresPaging", fn := fun _ => fun
  | [d1, d2, d3, d4, d5] => { results := [.lit (.bool true)], args := [d1, d2, d3, d4, d5] }
  | _ => none }
def fnWalkNextIgnoresPagingRow : OpenClaim := { program := "qxb6601991amods", sum := "87d52b0a29e043ba7f31b2a8c187982ad58e49b13027535d785c0c245cdfdc0c", func := "example.com/ringwise/ringwise/zzlaws_root_b1.FnWalkNextIgnoresPaging", spec := "fnWalkNextIgnoresPaging", make := .lifted ["publicsums"], apart := false }
def FnWalkNextIgnoresPagingSaid : Prop := fnWalkNextIgnoresPagingRow.holds Trym.pinned (OpenSpec.ofChange fnWalkNextIgnoresPagingSpec)

/-- ITS FALSE NEIGHBOUR: 'it returns false'. Refute it at one input. -/
def fnWalkNextIgnoresPagingWrong : ChangeSpec := { name := "fnWalkNextIgnoresPaging", fn := fun _ => fun
  | [d1, d2, d3, d4, d5] => { results := [.lit (.bool false)], args := [d1, d2, d3, d4, d5] }
  | _ => none }
def FnWalkNextIgnoresPagingWrongFalsely : Prop := fnWalkNextIgnoresPagingRow.holds Trym.pinned (OpenSpec.ofChange fnWalkNextIgnoresPagingWrong)

end Rows
end Go.Proofs.Qxb6601991aMods
