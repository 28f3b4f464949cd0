/-
  No cell of these rows narrows 'for every input' (looked for: loops, veiled, ifaces, maps, wideKeys, modest, calm, conditions, laid).
  DERIVED. THE GIVEN ROWS OF THIS SEAT. 5 by the template 'for every input the law returns true; each argument reads behind the call as it read before'; 0 by the template 'total and deterministic' (their statements: Qxb6601950aModsTotals.lean).
  GIVEN WITH THE SEED: the statements are not yours to turn. If you find one false, say at which input.
  Laid BY PROGRAM, IN A SANDBOX (cutbox-rows.mjs): the forced cells as the released guide's own fill.sh prints them over the translation 754851519421d961… (all of the seat's roots in one cut). By AI agents, Wed Nov 11 2026. No macro, syntax, notation, axiom, sorry.
-/
import Derived.Test.Qxb6601950aModsChecked
import GoSem.Claim
import GoSem.ClaimJoined
import GoSem.ClaimMapViews
import Derived.JoinedTies
import Derived.KernelRfl
namespace Go.Proofs.Qxb6601950aMods
/- THE CELL 'sum', in the pinned program and in every row, IS THE sha256 OF THE DUMP (.gsa) THAT Qxb6601950aModsProg.lean LOADS. Nothing in Lean hashes anything: it is a label: what it is worth is what the hold of that sum in a sandbox is worth. -/
noncomputable def Trym.pinned : Pinned := { name := "qxb6601950amods", sum := "754851519421d96143876fc2e56f6d8876cd1990dd524211dd1464591a6c104b", checked := Trym.checked }
namespace Rows
def none {H : Type} : Left H := { results := [], args := [] }

/-- 'zzlaws_zstdenc_b1.FnAppendLiteralsHeaderDecodes': WHATEVER THE INPUT: true; the input reads as it did. -/
def fnAppendLiteralsHeaderDecodesSpec : ChangeSpec := { name := "fnAppendLiteralsHeaderDecodes", fn := fun _ => fun
  | [d1, d2, d3] => { results := [.lit (.bool true)], args := [d1, d2, d3] }
  | _ => none }
def fnAppendLiteralsHeaderDecodesRow : OpenClaim := { program := "qxb6601950amods", sum := "754851519421d96143876fc2e56f6d8876cd1990dd524211dd1464591a6c104b", func := "example.com/stratadiff/stratadiff/zzlaws_zstdenc_b1.FnAppendLiteralsHeaderDecodes", spec := "fnAppendLiteralsHeaderDecodes", make := .lifted ["publicsums"], apart := false }
def FnAppendLiteralsHeaderDecodesSaid : Prop := fnAppendLiteralsHeaderDecodesRow.holds Trym.pinned (OpenSpec.ofChange fnAppendLiteralsHeaderDecodesSpec)

/-- ITS FALSE NEIGHBOUR: 'it returns false'. Refute it at one input. -/
def fnAppendLiteralsHeaderDecodesWrong : ChangeSpec := { name := "fnAppendLiteralsHeaderDecodes", fn := fun _ => fun
  | [d1, d2, d3] => { results := [.lit (.bool false)], args := [d1, d2, d3] }
  | _ => none }
def FnAppendLiteralsHeaderDecodesWrongFalsely : Prop := fnAppendLiteralsHeaderDecodesRow.holds Trym.pinned (OpenSpec.ofChange fnAppendLiteralsHeaderDecodesWrong)

/-- 'zzlaws_zstdenc_b1.FnLiteralsHeadersPrefixFree': WHATEVER THE INPUT: true; the input reads as it did. -/
def fnLiteralsHeadersPrefixFreeSpec : ChangeSpec := { name := "fnLiteralsHeadersPrefixFree", fn := fun _ => fun
  | [d1, d2, d3, d4] => { results := [.lit (.bool true)], args := [d1, d2, d3, d4] }
  | _ => none }
def fnLiteralsHeadersPrefixFreeRow : OpenClaim := { program := "qxb6601950amods", sum := "754851519421d96143876fc2e56f6d8876cd1990dd524211dd1464591a6c104b", func := "example.com/stratadiff/stratadiff/zzlaws_zstdenc_b1.FnLiteralsHeadersPrefixFree", spec := "fnLiteralsHeadersPrefixFree", make := .lifted ["publicsums"], apart := false }
def FnLiteralsHeadersPrefixFreeSaid : Prop := fnLiteralsHeadersPrefixFreeRow.holds Trym.pinned (OpenSpec.ofChange fnLiteralsHeadersPrefixFreeSpec)

/-- ITS FALSE NEIGHBOUR: 'it returns false'. Refute it at one input. -/
def fnLiteralsHeadersPrefixFreeWrong : ChangeSpec := { name := "fnLiteralsHeadersPrefixFree", fn := fun _ => fun
  | [d1, d2, d3, d4] => { results := [.lit (.bool false)], args := [d1, d2, d3, d4] }
  | _ => none }
def FnLiteralsHeadersPrefixFreeWrongFalsely : Prop := fnLiteralsHeadersPrefixFreeRow.holds Trym.pinned (OpenSpec.ofChange fnLiteralsHeadersPrefixFreeWrong)

/-- 'zzlaws_zstdenc_b1.FnNextRepsFollowsRFC': WHATEVER THE INPUT: true; the input reads as it did. -/
def fnNextRepsFollowsRFCSpec : ChangeSpec := { name := "fnNextRepsFollowsRFC", fn := fun _ => fun
  | [d1, d2, d3] => { results := [.lit (.bool true)], args := [d1, d2, d3] }
  | _ => none }
def fnNextRepsFollowsRFCRow : OpenClaim := { program := "qxb6601950amods", sum := "754851519421d96143876fc2e56f6d8876cd1990dd524211dd1464591a6c104b", func := "example.com/stratadiff/stratadiff/zzlaws_zstdenc_b1.FnNextRepsFollowsRFC", spec := "fnNextRepsFollowsRFC", make := .lifted ["publicsums"], apart := false }
def FnNextRepsFollowsRFCSaid : Prop := fnNextRepsFollowsRFCRow.holds Trym.pinned (OpenSpec.ofChange fnNextRepsFollowsRFCSpec)

/-- ITS FALSE NEIGHBOUR: 'it returns false'. Refute it at one input. -/
def fnNextRepsFollowsRFCWrong : ChangeSpec := { name := "fnNextRepsFollowsRFC", fn := fun _ => fun
  | [d1, d2, d3] => { results := [.lit (.bool false)], args := [d1, d2, d3] }
  | _ => none }
def FnNextRepsFollowsRFCWrongFalsely : Prop := fnNextRepsFollowsRFCRow.holds Trym.pinned (OpenSpec.ofChange fnNextRepsFollowsRFCWrong)

/-- 'zzlaws_zstdenc_b1.FnFSETableSpecRFC': WHATEVER THE INPUT: true; the input reads as it did. -/
def fnFSETableSpecRFCSpec : ChangeSpec := { name := "fnFSETableSpecRFC", fn := fun _ => fun
  | [d1, d2] => { results := [.lit (.bool true)], args := [d1, d2] }
  | _ => none }
def fnFSETableSpecRFCRow : OpenClaim := { program := "qxb6601950amods", sum := "754851519421d96143876fc2e56f6d8876cd1990dd524211dd1464591a6c104b", func := "example.com/stratadiff/stratadiff/zzlaws_zstdenc_b1.FnFSETableSpecRFC", spec := "fnFSETableSpecRFC", make := .lifted ["publicsums"], apart := false }
def FnFSETableSpecRFCSaid : Prop := fnFSETableSpecRFCRow.holds Trym.pinned (OpenSpec.ofChange fnFSETableSpecRFCSpec)

/-- ITS FALSE NEIGHBOUR: 'it returns false'. Refute it at one input. -/
def fnFSETableSpecRFCWrong : ChangeSpec := { name := "fnFSETableSpecRFC", fn := fun _ => fun
  | [d1, d2] => { results := [.lit (.bool false)], args := [d1, d2] }
  | _ => none }
def FnFSETableSpecRFCWrongFalsely : Prop := fnFSETableSpecRFCRow.holds Trym.pinned (OpenSpec.ofChange fnFSETableSpecRFCWrong)

/-- 'zzlaws_zstdenc_b1.FnFSETableZeroCountAddsNoState': WHATEVER THE INPUT: true; the input reads as it did. -/
def fnFSETableZeroCountAddsNoStateSpec : ChangeSpec := { name := "fnFSETableZeroCountAddsNoState", fn := fun _ => fun
  | [d1, d2, d3] => { results := [.lit (.bool true)], args := [d1, d2, d3] }
  | _ => none }
def fnFSETableZeroCountAddsNoStateRow : OpenClaim := { program := "qxb6601950amods", sum := "754851519421d96143876fc2e56f6d8876cd1990dd524211dd1464591a6c104b", func := "example.com/stratadiff/stratadiff/zzlaws_zstdenc_b1.FnFSETableZeroCountAddsNoState", spec := "fnFSETableZeroCountAddsNoState", make := .lifted ["publicsums"], apart := false }
def FnFSETableZeroCountAddsNoStateSaid : Prop := fnFSETableZeroCountAddsNoStateRow.holds Trym.pinned (OpenSpec.ofChange fnFSETableZeroCountAddsNoStateSpec)

/-- ITS FALSE NEIGHBOUR: 'it returns false'. Refute it at one input. -/
def fnFSETableZeroCountAddsNoStateWrong : ChangeSpec := { name := "fnFSETableZeroCountAddsNoState", fn := fun _ => fun
  | [d1, d2, d3] => { results := [.lit (.bool false)], args := [d1, d2, d3] }
  | _ => none }
def FnFSETableZeroCountAddsNoStateWrongFalsely : Prop := fnFSETableZeroCountAddsNoStateRow.holds Trym.pinned (OpenSpec.ofChange fnFSETableZeroCountAddsNoStateWrong)

end Rows
end Go.Proofs.Qxb6601950aMods
