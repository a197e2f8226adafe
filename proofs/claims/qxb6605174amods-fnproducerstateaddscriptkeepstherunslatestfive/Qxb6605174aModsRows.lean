/-
  No cell of these rows narrows 'for every input' (looked for: loops, veiled, ifaces, maps, wideKeys, modest, calm, conditions, laid).
  DERIVED. THE GIVEN ROWS OF THIS SEAT. 4 by the template 'for every input the law returns true; each argument reads behind the call as it read before'; 0 by the template 'total and deterministic' (their statements: Qxb6605174aModsTotals.lean).
  GIVEN WITH THE SEED: the statements are not yours to turn. If you find one false, say at which input.
  Laid BY PROGRAM, IN A SANDBOX (cutbox-rows.mjs): the forced cells as the released guide's own fill.sh prints them over the translation 37dd0a6cb565ca0c… (all of the seat's roots in one cut). By AI agents, Wed Nov 11 2026. No macro, syntax, notation, axiom, sorry.
-/
import Derived.Test.Qxb6605174aModsChecked
import GoSem.Claim
import GoSem.ClaimJoined
import GoSem.ClaimMapViews
import Derived.JoinedTies
import Derived.KernelRfl
namespace Go.Proofs.Qxb6605174aMods
/- THE CELL 'sum', in the pinned program and in every row, IS THE sha256 OF THE DUMP (.gsa) THAT Qxb6605174aModsProg.lean LOADS. Nothing in Lean hashes anything: it is a label: what it is worth is what the hold of that sum in a sandbox is worth. -/
noncomputable def Trym.pinned : Pinned := { name := "qxb6605174amods", sum := "37dd0a6cb565ca0c1cf43ca4ec3ba03d6ea23de704a8b3c071997e65e86cbf57", checked := Trym.checked }
namespace Rows
def none {H : Type} : Left H := { results := [], args := [] }

/-- 'zzlaws_pkg_storage_b1.FnParseElementReadsBackAnEncodedLiteral': WHATEVER THE INPUT: true; the input reads as it did. -/
def fnParseElementReadsBackAnEncodedLiteralSpec : ChangeSpec := { name := "fnParseElementReadsBackAnEncodedLiteral", fn := fun _ => fun
  | [d1, d2] => { results := [.lit (.bool true)], args := [d1, d2] }
  | _ => none }
def fnParseElementReadsBackAnEncodedLiteralRow : OpenClaim := { program := "qxb6605174amods", sum := "37dd0a6cb565ca0c1cf43ca4ec3ba03d6ea23de704a8b3c071997e65e86cbf57", func := "example.com/oncelog/oncelog/zzlaws_pkg_storage_b1.FnParseElementReadsBackAnEncodedLiteral", spec := "fnParseElementReadsBackAnEncodedLiteral", make := .lifted ["publicsums"], apart := false }
def FnParseElementReadsBackAnEncodedLiteralSaid : Prop := fnParseElementReadsBackAnEncodedLiteralRow.holds Trym.pinned (OpenSpec.ofChange fnParseElementReadsBackAnEncodedLiteralSpec)

/-- ITS FALSE NEIGHBOUR: 'it returns false'. Refute it at one input. -/
def fnParseElementReadsBackAnEncodedLiteralWrong : ChangeSpec := { name := "fnParseElementReadsBackAnEncodedLiteral", fn := fun _ => fun
  | [d1, d2] => { results := [.lit (.bool false)], args := [d1, d2] }
  | _ => none }
def FnParseElementReadsBackAnEncodedLiteralWrongFalsely : Prop := fnParseElementReadsBackAnEncodedLiteralRow.holds Trym.pinned (OpenSpec.ofChange fnParseElementReadsBackAnEncodedLiteralWrong)

/-- 'zzlaws_pkg_storage_b1.FnParseElementReadsBackAnEncodedCopy': WHATEVER THE INPUT: true; the input reads as it did. -/
def fnParseElementReadsBackAnEncodedCopySpec : ChangeSpec := { name := "fnParseElementReadsBackAnEncodedCopy", fn := fun _ => fun
  | [d1, d2, d3] => { results := [.lit (.bool true)], args := [d1, d2, d3] }
  | _ => none }
def fnParseElementReadsBackAnEncodedCopyRow : OpenClaim := { program := "qxb6605174amods", sum := "37dd0a6cb565ca0c1cf43ca4ec3ba03d6ea23de704a8b3c071997e65e86cbf57", func := "example.com/oncelog/oncelog/zzlaws_pkg_storage_b1.FnParseElementReadsBackAnEncodedCopy", spec := "fnParseElementReadsBackAnEncodedCopy", make := .lifted ["publicsums"], apart := false }
def FnParseElementReadsBackAnEncodedCopySaid : Prop := fnParseElementReadsBackAnEncodedCopyRow.holds Trym.pinned (OpenSpec.ofChange fnParseElementReadsBackAnEncodedCopySpec)

/-- ITS FALSE NEIGHBOUR: 'it returns false'. Refute it at one input. -/
def fnParseElementReadsBackAnEncodedCopyWrong : ChangeSpec := { name := "fnParseElementReadsBackAnEncodedCopy", fn := fun _ => fun
  | [d1, d2, d3] => { results := [.lit (.bool false)], args := [d1, d2, d3] }
  | _ => none }
def FnParseElementReadsBackAnEncodedCopyWrongFalsely : Prop := fnParseElementReadsBackAnEncodedCopyRow.holds Trym.pinned (OpenSpec.ofChange fnParseElementReadsBackAnEncodedCopyWrong)

/-- 'zzlaws_pkg_storage_b1.FnProducerStateAddKeepsTheLatestFiveOfTheEpoch': WHATEVER THE INPUT: true; the input reads as it did. -/
def fnProducerStateAddKeepsTheLatestFiveOfTheEpochSpec : ChangeSpec := { name := "fnProducerStateAddKeepsTheLatestFiveOfTheEpoch", fn := fun _ => fun
  | [d1, d2, d3, d4, d5, d6, d7, d8, d9, d10, d11] => { results := [.lit (.bool true)], args := [d1, d2, d3, d4, d5, d6, d7, d8, d9, d10, d11] }
  | _ => none }
def fnProducerStateAddKeepsTheLatestFiveOfTheEpochRow : OpenClaim := { program := "qxb6605174amods", sum := "37dd0a6cb565ca0c1cf43ca4ec3ba03d6ea23de704a8b3c071997e65e86cbf57", func := "example.com/oncelog/oncelog/zzlaws_pkg_storage_b1.FnProducerStateAddKeepsTheLatestFiveOfTheEpoch", spec := "fnProducerStateAddKeepsTheLatestFiveOfTheEpoch", make := .lifted ["publicsums"], apart := false }
def FnProducerStateAddKeepsTheLatestFiveOfTheEpochSaid : Prop := fnProducerStateAddKeepsTheLatestFiveOfTheEpochRow.holds Trym.pinned (OpenSpec.ofChange fnProducerStateAddKeepsTheLatestFiveOfTheEpochSpec)

/-- ITS FALSE NEIGHBOUR: 'it returns false'. Refute it at one input. -/
def fnProducerStateAddKeepsTheLatestFiveOfTheEpochWrong : ChangeSpec := { name := "fnProducerStateAddKeepsTheLatestFiveOfTheEpoch", fn := fun _ => fun
  | [d1, d2, d3, d4, d5, d6, d7, d8, d9, d10, d11] => { results := [.lit (.bool false)], args := [d1, d2, d3, d4, d5, d6, d7, d8, d9, d10, d11] }
  | _ => none }
def FnProducerStateAddKeepsTheLatestFiveOfTheEpochWrongFalsely : Prop := fnProducerStateAddKeepsTheLatestFiveOfTheEpochRow.holds Trym.pinned (OpenSpec.ofChange fnProducerStateAddKeepsTheLatestFiveOfTheEpochWrong)

/-- 'zzlaws_pkg_storage_b1.FnProducerStateAddScriptKeepsTheRunsLatestFive': WHATEVER THE INPUT: true; the input reads as it did. -/
def fnProducerStateAddScriptKeepsTheRunsLatestFiveSpec : ChangeSpec := { name := "fnProducerStateAddScriptKeepsTheRunsLatestFive", fn := fun _ => fun
  | [d1, d2, d3, d4, d5] => { results := [.lit (.bool true)], args := [d1, d2, d3, d4, d5] }
  | _ => none }
def fnProducerStateAddScriptKeepsTheRunsLatestFiveRow : OpenClaim := { program := "qxb6605174amods", sum := "37dd0a6cb565ca0c1cf43ca4ec3ba03d6ea23de704a8b3c071997e65e86cbf57", func := "example.com/oncelog/oncelog/zzlaws_pkg_storage_b1.FnProducerStateAddScriptKeepsTheRunsLatestFive", spec := "fnProducerStateAddScriptKeepsTheRunsLatestFive", make := .lifted ["publicsums"], apart := false }
def FnProducerStateAddScriptKeepsTheRunsLatestFiveSaid : Prop := fnProducerStateAddScriptKeepsTheRunsLatestFiveRow.holds Trym.pinned (OpenSpec.ofChange fnProducerStateAddScriptKeepsTheRunsLatestFiveSpec)

/-- ITS FALSE NEIGHBOUR: 'it returns false'. Refute it at one input. -/
def fnProducerStateAddScriptKeepsTheRunsLatestFiveWrong : ChangeSpec := { name := "fnProducerStateAddScriptKeepsTheRunsLatestFive", fn := fun _ => fun
  | [d1, d2, d3, d4, d5] => { results := [.lit (.bool false)], args := [d1, d2, d3, d4, d5] }
  | _ => none }
def FnProducerStateAddScriptKeepsTheRunsLatestFiveWrongFalsely : Prop := fnProducerStateAddScriptKeepsTheRunsLatestFiveRow.holds Trym.pinned (OpenSpec.ofChange fnProducerStateAddScriptKeepsTheRunsLatestFiveWrong)

end Rows
end Go.Proofs.Qxb6605174aMods
