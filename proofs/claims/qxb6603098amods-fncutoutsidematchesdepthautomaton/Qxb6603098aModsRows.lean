/-
  No cell of these rows narrows 'for every input' (looked for: loops, veiled, ifaces, maps, wideKeys, modest, calm, conditions, laid).
  DERIVED. THE GIVEN ROWS OF THIS SEAT. 4 by the template 'for every input the law returns true; each argument reads behind the call as it read before'; 0 by the template 'total and deterministic' (their statements: Qxb6603098aModsTotals.lean).
  GIVEN WITH THE SEED: the statements are not yours to turn. If you find one false, say at which input.
  Laid BY PROGRAM, IN A SANDBOX (cutbox-rows.mjs): the forced cells as the released guide's own fill.sh prints them over the translation 2ecd488d043d416b… (all of the seat's roots in one cut). By AI agents, Wed Nov 11 2026. No macro, syntax, notation, axiom, sorry.
-/
import Derived.Test.Qxb6603098aModsChecked
import GoSem.Claim
import GoSem.ClaimJoined
import GoSem.ClaimMapViews
import Derived.JoinedTies
import Derived.KernelRfl
namespace Go.Proofs.Qxb6603098aMods
/- THE CELL 'sum', in the pinned program and in every row, IS THE sha256 OF THE DUMP (.gsa) THAT Qxb6603098aModsProg.lean LOADS. Nothing in Lean hashes anything: it is a label: what it is worth is what the hold of that sum in a sandbox is worth. -/
noncomputable def Trym.pinned : Pinned := { name := "qxb6603098amods", sum := "2ecd488d043d416bbcc5e7cf605765bfc2a8954efc608835386127513003b98f", checked := Trym.checked }
namespace Rows
def none {H : Type} : Left H := { results := [], args := [] }

/-- 'zzlaws_kustomize_b1.FnClosingBraceMatchesPrefixCounts': WHATEVER THE INPUT: true; the input reads as it did. -/
def fnClosingBraceMatchesPrefixCountsSpec : ChangeSpec := { name := "fnClosingBraceMatchesPrefixCounts", fn := fun _ => fun
  | [d] => { results := [.lit (.bool true)], args := [d] }
  | _ => none }
def fnClosingBraceMatchesPrefixCountsRow : OpenClaim := { program := "qxb6603098amods", sum := "2ecd488d043d416bbcc5e7cf605765bfc2a8954efc608835386127513003b98f", func := "example.com/moorline/moorline/zzlaws_kustomize_b1.FnClosingBraceMatchesPrefixCounts", spec := "fnClosingBraceMatchesPrefixCounts", make := .lifted ["publicsums"], apart := false }
def FnClosingBraceMatchesPrefixCountsSaid : Prop := fnClosingBraceMatchesPrefixCountsRow.holds Trym.pinned (OpenSpec.ofChange fnClosingBraceMatchesPrefixCountsSpec)

/-- ITS FALSE NEIGHBOUR: 'it returns false'. Refute it at one input. -/
def fnClosingBraceMatchesPrefixCountsWrong : ChangeSpec := { name := "fnClosingBraceMatchesPrefixCounts", fn := fun _ => fun
  | [d] => { results := [.lit (.bool false)], args := [d] }
  | _ => none }
def FnClosingBraceMatchesPrefixCountsWrongFalsely : Prop := fnClosingBraceMatchesPrefixCountsRow.holds Trym.pinned (OpenSpec.ofChange fnClosingBraceMatchesPrefixCountsWrong)

/-- 'zzlaws_kustomize_b1.FnClosingBraceDecidedByPrefix': WHATEVER THE INPUT: true; the input reads as it did. -/
def fnClosingBraceDecidedByPrefixSpec : ChangeSpec := { name := "fnClosingBraceDecidedByPrefix", fn := fun _ => fun
  | [d1, d2] => { results := [.lit (.bool true)], args := [d1, d2] }
  | _ => none }
def fnClosingBraceDecidedByPrefixRow : OpenClaim := { program := "qxb6603098amods", sum := "2ecd488d043d416bbcc5e7cf605765bfc2a8954efc608835386127513003b98f", func := "example.com/moorline/moorline/zzlaws_kustomize_b1.FnClosingBraceDecidedByPrefix", spec := "fnClosingBraceDecidedByPrefix", make := .lifted ["publicsums"], apart := false }
def FnClosingBraceDecidedByPrefixSaid : Prop := fnClosingBraceDecidedByPrefixRow.holds Trym.pinned (OpenSpec.ofChange fnClosingBraceDecidedByPrefixSpec)

/-- ITS FALSE NEIGHBOUR: 'it returns false'. Refute it at one input. -/
def fnClosingBraceDecidedByPrefixWrong : ChangeSpec := { name := "fnClosingBraceDecidedByPrefix", fn := fun _ => fun
  | [d1, d2] => { results := [.lit (.bool false)], args := [d1, d2] }
  | _ => none }
def FnClosingBraceDecidedByPrefixWrongFalsely : Prop := fnClosingBraceDecidedByPrefixRow.holds Trym.pinned (OpenSpec.ofChange fnClosingBraceDecidedByPrefixWrong)

/-- 'zzlaws_kustomize_b1.FnCutOutsideMatchesDepthAutomaton': WHATEVER THE INPUT: true; the input reads as it did. -/
def fnCutOutsideMatchesDepthAutomatonSpec : ChangeSpec := { name := "fnCutOutsideMatchesDepthAutomaton", fn := fun _ => fun
  | [d1, d2] => { results := [.lit (.bool true)], args := [d1, d2] }
  | _ => none }
def fnCutOutsideMatchesDepthAutomatonRow : OpenClaim := { program := "qxb6603098amods", sum := "2ecd488d043d416bbcc5e7cf605765bfc2a8954efc608835386127513003b98f", func := "example.com/moorline/moorline/zzlaws_kustomize_b1.FnCutOutsideMatchesDepthAutomaton", spec := "fnCutOutsideMatchesDepthAutomaton", make := .lifted ["publicsums"], apart := false }
def FnCutOutsideMatchesDepthAutomatonSaid : Prop := fnCutOutsideMatchesDepthAutomatonRow.holds Trym.pinned (OpenSpec.ofChange fnCutOutsideMatchesDepthAutomatonSpec)

/-- ITS FALSE NEIGHBOUR: 'it returns false'. Refute it at one input. -/
def fnCutOutsideMatchesDepthAutomatonWrong : ChangeSpec := { name := "fnCutOutsideMatchesDepthAutomaton", fn := fun _ => fun
  | [d1, d2] => { results := [.lit (.bool false)], args := [d1, d2] }
  | _ => none }
def FnCutOutsideMatchesDepthAutomatonWrongFalsely : Prop := fnCutOutsideMatchesDepthAutomatonRow.holds Trym.pinned (OpenSpec.ofChange fnCutOutsideMatchesDepthAutomatonWrong)

/-- 'zzlaws_kustomize_b1.FnCutOutsideRoundTrip': WHATEVER THE INPUT: true; the input reads as it did. -/
def fnCutOutsideRoundTripSpec : ChangeSpec := { name := "fnCutOutsideRoundTrip", fn := fun _ => fun
  | [d1, d2, d3] => { results := [.lit (.bool true)], args := [d1, d2, d3] }
  | _ => none }
def fnCutOutsideRoundTripRow : OpenClaim := { program := "qxb6603098amods", sum := "2ecd488d043d416bbcc5e7cf605765bfc2a8954efc608835386127513003b98f", func := "example.com/moorline/moorline/zzlaws_kustomize_b1.FnCutOutsideRoundTrip", spec := "fnCutOutsideRoundTrip", make := .lifted ["publicsums"], apart := false }
def FnCutOutsideRoundTripSaid : Prop := fnCutOutsideRoundTripRow.holds Trym.pinned (OpenSpec.ofChange fnCutOutsideRoundTripSpec)

/-- ITS FALSE NEIGHBOUR: 'it returns false'. Refute it at one input. -/
def fnCutOutsideRoundTripWrong : ChangeSpec := { name := "fnCutOutsideRoundTrip", fn := fun _ => fun
  | [d1, d2, d3] => { results := [.lit (.bool false)], args := [d1, d2, d3] }
  | _ => none }
def FnCutOutsideRoundTripWrongFalsely : Prop := fnCutOutsideRoundTripRow.holds Trym.pinned (OpenSpec.ofChange fnCutOutsideRoundTripWrong)

end Rows
end Go.Proofs.Qxb6603098aMods
