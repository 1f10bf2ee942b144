/-
  No cell of these rows narrows 'for every input' (looked for: loops, veiled, ifaces, maps, wideKeys, modest, calm, conditions, laid).
  DERIVED. THE GIVEN ROWS OF THIS SEAT. 7 by the template 'for every input the law returns true; each argument reads behind the call as it read before'; 0 by the template 'total and deterministic' (their statements: Qxb6000440aModsTotals.lean).
  GIVEN WITH THE SEED: the statements are not yours to turn. If you find one false, say at which input.
  Laid BY PROGRAM, IN A SANDBOX (cutbox-rows.mjs): the forced cells as the released guide's own fill.sh prints them over the translation ed0f8b216ac59da1… (all of the seat's roots in one cut). By AI agents, Wed Nov 11 2026. No macro, syntax, notation, axiom, sorry.
-/
import Derived.Test.Qxb6000440aModsChecked
import GoSem.Claim
import GoSem.ClaimJoined
import GoSem.ClaimMapViews
import Derived.JoinedTies
import Derived.KernelRfl
namespace Go.Proofs.Qxb6000440aMods
/- THE CELL 'sum', in the pinned program and in every row, IS THE sha256 OF THE DUMP (.gsa) THAT Qxb6000440aModsProg.lean LOADS. Nothing in Lean hashes anything: it is a label: what it is worth is what the hold of that sum in a sandbox is worth. -/
noncomputable def Trym.pinned : Pinned := { name := "qxb6000440amods", sum := "ed0f8b216ac59da1b4377d5a4b0e271d7f541ce8875d078cf39496cd78bfa78f", checked := Trym.checked }
namespace Rows
def none {H : Type} : Left H := { results := [], args := [] }

/-- 'zzlaws_internal_lb_b1.FnSuccessorRefusesExactlyTheLargest': WHATEVER THE INPUT: true; the input reads as it did. -/
def fnSuccessorRefusesExactlyTheLargestSpec : ChangeSpec := { name := "fnSuccessorRefusesExactlyTheLargest", fn := fun _ => fun
  | [d] => { results := [.lit (.bool true)], args := [d] }
  | _ => none }
def fnSuccessorRefusesExactlyTheLargestRow : OpenClaim := { program := "qxb6000440amods", sum := "ed0f8b216ac59da1b4377d5a4b0e271d7f541ce8875d078cf39496cd78bfa78f", func := "example.com/tidegate/tidegate/zzlaws_internal_lb_b1.FnSuccessorRefusesExactlyTheLargest", spec := "fnSuccessorRefusesExactlyTheLargest", make := .lifted ["publicsums"], apart := false }
def FnSuccessorRefusesExactlyTheLargestSaid : Prop := fnSuccessorRefusesExactlyTheLargestRow.holds Trym.pinned (OpenSpec.ofChange fnSuccessorRefusesExactlyTheLargestSpec)

/-- ITS FALSE NEIGHBOUR: 'it returns false'. Refute it at one input. -/
def fnSuccessorRefusesExactlyTheLargestWrong : ChangeSpec := { name := "fnSuccessorRefusesExactlyTheLargest", fn := fun _ => fun
  | [d] => { results := [.lit (.bool false)], args := [d] }
  | _ => none }
def FnSuccessorRefusesExactlyTheLargestWrongFalsely : Prop := fnSuccessorRefusesExactlyTheLargestRow.holds Trym.pinned (OpenSpec.ofChange fnSuccessorRefusesExactlyTheLargestWrong)

/-- 'zzlaws_internal_lb_b1.FnSuccessorIsTheNextValue': WHATEVER THE INPUT: true; the input reads as it did. -/
def fnSuccessorIsTheNextValueSpec : ChangeSpec := { name := "fnSuccessorIsTheNextValue", fn := fun _ => fun
  | [d1, d2] => { results := [.lit (.bool true)], args := [d1, d2] }
  | _ => none }
def fnSuccessorIsTheNextValueRow : OpenClaim := { program := "qxb6000440amods", sum := "ed0f8b216ac59da1b4377d5a4b0e271d7f541ce8875d078cf39496cd78bfa78f", func := "example.com/tidegate/tidegate/zzlaws_internal_lb_b1.FnSuccessorIsTheNextValue", spec := "fnSuccessorIsTheNextValue", make := .lifted ["publicsums"], apart := false }
def FnSuccessorIsTheNextValueSaid : Prop := fnSuccessorIsTheNextValueRow.holds Trym.pinned (OpenSpec.ofChange fnSuccessorIsTheNextValueSpec)

/-- ITS FALSE NEIGHBOUR: 'it returns false'. Refute it at one input. -/
def fnSuccessorIsTheNextValueWrong : ChangeSpec := { name := "fnSuccessorIsTheNextValue", fn := fun _ => fun
  | [d1, d2] => { results := [.lit (.bool false)], args := [d1, d2] }
  | _ => none }
def FnSuccessorIsTheNextValueWrongFalsely : Prop := fnSuccessorIsTheNextValueRow.holds Trym.pinned (OpenSpec.ofChange fnSuccessorIsTheNextValueWrong)

/-- 'zzlaws_internal_lb_b1.FnPredecessorIsThePreviousValue': WHATEVER THE INPUT: true; the input reads as it did. -/
def fnPredecessorIsThePreviousValueSpec : ChangeSpec := { name := "fnPredecessorIsThePreviousValue", fn := fun _ => fun
  | [d1, d2] => { results := [.lit (.bool true)], args := [d1, d2] }
  | _ => none }
def fnPredecessorIsThePreviousValueRow : OpenClaim := { program := "qxb6000440amods", sum := "ed0f8b216ac59da1b4377d5a4b0e271d7f541ce8875d078cf39496cd78bfa78f", func := "example.com/tidegate/tidegate/zzlaws_internal_lb_b1.FnPredecessorIsThePreviousValue", spec := "fnPredecessorIsThePreviousValue", make := .lifted ["publicsums"], apart := false }
def FnPredecessorIsThePreviousValueSaid : Prop := fnPredecessorIsThePreviousValueRow.holds Trym.pinned (OpenSpec.ofChange fnPredecessorIsThePreviousValueSpec)

/-- ITS FALSE NEIGHBOUR: 'it returns false'. Refute it at one input. -/
def fnPredecessorIsThePreviousValueWrong : ChangeSpec := { name := "fnPredecessorIsThePreviousValue", fn := fun _ => fun
  | [d1, d2] => { results := [.lit (.bool false)], args := [d1, d2] }
  | _ => none }
def FnPredecessorIsThePreviousValueWrongFalsely : Prop := fnPredecessorIsThePreviousValueRow.holds Trym.pinned (OpenSpec.ofChange fnPredecessorIsThePreviousValueWrong)

/-- 'zzlaws_internal_lb_b1.FnSuccessorPredecessorRoundTrip': WHATEVER THE INPUT: true; the input reads as it did. -/
def fnSuccessorPredecessorRoundTripSpec : ChangeSpec := { name := "fnSuccessorPredecessorRoundTrip", fn := fun _ => fun
  | [d] => { results := [.lit (.bool true)], args := [d] }
  | _ => none }
def fnSuccessorPredecessorRoundTripRow : OpenClaim := { program := "qxb6000440amods", sum := "ed0f8b216ac59da1b4377d5a4b0e271d7f541ce8875d078cf39496cd78bfa78f", func := "example.com/tidegate/tidegate/zzlaws_internal_lb_b1.FnSuccessorPredecessorRoundTrip", spec := "fnSuccessorPredecessorRoundTrip", make := .lifted ["publicsums"], apart := false }
def FnSuccessorPredecessorRoundTripSaid : Prop := fnSuccessorPredecessorRoundTripRow.holds Trym.pinned (OpenSpec.ofChange fnSuccessorPredecessorRoundTripSpec)

/-- ITS FALSE NEIGHBOUR: 'it returns false'. Refute it at one input. -/
def fnSuccessorPredecessorRoundTripWrong : ChangeSpec := { name := "fnSuccessorPredecessorRoundTrip", fn := fun _ => fun
  | [d] => { results := [.lit (.bool false)], args := [d] }
  | _ => none }
def FnSuccessorPredecessorRoundTripWrongFalsely : Prop := fnSuccessorPredecessorRoundTripRow.holds Trym.pinned (OpenSpec.ofChange fnSuccessorPredecessorRoundTripWrong)

/-- 'zzlaws_internal_lb_b1.FnFieldsAtBracketsTheMask': WHATEVER THE INPUT: true; the input reads as it did. -/
def fnFieldsAtBracketsTheMaskSpec : ChangeSpec := { name := "fnFieldsAtBracketsTheMask", fn := fun _ => fun
  | [d1, d2] => { results := [.lit (.bool true)], args := [d1, d2] }
  | _ => none }
def fnFieldsAtBracketsTheMaskRow : OpenClaim := { program := "qxb6000440amods", sum := "ed0f8b216ac59da1b4377d5a4b0e271d7f541ce8875d078cf39496cd78bfa78f", func := "example.com/tidegate/tidegate/zzlaws_internal_lb_b1.FnFieldsAtBracketsTheMask", spec := "fnFieldsAtBracketsTheMask", make := .lifted ["publicsums"], apart := false }
def FnFieldsAtBracketsTheMaskSaid : Prop := fnFieldsAtBracketsTheMaskRow.holds Trym.pinned (OpenSpec.ofChange fnFieldsAtBracketsTheMaskSpec)

/-- ITS FALSE NEIGHBOUR: 'it returns false'. Refute it at one input. -/
def fnFieldsAtBracketsTheMaskWrong : ChangeSpec := { name := "fnFieldsAtBracketsTheMask", fn := fun _ => fun
  | [d1, d2] => { results := [.lit (.bool false)], args := [d1, d2] }
  | _ => none }
def FnFieldsAtBracketsTheMaskWrongFalsely : Prop := fnFieldsAtBracketsTheMaskRow.holds Trym.pinned (OpenSpec.ofChange fnFieldsAtBracketsTheMaskWrong)

/-- 'zzlaws_internal_lb_b1.FnFieldsAtIgnoresOrderAndRepeats': WHATEVER THE INPUT: true; the input reads as it did. -/
def fnFieldsAtIgnoresOrderAndRepeatsSpec : ChangeSpec := { name := "fnFieldsAtIgnoresOrderAndRepeats", fn := fun _ => fun
  | [d1, d2] => { results := [.lit (.bool true)], args := [d1, d2] }
  | _ => none }
def fnFieldsAtIgnoresOrderAndRepeatsRow : OpenClaim := { program := "qxb6000440amods", sum := "ed0f8b216ac59da1b4377d5a4b0e271d7f541ce8875d078cf39496cd78bfa78f", func := "example.com/tidegate/tidegate/zzlaws_internal_lb_b1.FnFieldsAtIgnoresOrderAndRepeats", spec := "fnFieldsAtIgnoresOrderAndRepeats", make := .lifted ["publicsums"], apart := false }
def FnFieldsAtIgnoresOrderAndRepeatsSaid : Prop := fnFieldsAtIgnoresOrderAndRepeatsRow.holds Trym.pinned (OpenSpec.ofChange fnFieldsAtIgnoresOrderAndRepeatsSpec)

/-- ITS FALSE NEIGHBOUR: 'it returns false'. Refute it at one input. -/
def fnFieldsAtIgnoresOrderAndRepeatsWrong : ChangeSpec := { name := "fnFieldsAtIgnoresOrderAndRepeats", fn := fun _ => fun
  | [d1, d2] => { results := [.lit (.bool false)], args := [d1, d2] }
  | _ => none }
def FnFieldsAtIgnoresOrderAndRepeatsWrongFalsely : Prop := fnFieldsAtIgnoresOrderAndRepeatsRow.holds Trym.pinned (OpenSpec.ofChange fnFieldsAtIgnoresOrderAndRepeatsWrong)

/-- 'zzlaws_internal_lb_b1.FnFieldsAtIgnoresForeignAndOwnMatches': WHATEVER THE INPUT: true; the input reads as it did. -/
def fnFieldsAtIgnoresForeignAndOwnMatchesSpec : ChangeSpec := { name := "fnFieldsAtIgnoresForeignAndOwnMatches", fn := fun _ => fun
  | [d1, d2, d3] => { results := [.lit (.bool true)], args := [d1, d2, d3] }
  | _ => none }
def fnFieldsAtIgnoresForeignAndOwnMatchesRow : OpenClaim := { program := "qxb6000440amods", sum := "ed0f8b216ac59da1b4377d5a4b0e271d7f541ce8875d078cf39496cd78bfa78f", func := "example.com/tidegate/tidegate/zzlaws_internal_lb_b1.FnFieldsAtIgnoresForeignAndOwnMatches", spec := "fnFieldsAtIgnoresForeignAndOwnMatches", make := .lifted ["publicsums"], apart := false }
def FnFieldsAtIgnoresForeignAndOwnMatchesSaid : Prop := fnFieldsAtIgnoresForeignAndOwnMatchesRow.holds Trym.pinned (OpenSpec.ofChange fnFieldsAtIgnoresForeignAndOwnMatchesSpec)

/-- ITS FALSE NEIGHBOUR: 'it returns false'. Refute it at one input. -/
def fnFieldsAtIgnoresForeignAndOwnMatchesWrong : ChangeSpec := { name := "fnFieldsAtIgnoresForeignAndOwnMatches", fn := fun _ => fun
  | [d1, d2, d3] => { results := [.lit (.bool false)], args := [d1, d2, d3] }
  | _ => none }
def FnFieldsAtIgnoresForeignAndOwnMatchesWrongFalsely : Prop := fnFieldsAtIgnoresForeignAndOwnMatchesRow.holds Trym.pinned (OpenSpec.ofChange fnFieldsAtIgnoresForeignAndOwnMatchesWrong)

end Rows
end Go.Proofs.Qxb6000440aMods
