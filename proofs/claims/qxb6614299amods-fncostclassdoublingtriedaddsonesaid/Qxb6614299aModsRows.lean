/-
  No cell of these rows narrows 'for every input' (looked for: loops, veiled, ifaces, maps, wideKeys, modest, calm, conditions, laid).
  DERIVED. THE GIVEN ROWS OF THIS SEAT. 4 by the template 'for every input the law returns true; each argument reads behind the call as it read before'; 0 by the template 'total and deterministic' (their statements: Qxb6614299aModsTotals.lean).
  GIVEN WITH THE SEED: the statements are not yours to turn. If you find one false, say at which input.
  Laid BY PROGRAM, IN A SANDBOX (cutbox-rows.mjs): the forced cells as the released guide's own fill.sh prints them over the translation a5cb65c0687b23f4… (all of the seat's roots in one cut). By AI agents, Wed Nov 11 2026. No macro, syntax, notation, axiom, sorry.
-/
import Derived.Test.Qxb6614299aModsChecked
import GoSem.Claim
import GoSem.ClaimJoined
import GoSem.ClaimMapViews
import Derived.JoinedTies
import Derived.KernelRfl
namespace Go.Proofs.Qxb6614299aMods
/- THE CELL 'sum', in the pinned program and in every row, IS THE sha256 OF THE DUMP (.gsa) THAT Qxb6614299aModsProg.lean LOADS. Nothing in Lean hashes anything: it is a label: what it is worth is what the hold of that sum in a sandbox is worth. -/
noncomputable def Trym.pinned : Pinned := { name := "qxb6614299amods", sum := "a5cb65c0687b23f4df2a845d41b42478d5ed31563abf4a190943db64848346b4", checked := Trym.checked }
namespace Rows
def none {H : Type} : Left H := { results := [], args := [] }

/-- 'zzlaws_root_b1.FnCostClassDoublingTriedAddsOne': WHATEVER THE INPUT: true; the input reads as it did. -/
def fnCostClassDoublingTriedAddsOneSpec : ChangeSpec := { name := "fnCostClassDoublingTriedAddsOne", fn := fun _ => fun
  | [d1, d2, d3] => { results := [.lit (.bool true)], args := [d1, d2, d3] }
  | _ => none }
def fnCostClassDoublingTriedAddsOneRow : OpenClaim := { program := "qxb6614299amods", sum := "a5cb65c0687b23f4df2a845d41b42478d5ed31563abf4a190943db64848346b4", func := "example.com/palisade/palisade/zzlaws_root_b1.FnCostClassDoublingTriedAddsOne", spec := "fnCostClassDoublingTriedAddsOne", make := .lifted ["publicsums"], apart := false }
def FnCostClassDoublingTriedAddsOneSaid : Prop := fnCostClassDoublingTriedAddsOneRow.holds Trym.pinned (OpenSpec.ofChange fnCostClassDoublingTriedAddsOneSpec)

/-- ITS FALSE NEIGHBOUR: 'it returns false'. Refute it at one input. -/
def fnCostClassDoublingTriedAddsOneWrong : ChangeSpec := { name := "fnCostClassDoublingTriedAddsOne", fn := fun _ => fun
  | [d1, d2, d3] => { results := [.lit (.bool false)], args := [d1, d2, d3] }
  | _ => none }
def FnCostClassDoublingTriedAddsOneWrongFalsely : Prop := fnCostClassDoublingTriedAddsOneRow.holds Trym.pinned (OpenSpec.ofChange fnCostClassDoublingTriedAddsOneWrong)

/-- 'zzlaws_root_b1.FnCostClassMoreFoundLowersClass': WHATEVER THE INPUT: true; the input reads as it did. -/
def fnCostClassMoreFoundLowersClassSpec : ChangeSpec := { name := "fnCostClassMoreFoundLowersClass", fn := fun _ => fun
  | [d1, d2, d3] => { results := [.lit (.bool true)], args := [d1, d2, d3] }
  | _ => none }
def fnCostClassMoreFoundLowersClassRow : OpenClaim := { program := "qxb6614299amods", sum := "a5cb65c0687b23f4df2a845d41b42478d5ed31563abf4a190943db64848346b4", func := "example.com/palisade/palisade/zzlaws_root_b1.FnCostClassMoreFoundLowersClass", spec := "fnCostClassMoreFoundLowersClass", make := .lifted ["publicsums"], apart := false }
def FnCostClassMoreFoundLowersClassSaid : Prop := fnCostClassMoreFoundLowersClassRow.holds Trym.pinned (OpenSpec.ofChange fnCostClassMoreFoundLowersClassSpec)

/-- ITS FALSE NEIGHBOUR: 'it returns false'. Refute it at one input. -/
def fnCostClassMoreFoundLowersClassWrong : ChangeSpec := { name := "fnCostClassMoreFoundLowersClass", fn := fun _ => fun
  | [d1, d2, d3] => { results := [.lit (.bool false)], args := [d1, d2, d3] }
  | _ => none }
def FnCostClassMoreFoundLowersClassWrongFalsely : Prop := fnCostClassMoreFoundLowersClassRow.holds Trym.pinned (OpenSpec.ofChange fnCostClassMoreFoundLowersClassWrong)

/-- 'zzlaws_root_b1.FnNullLeavesListsKeepTheirShape': WHATEVER THE INPUT: true; the input reads as it did. -/
def fnNullLeavesListsKeepTheirShapeSpec : ChangeSpec := { name := "fnNullLeavesListsKeepTheirShape", fn := fun _ => fun
  | [d] => { results := [.lit (.bool true)], args := [d] }
  | _ => none }
def fnNullLeavesListsKeepTheirShapeRow : OpenClaim := { program := "qxb6614299amods", sum := "a5cb65c0687b23f4df2a845d41b42478d5ed31563abf4a190943db64848346b4", func := "example.com/palisade/palisade/zzlaws_root_b1.FnNullLeavesListsKeepTheirShape", spec := "fnNullLeavesListsKeepTheirShape", recurses := true, make := .lifted ["publicsums"], apart := false }
def FnNullLeavesListsKeepTheirShapeSaid : Prop := fnNullLeavesListsKeepTheirShapeRow.holds Trym.pinned (OpenSpec.ofChange fnNullLeavesListsKeepTheirShapeSpec)

/-- ITS FALSE NEIGHBOUR: 'it returns false'. Refute it at one input. -/
def fnNullLeavesListsKeepTheirShapeWrong : ChangeSpec := { name := "fnNullLeavesListsKeepTheirShape", fn := fun _ => fun
  | [d] => { results := [.lit (.bool false)], args := [d] }
  | _ => none }
def FnNullLeavesListsKeepTheirShapeWrongFalsely : Prop := fnNullLeavesListsKeepTheirShapeRow.holds Trym.pinned (OpenSpec.ofChange fnNullLeavesListsKeepTheirShapeWrong)

/-- 'zzlaws_root_b1.FnNullLeavesObjectKeepsKeys': WHATEVER THE INPUT: true; the input reads as it did. -/
def fnNullLeavesObjectKeepsKeysSpec : ChangeSpec := { name := "fnNullLeavesObjectKeepsKeys", fn := fun _ => fun
  | [d1, d2, d3] => { results := [.lit (.bool true)], args := [d1, d2, d3] }
  | _ => none }
def fnNullLeavesObjectKeepsKeysRow : OpenClaim := { program := "qxb6614299amods", sum := "a5cb65c0687b23f4df2a845d41b42478d5ed31563abf4a190943db64848346b4", func := "example.com/palisade/palisade/zzlaws_root_b1.FnNullLeavesObjectKeepsKeys", spec := "fnNullLeavesObjectKeepsKeys", recurses := true, make := .lifted ["publicsums"], apart := false }
def FnNullLeavesObjectKeepsKeysSaid : Prop := fnNullLeavesObjectKeepsKeysRow.holds Trym.pinned (OpenSpec.ofChange fnNullLeavesObjectKeepsKeysSpec)

/-- ITS FALSE NEIGHBOUR: 'it returns false'. Refute it at one input. -/
def fnNullLeavesObjectKeepsKeysWrong : ChangeSpec := { name := "fnNullLeavesObjectKeepsKeys", fn := fun _ => fun
  | [d1, d2, d3] => { results := [.lit (.bool false)], args := [d1, d2, d3] }
  | _ => none }
def FnNullLeavesObjectKeepsKeysWrongFalsely : Prop := fnNullLeavesObjectKeepsKeysRow.holds Trym.pinned (OpenSpec.ofChange fnNullLeavesObjectKeepsKeysWrong)

end Rows
end Go.Proofs.Qxb6614299aMods
