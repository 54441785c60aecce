/-
  No cell of these rows narrows 'for every input' (looked for: loops, veiled, ifaces, maps, wideKeys, modest, calm, conditions, laid).
  DERIVED. THE GIVEN ROWS OF THIS SEAT. 6 by the template 'for every input the law returns true; each argument reads behind the call as it read before'; 0 by the template 'total and deterministic' (their statements: Qxb6001239aModsTotals.lean).
  GIVEN WITH THE SEED: the statements are not yours to turn. If you find one false, say at which input.
  Laid BY PROGRAM, IN A SANDBOX (cutbox-rows.mjs): the forced cells as the released guide's own fill.sh prints them over the translation 94b6cc8a19fc6e23… (all of the seat's roots in one cut). By AI agents, Wed Nov 11 2026. No macro, syntax, notation, axiom, sorry.
-/
import Derived.Test.Qxb6001239aModsChecked
import GoSem.Claim
import GoSem.ClaimJoined
import GoSem.ClaimMapViews
import Derived.JoinedTies
import Derived.KernelRfl
namespace Go.Proofs.Qxb6001239aMods
/- THE CELL 'sum', in the pinned program and in every row, IS THE sha256 OF THE DUMP (.gsa) THAT Qxb6001239aModsProg.lean LOADS. Nothing in Lean hashes anything: it is a label: what it is worth is what the hold of that sum in a sandbox is worth. -/
noncomputable def Trym.pinned : Pinned := { name := "qxb6001239amods", sum := "94b6cc8a19fc6e234426a36474aca262ed22313ec456244e3ef813d3eaffcaf8", checked := Trym.checked }
namespace Rows
def none {H : Type} : Left H := { results := [], args := [] }

/-- 'zzlaws_devfile_b1.FnEditDistanceSymmetric': WHATEVER THE INPUT: true; the input reads as it did. -/
def fnEditDistanceSymmetricSpec : ChangeSpec := { name := "fnEditDistanceSymmetric", fn := fun _ => fun
  | [d1, d2] => { results := [.lit (.bool true)], args := [d1, d2] }
  | _ => none }
def fnEditDistanceSymmetricRow : OpenClaim := { program := "qxb6001239amods", sum := "94b6cc8a19fc6e234426a36474aca262ed22313ec456244e3ef813d3eaffcaf8", func := "example.com/devloom/devloom/zzlaws_devfile_b1.FnEditDistanceSymmetric", spec := "fnEditDistanceSymmetric", make := .lifted ["publicsums"], apart := false }
def FnEditDistanceSymmetricSaid : Prop := fnEditDistanceSymmetricRow.holds Trym.pinned (OpenSpec.ofChange fnEditDistanceSymmetricSpec)

/-- ITS FALSE NEIGHBOUR: 'it returns false'. Refute it at one input. -/
def fnEditDistanceSymmetricWrong : ChangeSpec := { name := "fnEditDistanceSymmetric", fn := fun _ => fun
  | [d1, d2] => { results := [.lit (.bool false)], args := [d1, d2] }
  | _ => none }
def FnEditDistanceSymmetricWrongFalsely : Prop := fnEditDistanceSymmetricRow.holds Trym.pinned (OpenSpec.ofChange fnEditDistanceSymmetricWrong)

/-- 'zzlaws_devfile_b1.FnEditDistanceBounds': WHATEVER THE INPUT: true; the input reads as it did. -/
def fnEditDistanceBoundsSpec : ChangeSpec := { name := "fnEditDistanceBounds", fn := fun _ => fun
  | [d1, d2] => { results := [.lit (.bool true)], args := [d1, d2] }
  | _ => none }
def fnEditDistanceBoundsRow : OpenClaim := { program := "qxb6001239amods", sum := "94b6cc8a19fc6e234426a36474aca262ed22313ec456244e3ef813d3eaffcaf8", func := "example.com/devloom/devloom/zzlaws_devfile_b1.FnEditDistanceBounds", spec := "fnEditDistanceBounds", make := .lifted ["publicsums"], apart := false }
def FnEditDistanceBoundsSaid : Prop := fnEditDistanceBoundsRow.holds Trym.pinned (OpenSpec.ofChange fnEditDistanceBoundsSpec)

/-- ITS FALSE NEIGHBOUR: 'it returns false'. Refute it at one input. -/
def fnEditDistanceBoundsWrong : ChangeSpec := { name := "fnEditDistanceBounds", fn := fun _ => fun
  | [d1, d2] => { results := [.lit (.bool false)], args := [d1, d2] }
  | _ => none }
def FnEditDistanceBoundsWrongFalsely : Prop := fnEditDistanceBoundsRow.holds Trym.pinned (OpenSpec.ofChange fnEditDistanceBoundsWrong)

/-- 'zzlaws_devfile_b1.FnEditDistanceOneEdit': WHATEVER THE INPUT: true; the input reads as it did. -/
def fnEditDistanceOneEditSpec : ChangeSpec := { name := "fnEditDistanceOneEdit", fn := fun _ => fun
  | [d1, d2, d3] => { results := [.lit (.bool true)], args := [d1, d2, d3] }
  | _ => none }
def fnEditDistanceOneEditRow : OpenClaim := { program := "qxb6001239amods", sum := "94b6cc8a19fc6e234426a36474aca262ed22313ec456244e3ef813d3eaffcaf8", func := "example.com/devloom/devloom/zzlaws_devfile_b1.FnEditDistanceOneEdit", spec := "fnEditDistanceOneEdit", make := .lifted ["publicsums"], apart := false }
def FnEditDistanceOneEditSaid : Prop := fnEditDistanceOneEditRow.holds Trym.pinned (OpenSpec.ofChange fnEditDistanceOneEditSpec)

/-- ITS FALSE NEIGHBOUR: 'it returns false'. Refute it at one input. -/
def fnEditDistanceOneEditWrong : ChangeSpec := { name := "fnEditDistanceOneEdit", fn := fun _ => fun
  | [d1, d2, d3] => { results := [.lit (.bool false)], args := [d1, d2, d3] }
  | _ => none }
def FnEditDistanceOneEditWrongFalsely : Prop := fnEditDistanceOneEditRow.holds Trym.pinned (OpenSpec.ofChange fnEditDistanceOneEditWrong)

/-- 'zzlaws_devfile_b1.FnShortestCycleIsSimpleCycleInSet': WHATEVER THE INPUT: true; the input reads as it did. -/
def fnShortestCycleIsSimpleCycleInSetSpec : ChangeSpec := { name := "fnShortestCycleIsSimpleCycleInSet", fn := fun _ => fun
  | [d1, d2, d3] => { results := [.lit (.bool true)], args := [d1, d2, d3] }
  | _ => none }
def fnShortestCycleIsSimpleCycleInSetRow : OpenClaim := { program := "qxb6001239amods", sum := "94b6cc8a19fc6e234426a36474aca262ed22313ec456244e3ef813d3eaffcaf8", func := "example.com/devloom/devloom/zzlaws_devfile_b1.FnShortestCycleIsSimpleCycleInSet", spec := "fnShortestCycleIsSimpleCycleInSet", make := .lifted ["publicsums"], apart := false }
def FnShortestCycleIsSimpleCycleInSetSaid : Prop := fnShortestCycleIsSimpleCycleInSetRow.holds Trym.pinned (OpenSpec.ofChange fnShortestCycleIsSimpleCycleInSetSpec)

/-- ITS FALSE NEIGHBOUR: 'it returns false'. Refute it at one input. -/
def fnShortestCycleIsSimpleCycleInSetWrong : ChangeSpec := { name := "fnShortestCycleIsSimpleCycleInSet", fn := fun _ => fun
  | [d1, d2, d3] => { results := [.lit (.bool false)], args := [d1, d2, d3] }
  | _ => none }
def FnShortestCycleIsSimpleCycleInSetWrongFalsely : Prop := fnShortestCycleIsSimpleCycleInSetRow.holds Trym.pinned (OpenSpec.ofChange fnShortestCycleIsSimpleCycleInSetWrong)

/-- 'zzlaws_devfile_b1.FnShortestCycleShortest': WHATEVER THE INPUT: true; the input reads as it did. -/
def fnShortestCycleShortestSpec : ChangeSpec := { name := "fnShortestCycleShortest", fn := fun _ => fun
  | [d1, d2, d3] => { results := [.lit (.bool true)], args := [d1, d2, d3] }
  | _ => none }
def fnShortestCycleShortestRow : OpenClaim := { program := "qxb6001239amods", sum := "94b6cc8a19fc6e234426a36474aca262ed22313ec456244e3ef813d3eaffcaf8", func := "example.com/devloom/devloom/zzlaws_devfile_b1.FnShortestCycleShortest", spec := "fnShortestCycleShortest", make := .lifted ["publicsums"], apart := false }
def FnShortestCycleShortestSaid : Prop := fnShortestCycleShortestRow.holds Trym.pinned (OpenSpec.ofChange fnShortestCycleShortestSpec)

/-- ITS FALSE NEIGHBOUR: 'it returns false'. Refute it at one input. -/
def fnShortestCycleShortestWrong : ChangeSpec := { name := "fnShortestCycleShortest", fn := fun _ => fun
  | [d1, d2, d3] => { results := [.lit (.bool false)], args := [d1, d2, d3] }
  | _ => none }
def FnShortestCycleShortestWrongFalsely : Prop := fnShortestCycleShortestRow.holds Trym.pinned (OpenSpec.ofChange fnShortestCycleShortestWrong)

/-- 'zzlaws_devfile_b1.FnShortestCycleIgnoresOtherSets': WHATEVER THE INPUT: true; the input reads as it did. -/
def fnShortestCycleIgnoresOtherSetsSpec : ChangeSpec := { name := "fnShortestCycleIgnoresOtherSets", fn := fun _ => fun
  | [d1, d2, d3] => { results := [.lit (.bool true)], args := [d1, d2, d3] }
  | _ => none }
def fnShortestCycleIgnoresOtherSetsRow : OpenClaim := { program := "qxb6001239amods", sum := "94b6cc8a19fc6e234426a36474aca262ed22313ec456244e3ef813d3eaffcaf8", func := "example.com/devloom/devloom/zzlaws_devfile_b1.FnShortestCycleIgnoresOtherSets", spec := "fnShortestCycleIgnoresOtherSets", make := .lifted ["publicsums"], apart := false }
def FnShortestCycleIgnoresOtherSetsSaid : Prop := fnShortestCycleIgnoresOtherSetsRow.holds Trym.pinned (OpenSpec.ofChange fnShortestCycleIgnoresOtherSetsSpec)

/-- ITS FALSE NEIGHBOUR: 'it returns false'. Refute it at one input. -/
def fnShortestCycleIgnoresOtherSetsWrong : ChangeSpec := { name := "fnShortestCycleIgnoresOtherSets", fn := fun _ => fun
  | [d1, d2, d3] => { results := [.lit (.bool false)], args := [d1, d2, d3] }
  | _ => none }
def FnShortestCycleIgnoresOtherSetsWrongFalsely : Prop := fnShortestCycleIgnoresOtherSetsRow.holds Trym.pinned (OpenSpec.ofChange fnShortestCycleIgnoresOtherSetsWrong)

end Rows
end Go.Proofs.Qxb6001239aMods
