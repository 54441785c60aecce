/-
  No cell of these rows narrows 'for every input' (looked for: loops, veiled, ifaces, maps, wideKeys, modest, calm, conditions, laid).
  DERIVED. THE GIVEN ROWS OF THIS SEAT. 3 by the template 'for every input the law returns true; each argument reads behind the call as it read before'; 0 by the template 'total and deterministic' (their statements: Qxb6000822aModsTotals.lean).
  GIVEN WITH THE SEED: the statements are not yours to turn. If you find one false, say at which input.
  Laid BY PROGRAM, IN A SANDBOX (cutbox-rows.mjs): the forced cells as the released guide's own fill.sh prints them over the translation 79b2e074edb1dbd2… (all of the seat's roots in one cut). By AI agents, Wed Nov 11 2026. No macro, syntax, notation, axiom, sorry.
-/
import Derived.Test.Qxb6000822aModsChecked
import GoSem.Claim
import GoSem.ClaimJoined
import GoSem.ClaimMapViews
import Derived.JoinedTies
import Derived.KernelRfl
namespace Go.Proofs.Qxb6000822aMods
/- THE CELL 'sum', in the pinned program and in every row, IS THE sha256 OF THE DUMP (.gsa) THAT Qxb6000822aModsProg.lean LOADS. Nothing in Lean hashes anything: it is a label: what it is worth is what the hold of that sum in a sandbox is worth. -/
noncomputable def Trym.pinned : Pinned := { name := "qxb6000822amods", sum := "79b2e074edb1dbd2ac8ca0b604f30ab5c597583f5b01e34841546466b4d53308", checked := Trym.checked }
namespace Rows
def none {H : Type} : Left H := { results := [], args := [] }

/-- 'zzlaws_pkg_fieldcrypt_b1.FnSpliceMatchesByteWalk': WHATEVER THE INPUT: true; the input reads as it did. -/
def fnSpliceMatchesByteWalkSpec : ChangeSpec := { name := "fnSpliceMatchesByteWalk", fn := fun _ => fun
  | [d1, d2, d3, d4] => { results := [.lit (.bool true)], args := [d1, d2, d3, d4] }
  | _ => none }
def fnSpliceMatchesByteWalkRow : OpenClaim := { program := "qxb6000822amods", sum := "79b2e074edb1dbd2ac8ca0b604f30ab5c597583f5b01e34841546466b4d53308", func := "example.com/orrery/orrery/zzlaws_pkg_fieldcrypt_b1.FnSpliceMatchesByteWalk", spec := "fnSpliceMatchesByteWalk", make := .lifted ["publicsums"], apart := false }
def FnSpliceMatchesByteWalkSaid : Prop := fnSpliceMatchesByteWalkRow.holds Trym.pinned (OpenSpec.ofChange fnSpliceMatchesByteWalkSpec)

/-- ITS FALSE NEIGHBOUR: 'it returns false'. Refute it at one input. -/
def fnSpliceMatchesByteWalkWrong : ChangeSpec := { name := "fnSpliceMatchesByteWalk", fn := fun _ => fun
  | [d1, d2, d3, d4] => { results := [.lit (.bool false)], args := [d1, d2, d3, d4] }
  | _ => none }
def FnSpliceMatchesByteWalkWrongFalsely : Prop := fnSpliceMatchesByteWalkRow.holds Trym.pinned (OpenSpec.ofChange fnSpliceMatchesByteWalkWrong)

/-- 'zzlaws_pkg_fieldcrypt_b1.FnSpliceUndoneByReverseEdits': WHATEVER THE INPUT: true; the input reads as it did. -/
def fnSpliceUndoneByReverseEditsSpec : ChangeSpec := { name := "fnSpliceUndoneByReverseEdits", fn := fun _ => fun
  | [d1, d2, d3, d4] => { results := [.lit (.bool true)], args := [d1, d2, d3, d4] }
  | _ => none }
def fnSpliceUndoneByReverseEditsRow : OpenClaim := { program := "qxb6000822amods", sum := "79b2e074edb1dbd2ac8ca0b604f30ab5c597583f5b01e34841546466b4d53308", func := "example.com/orrery/orrery/zzlaws_pkg_fieldcrypt_b1.FnSpliceUndoneByReverseEdits", spec := "fnSpliceUndoneByReverseEdits", make := .lifted ["publicsums"], apart := false }
def FnSpliceUndoneByReverseEditsSaid : Prop := fnSpliceUndoneByReverseEditsRow.holds Trym.pinned (OpenSpec.ofChange fnSpliceUndoneByReverseEditsSpec)

/-- ITS FALSE NEIGHBOUR: 'it returns false'. Refute it at one input. -/
def fnSpliceUndoneByReverseEditsWrong : ChangeSpec := { name := "fnSpliceUndoneByReverseEdits", fn := fun _ => fun
  | [d1, d2, d3, d4] => { results := [.lit (.bool false)], args := [d1, d2, d3, d4] }
  | _ => none }
def FnSpliceUndoneByReverseEditsWrongFalsely : Prop := fnSpliceUndoneByReverseEditsRow.holds Trym.pinned (OpenSpec.ofChange fnSpliceUndoneByReverseEditsWrong)

/-- 'zzlaws_pkg_fieldcrypt_b1.FnSpliceOneAtATimeFromTheBack': WHATEVER THE INPUT: true; the input reads as it did. -/
def fnSpliceOneAtATimeFromTheBackSpec : ChangeSpec := { name := "fnSpliceOneAtATimeFromTheBack", fn := fun _ => fun
  | [d1, d2, d3, d4] => { results := [.lit (.bool true)], args := [d1, d2, d3, d4] }
  | _ => none }
def fnSpliceOneAtATimeFromTheBackRow : OpenClaim := { program := "qxb6000822amods", sum := "79b2e074edb1dbd2ac8ca0b604f30ab5c597583f5b01e34841546466b4d53308", func := "example.com/orrery/orrery/zzlaws_pkg_fieldcrypt_b1.FnSpliceOneAtATimeFromTheBack", spec := "fnSpliceOneAtATimeFromTheBack", make := .lifted ["publicsums"], apart := false }
def FnSpliceOneAtATimeFromTheBackSaid : Prop := fnSpliceOneAtATimeFromTheBackRow.holds Trym.pinned (OpenSpec.ofChange fnSpliceOneAtATimeFromTheBackSpec)

/-- ITS FALSE NEIGHBOUR: 'it returns false'. Refute it at one input. -/
def fnSpliceOneAtATimeFromTheBackWrong : ChangeSpec := { name := "fnSpliceOneAtATimeFromTheBack", fn := fun _ => fun
  | [d1, d2, d3, d4] => { results := [.lit (.bool false)], args := [d1, d2, d3, d4] }
  | _ => none }
def FnSpliceOneAtATimeFromTheBackWrongFalsely : Prop := fnSpliceOneAtATimeFromTheBackRow.holds Trym.pinned (OpenSpec.ofChange fnSpliceOneAtATimeFromTheBackWrong)

end Rows
end Go.Proofs.Qxb6000822aMods
