/-
  No cell of these rows narrows 'for every input' (looked for: loops, veiled, ifaces, maps, wideKeys, modest, calm, conditions, laid).
  DERIVED. THE GIVEN ROWS OF THIS SEAT. 3 by the template 'for every input the law returns true; each argument reads behind the call as it read before'; 0 by the template 'total and deterministic' (their statements: Qxb6614428aModsTotals.lean).
  GIVEN WITH THE SEED: the statements are not yours to turn. If you find one false, say at which input.
  Laid BY PROGRAM, IN A SANDBOX (cutbox-rows.mjs): the forced cells as the released guide's own fill.sh prints them over the translation 0816a63e508dcedc… (all of the seat's roots in one cut). By AI agents, Wed Nov 11 2026. No macro, syntax, notation, axiom, sorry.
-/
import Derived.Test.Qxb6614428aModsChecked
import GoSem.Claim
import GoSem.ClaimJoined
import GoSem.ClaimMapViews
import Derived.JoinedTies
import Derived.KernelRfl
namespace Go.Proofs.Qxb6614428aMods
/- THE CELL 'sum', in the pinned program and in every row, IS THE sha256 OF THE DUMP (.gsa) THAT Qxb6614428aModsProg.lean LOADS. Nothing in Lean hashes anything: it is a label: what it is worth is what the hold of that sum in a sandbox is worth. -/
noncomputable def Trym.pinned : Pinned := { name := "qxb6614428amods", sum := "0816a63e508dcedc4f0a5f42c27f91ea4207ec2258a10f06dde2c0de64056114", checked := Trym.checked }
namespace Rows
def none {H : Type} : Left H := { results := [], args := [] }

/-- 'zzlaws_pkg_tomldoc_b1.FnTableLookupAfterAdds': WHATEVER THE INPUT: true; the input reads as it did. -/
def fnTableLookupAfterAddsSpec : ChangeSpec := { name := "fnTableLookupAfterAdds", fn := fun _ => fun
  | [d1, d2, d3] => { results := [.lit (.bool true)], args := [d1, d2, d3] }
  | _ => none }
def fnTableLookupAfterAddsRow : OpenClaim := { program := "qxb6614428amods", sum := "0816a63e508dcedc4f0a5f42c27f91ea4207ec2258a10f06dde2c0de64056114", func := "example.com/grantwright/grantwright/zzlaws_pkg_tomldoc_b1.FnTableLookupAfterAdds", spec := "fnTableLookupAfterAdds", make := .lifted ["publicsums"], apart := false }
def FnTableLookupAfterAddsSaid : Prop := fnTableLookupAfterAddsRow.holds Trym.pinned (OpenSpec.ofChange fnTableLookupAfterAddsSpec)

/-- ITS FALSE NEIGHBOUR: 'it returns false'. Refute it at one input. -/
def fnTableLookupAfterAddsWrong : ChangeSpec := { name := "fnTableLookupAfterAdds", fn := fun _ => fun
  | [d1, d2, d3] => { results := [.lit (.bool false)], args := [d1, d2, d3] }
  | _ => none }
def FnTableLookupAfterAddsWrongFalsely : Prop := fnTableLookupAfterAddsRow.holds Trym.pinned (OpenSpec.ofChange fnTableLookupAfterAddsWrong)

/-- 'zzlaws_pkg_tomldoc_b1.FnArrayReadsBackItsList': WHATEVER THE INPUT: true; the input reads as it did. -/
def fnArrayReadsBackItsListSpec : ChangeSpec := { name := "fnArrayReadsBackItsList", fn := fun _ => fun
  | [d] => { results := [.lit (.bool true)], args := [d] }
  | _ => none }
def fnArrayReadsBackItsListRow : OpenClaim := { program := "qxb6614428amods", sum := "0816a63e508dcedc4f0a5f42c27f91ea4207ec2258a10f06dde2c0de64056114", func := "example.com/grantwright/grantwright/zzlaws_pkg_tomldoc_b1.FnArrayReadsBackItsList", spec := "fnArrayReadsBackItsList", make := .lifted ["publicsums"], apart := false }
def FnArrayReadsBackItsListSaid : Prop := fnArrayReadsBackItsListRow.holds Trym.pinned (OpenSpec.ofChange fnArrayReadsBackItsListSpec)

/-- ITS FALSE NEIGHBOUR: 'it returns false'. Refute it at one input. -/
def fnArrayReadsBackItsListWrong : ChangeSpec := { name := "fnArrayReadsBackItsList", fn := fun _ => fun
  | [d] => { results := [.lit (.bool false)], args := [d] }
  | _ => none }
def FnArrayReadsBackItsListWrongFalsely : Prop := fnArrayReadsBackItsListRow.holds Trym.pinned (OpenSpec.ofChange fnArrayReadsBackItsListWrong)

/-- 'zzlaws_pkg_tomldoc_b1.FnTableAddEntriesInOrder': WHATEVER THE INPUT: true; the input reads as it did. -/
def fnTableAddEntriesInOrderSpec : ChangeSpec := { name := "fnTableAddEntriesInOrder", fn := fun _ => fun
  | [d1, d2, d3] => { results := [.lit (.bool true)], args := [d1, d2, d3] }
  | _ => none }
def fnTableAddEntriesInOrderRow : OpenClaim := { program := "qxb6614428amods", sum := "0816a63e508dcedc4f0a5f42c27f91ea4207ec2258a10f06dde2c0de64056114", func := "example.com/grantwright/grantwright/zzlaws_pkg_tomldoc_b1.FnTableAddEntriesInOrder", spec := "fnTableAddEntriesInOrder", make := .lifted ["publicsums"], apart := false }
def FnTableAddEntriesInOrderSaid : Prop := fnTableAddEntriesInOrderRow.holds Trym.pinned (OpenSpec.ofChange fnTableAddEntriesInOrderSpec)

/-- ITS FALSE NEIGHBOUR: 'it returns false'. Refute it at one input. -/
def fnTableAddEntriesInOrderWrong : ChangeSpec := { name := "fnTableAddEntriesInOrder", fn := fun _ => fun
  | [d1, d2, d3] => { results := [.lit (.bool false)], args := [d1, d2, d3] }
  | _ => none }
def FnTableAddEntriesInOrderWrongFalsely : Prop := fnTableAddEntriesInOrderRow.holds Trym.pinned (OpenSpec.ofChange fnTableAddEntriesInOrderWrong)

end Rows
end Go.Proofs.Qxb6614428aMods
