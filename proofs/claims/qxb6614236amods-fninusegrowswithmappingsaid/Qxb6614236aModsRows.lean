/-
  No cell of these rows narrows 'for every input' (looked for: loops, veiled, ifaces, maps, wideKeys, modest, calm, conditions, laid).
  DERIVED. THE GIVEN ROWS OF THIS SEAT. 2 by the template 'for every input the law returns true; each argument reads behind the call as it read before'; 0 by the template 'total and deterministic' (their statements: Qxb6614236aModsTotals.lean).
  GIVEN WITH THE SEED: the statements are not yours to turn. If you find one false, say at which input.
  Laid BY PROGRAM, IN A SANDBOX (cutbox-rows.mjs): the forced cells as the released guide's own fill.sh prints them over the translation 3820b761a2dc5d6e… (all of the seat's roots in one cut). By AI agents, Wed Nov 11 2026. No macro, syntax, notation, axiom, sorry.
-/
import Derived.Test.Qxb6614236aModsChecked
import GoSem.Claim
import GoSem.ClaimJoined
import GoSem.ClaimMapViews
import Derived.JoinedTies
import Derived.KernelRfl
namespace Go.Proofs.Qxb6614236aMods
/- THE CELL 'sum', in the pinned program and in every row, IS THE sha256 OF THE DUMP (.gsa) THAT Qxb6614236aModsProg.lean LOADS. Nothing in Lean hashes anything: it is a label: what it is worth is what the hold of that sum in a sandbox is worth. -/
noncomputable def Trym.pinned : Pinned := { name := "qxb6614236amods", sum := "3820b761a2dc5d6ecd70c948cee20b7b734c49e44f2a483420a1adfe20fb2374", checked := Trym.checked }
namespace Rows
def none {H : Type} : Left H := { results := [], args := [] }

/-- 'zzlaws_sim_b1.FnInUseGrowsWithMapping': WHATEVER THE INPUT: true; the input reads as it did. -/
def fnInUseGrowsWithMappingSpec : ChangeSpec := { name := "fnInUseGrowsWithMapping", fn := fun _ => fun
  | [d1, d2, d3, d4, d5, d6] => { results := [.lit (.bool true)], args := [d1, d2, d3, d4, d5, d6] }
  | _ => none }
def fnInUseGrowsWithMappingRow : OpenClaim := { program := "qxb6614236amods", sum := "3820b761a2dc5d6ecd70c948cee20b7b734c49e44f2a483420a1adfe20fb2374", func := "example.com/airquorum/airquorum/zzlaws_sim_b1.FnInUseGrowsWithMapping", spec := "fnInUseGrowsWithMapping", make := .lifted ["publicsums"], apart := false }
def FnInUseGrowsWithMappingSaid : Prop := fnInUseGrowsWithMappingRow.holds Trym.pinned (OpenSpec.ofChange fnInUseGrowsWithMappingSpec)

/-- ITS FALSE NEIGHBOUR: 'it returns false'. Refute it at one input. -/
def fnInUseGrowsWithMappingWrong : ChangeSpec := { name := "fnInUseGrowsWithMapping", fn := fun _ => fun
  | [d1, d2, d3, d4, d5, d6] => { results := [.lit (.bool false)], args := [d1, d2, d3, d4, d5, d6] }
  | _ => none }
def FnInUseGrowsWithMappingWrongFalsely : Prop := fnInUseGrowsWithMappingRow.holds Trym.pinned (OpenSpec.ofChange fnInUseGrowsWithMappingWrong)

/-- 'zzlaws_sim_b1.FnInUseReadsOnlyStartMappedFree': WHATEVER THE INPUT: true; the input reads as it did. -/
def fnInUseReadsOnlyStartMappedFreeSpec : ChangeSpec := { name := "fnInUseReadsOnlyStartMappedFree", fn := fun _ => fun
  | [d1, d2, d3, d4, d5, d6, d7, d8, d9, d10, d11, d12] => { results := [.lit (.bool true)], args := [d1, d2, d3, d4, d5, d6, d7, d8, d9, d10, d11, d12] }
  | _ => none }
def fnInUseReadsOnlyStartMappedFreeRow : OpenClaim := { program := "qxb6614236amods", sum := "3820b761a2dc5d6ecd70c948cee20b7b734c49e44f2a483420a1adfe20fb2374", func := "example.com/airquorum/airquorum/zzlaws_sim_b1.FnInUseReadsOnlyStartMappedFree", spec := "fnInUseReadsOnlyStartMappedFree", make := .lifted ["publicsums"], apart := false }
def FnInUseReadsOnlyStartMappedFreeSaid : Prop := fnInUseReadsOnlyStartMappedFreeRow.holds Trym.pinned (OpenSpec.ofChange fnInUseReadsOnlyStartMappedFreeSpec)

/-- ITS FALSE NEIGHBOUR: 'it returns false'. Refute it at one input. -/
def fnInUseReadsOnlyStartMappedFreeWrong : ChangeSpec := { name := "fnInUseReadsOnlyStartMappedFree", fn := fun _ => fun
  | [d1, d2, d3, d4, d5, d6, d7, d8, d9, d10, d11, d12] => { results := [.lit (.bool false)], args := [d1, d2, d3, d4, d5, d6, d7, d8, d9, d10, d11, d12] }
  | _ => none }
def FnInUseReadsOnlyStartMappedFreeWrongFalsely : Prop := fnInUseReadsOnlyStartMappedFreeRow.holds Trym.pinned (OpenSpec.ofChange fnInUseReadsOnlyStartMappedFreeWrong)

end Rows
end Go.Proofs.Qxb6614236aMods
