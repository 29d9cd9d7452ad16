/-
  No cell of these rows narrows 'for every input' (looked for: loops, veiled, ifaces, maps, wideKeys, modest, calm, conditions, laid).
  DERIVED. THE GIVEN ROWS OF THIS SEAT. 4 by the template 'for every input the law returns true; each argument reads behind the call as it read before'; 0 by the template 'total and deterministic' (their statements: Qxb6603923aModsTotals.lean).
  GIVEN WITH THE SEED: the statements are not yours to turn. If you find one false, say at which input.
  Laid BY PROGRAM, IN A SANDBOX (cutbox-rows.mjs): the forced cells as the released guide's own fill.sh prints them over the translation 13ef90ca7837e6a3… (all of the seat's roots in one cut). By AI agents, Wed Nov 11 2026. No macro, syntax, notation, axiom, sorry.
-/
import Derived.Test.Qxb6603923aModsChecked
import GoSem.Claim
import GoSem.ClaimJoined
import GoSem.ClaimMapViews
import Derived.JoinedTies
import Derived.KernelRfl
namespace Go.Proofs.Qxb6603923aMods
/- THE CELL 'sum', in the pinned program and in every row, IS THE sha256 OF THE DUMP (.gsa) THAT Qxb6603923aModsProg.lean LOADS. Nothing in Lean hashes anything: it is a label: what it is worth is what the hold of that sum in a sandbox is worth. -/
noncomputable def Trym.pinned : Pinned := { name := "qxb6603923amods", sum := "13ef90ca7837e6a30505723a15a11c541827b653b6caa612d8237ddad26b9abd", checked := Trym.checked }
namespace Rows
def none {H : Type} : Left H := { results := [], args := [] }

/-- 'zzlaws_coordinator_b1.FnWithoutIsSetDifference': WHATEVER THE INPUT: true; the input reads as it did. -/
def fnWithoutIsSetDifferenceSpec : ChangeSpec := { name := "fnWithoutIsSetDifference", fn := fun _ => fun
  | [d1, d2] => { results := [.lit (.bool true)], args := [d1, d2] }
  | _ => none }
def fnWithoutIsSetDifferenceRow : OpenClaim := { program := "qxb6603923amods", sum := "13ef90ca7837e6a30505723a15a11c541827b653b6caa612d8237ddad26b9abd", func := "example.com/timevote/timevote/zzlaws_coordinator_b1.FnWithoutIsSetDifference", spec := "fnWithoutIsSetDifference", make := .lifted ["publicsums"], apart := false }
def FnWithoutIsSetDifferenceSaid : Prop := fnWithoutIsSetDifferenceRow.holds Trym.pinned (OpenSpec.ofChange fnWithoutIsSetDifferenceSpec)

/-- ITS FALSE NEIGHBOUR: 'it returns false'. Refute it at one input. -/
def fnWithoutIsSetDifferenceWrong : ChangeSpec := { name := "fnWithoutIsSetDifference", fn := fun _ => fun
  | [d1, d2] => { results := [.lit (.bool false)], args := [d1, d2] }
  | _ => none }
def FnWithoutIsSetDifferenceWrongFalsely : Prop := fnWithoutIsSetDifferenceRow.holds Trym.pinned (OpenSpec.ofChange fnWithoutIsSetDifferenceWrong)

/-- 'zzlaws_coordinator_b1.FnUnendedIsTheUnendedSet': WHATEVER THE INPUT: true; the input reads as it did. -/
def fnUnendedIsTheUnendedSetSpec : ChangeSpec := { name := "fnUnendedIsTheUnendedSet", fn := fun _ => fun
  | [d1, d2, d3, d4] => { results := [.lit (.bool true)], args := [d1, d2, d3, d4] }
  | _ => none }
def fnUnendedIsTheUnendedSetRow : OpenClaim := { program := "qxb6603923amods", sum := "13ef90ca7837e6a30505723a15a11c541827b653b6caa612d8237ddad26b9abd", func := "example.com/timevote/timevote/zzlaws_coordinator_b1.FnUnendedIsTheUnendedSet", spec := "fnUnendedIsTheUnendedSet", make := .lifted ["publicsums"], apart := false }
def FnUnendedIsTheUnendedSetSaid : Prop := fnUnendedIsTheUnendedSetRow.holds Trym.pinned (OpenSpec.ofChange fnUnendedIsTheUnendedSetSpec)

/-- ITS FALSE NEIGHBOUR: 'it returns false'. Refute it at one input. -/
def fnUnendedIsTheUnendedSetWrong : ChangeSpec := { name := "fnUnendedIsTheUnendedSet", fn := fun _ => fun
  | [d1, d2, d3, d4] => { results := [.lit (.bool false)], args := [d1, d2, d3, d4] }
  | _ => none }
def FnUnendedIsTheUnendedSetWrongFalsely : Prop := fnUnendedIsTheUnendedSetRow.holds Trym.pinned (OpenSpec.ofChange fnUnendedIsTheUnendedSetWrong)

/-- 'zzlaws_coordinator_b1.FnPlacementAddKeepsRecordWellFormed': WHATEVER THE INPUT: true; the input reads as it did. -/
def fnPlacementAddKeepsRecordWellFormedSpec : ChangeSpec := { name := "fnPlacementAddKeepsRecordWellFormed", fn := fun _ => fun
  | [d1, d2, d3, d4, d5] => { results := [.lit (.bool true)], args := [d1, d2, d3, d4, d5] }
  | _ => none }
def fnPlacementAddKeepsRecordWellFormedRow : OpenClaim := { program := "qxb6603923amods", sum := "13ef90ca7837e6a30505723a15a11c541827b653b6caa612d8237ddad26b9abd", func := "example.com/timevote/timevote/zzlaws_coordinator_b1.FnPlacementAddKeepsRecordWellFormed", spec := "fnPlacementAddKeepsRecordWellFormed", make := .lifted ["publicsums"], apart := false }
def FnPlacementAddKeepsRecordWellFormedSaid : Prop := fnPlacementAddKeepsRecordWellFormedRow.holds Trym.pinned (OpenSpec.ofChange fnPlacementAddKeepsRecordWellFormedSpec)

/-- ITS FALSE NEIGHBOUR: 'it returns false'. Refute it at one input. -/
def fnPlacementAddKeepsRecordWellFormedWrong : ChangeSpec := { name := "fnPlacementAddKeepsRecordWellFormed", fn := fun _ => fun
  | [d1, d2, d3, d4, d5] => { results := [.lit (.bool false)], args := [d1, d2, d3, d4, d5] }
  | _ => none }
def FnPlacementAddKeepsRecordWellFormedWrongFalsely : Prop := fnPlacementAddKeepsRecordWellFormedRow.holds Trym.pinned (OpenSpec.ofChange fnPlacementAddKeepsRecordWellFormedWrong)

/-- 'zzlaws_coordinator_b1.FnPlacementScriptNamesFirstNodeOfEachKey': WHATEVER THE INPUT: true; the input reads as it did. -/
def fnPlacementScriptNamesFirstNodeOfEachKeySpec : ChangeSpec := { name := "fnPlacementScriptNamesFirstNodeOfEachKey", fn := fun _ => fun
  | [d1, d2] => { results := [.lit (.bool true)], args := [d1, d2] }
  | _ => none }
def fnPlacementScriptNamesFirstNodeOfEachKeyRow : OpenClaim := { program := "qxb6603923amods", sum := "13ef90ca7837e6a30505723a15a11c541827b653b6caa612d8237ddad26b9abd", func := "example.com/timevote/timevote/zzlaws_coordinator_b1.FnPlacementScriptNamesFirstNodeOfEachKey", spec := "fnPlacementScriptNamesFirstNodeOfEachKey", make := .lifted ["publicsums"], apart := false }
def FnPlacementScriptNamesFirstNodeOfEachKeySaid : Prop := fnPlacementScriptNamesFirstNodeOfEachKeyRow.holds Trym.pinned (OpenSpec.ofChange fnPlacementScriptNamesFirstNodeOfEachKeySpec)

/-- ITS FALSE NEIGHBOUR: 'it returns false'. Refute it at one input. -/
def fnPlacementScriptNamesFirstNodeOfEachKeyWrong : ChangeSpec := { name := "fnPlacementScriptNamesFirstNodeOfEachKey", fn := fun _ => fun
  | [d1, d2] => { results := [.lit (.bool false)], args := [d1, d2] }
  | _ => none }
def FnPlacementScriptNamesFirstNodeOfEachKeyWrongFalsely : Prop := fnPlacementScriptNamesFirstNodeOfEachKeyRow.holds Trym.pinned (OpenSpec.ofChange fnPlacementScriptNamesFirstNodeOfEachKeyWrong)

end Rows
end Go.Proofs.Qxb6603923aMods
