/-
  No cell of these rows narrows 'for every input' (looked for: loops, veiled, ifaces, maps, wideKeys, modest, calm, conditions, laid).
  DERIVED. THE GIVEN ROWS OF THIS SEAT. 4 by the template 'for every input the law returns true; each argument reads behind the call as it read before'; 0 by the template 'total and deterministic' (their statements: Qxb6605205aModsTotals.lean).
  GIVEN WITH THE SEED: the statements are not yours to turn. If you find one false, say at which input.
  Laid BY PROGRAM, IN A SANDBOX (cutbox-rows.mjs): the forced cells as the released guide's own fill.sh prints them over the translation 2d875b3c8e4b06d6… (all of the seat's roots in one cut). By AI agents, Wed Nov 11 2026. No macro, syntax, notation, axiom, sorry.
-/
import Derived.Test.Qxb6605205aModsChecked
import GoSem.Claim
import GoSem.ClaimJoined
import GoSem.ClaimMapViews
import Derived.JoinedTies
import Derived.KernelRfl
namespace Go.Proofs.Qxb6605205aMods
/- THE CELL 'sum', in the pinned program and in every row, IS THE sha256 OF THE DUMP (.gsa) THAT Qxb6605205aModsProg.lean LOADS. Nothing in Lean hashes anything: it is a label: what it is worth is what the hold of that sum in a sandbox is worth. -/
noncomputable def Trym.pinned : Pinned := { name := "qxb6605205amods", sum := "2d875b3c8e4b06d6699caed56eccb8afc1737ebb6284826ba04ff50fbd6289e6", checked := Trym.checked }
namespace Rows
def none {H : Type} : Left H := { results := [], args := [] }

/-- 'zzlaws_root_b1.FnLowerBoundCountsSmaller': WHATEVER THE INPUT: true; the input reads as it did. -/
def fnLowerBoundCountsSmallerSpec : ChangeSpec := { name := "fnLowerBoundCountsSmaller", fn := fun _ => fun
  | [d1, d2, d3, d4] => { results := [.lit (.bool true)], args := [d1, d2, d3, d4] }
  | _ => none }
def fnLowerBoundCountsSmallerRow : OpenClaim := { program := "qxb6605205amods", sum := "2d875b3c8e4b06d6699caed56eccb8afc1737ebb6284826ba04ff50fbd6289e6", func := "example.com/acquaint/acquaint/zzlaws_root_b1.FnLowerBoundCountsSmaller", spec := "fnLowerBoundCountsSmaller", make := .lifted ["publicsums"], apart := false }
def FnLowerBoundCountsSmallerSaid : Prop := fnLowerBoundCountsSmallerRow.holds Trym.pinned (OpenSpec.ofChange fnLowerBoundCountsSmallerSpec)

/-- ITS FALSE NEIGHBOUR: 'it returns false'. Refute it at one input. -/
def fnLowerBoundCountsSmallerWrong : ChangeSpec := { name := "fnLowerBoundCountsSmaller", fn := fun _ => fun
  | [d1, d2, d3, d4] => { results := [.lit (.bool false)], args := [d1, d2, d3, d4] }
  | _ => none }
def FnLowerBoundCountsSmallerWrongFalsely : Prop := fnLowerBoundCountsSmallerRow.holds Trym.pinned (OpenSpec.ofChange fnLowerBoundCountsSmallerWrong)

/-- 'zzlaws_root_b1.FnLowerBoundBoundsOnlySaveReads': WHATEVER THE INPUT: true; the input reads as it did. -/
def fnLowerBoundBoundsOnlySaveReadsSpec : ChangeSpec := { name := "fnLowerBoundBoundsOnlySaveReads", fn := fun _ => fun
  | [d1, d2, d3, d4] => { results := [.lit (.bool true)], args := [d1, d2, d3, d4] }
  | _ => none }
def fnLowerBoundBoundsOnlySaveReadsRow : OpenClaim := { program := "qxb6605205amods", sum := "2d875b3c8e4b06d6699caed56eccb8afc1737ebb6284826ba04ff50fbd6289e6", func := "example.com/acquaint/acquaint/zzlaws_root_b1.FnLowerBoundBoundsOnlySaveReads", spec := "fnLowerBoundBoundsOnlySaveReads", make := .lifted ["publicsums"], apart := false }
def FnLowerBoundBoundsOnlySaveReadsSaid : Prop := fnLowerBoundBoundsOnlySaveReadsRow.holds Trym.pinned (OpenSpec.ofChange fnLowerBoundBoundsOnlySaveReadsSpec)

/-- ITS FALSE NEIGHBOUR: 'it returns false'. Refute it at one input. -/
def fnLowerBoundBoundsOnlySaveReadsWrong : ChangeSpec := { name := "fnLowerBoundBoundsOnlySaveReads", fn := fun _ => fun
  | [d1, d2, d3, d4] => { results := [.lit (.bool false)], args := [d1, d2, d3, d4] }
  | _ => none }
def FnLowerBoundBoundsOnlySaveReadsWrongFalsely : Prop := fnLowerBoundBoundsOnlySaveReadsRow.holds Trym.pinned (OpenSpec.ofChange fnLowerBoundBoundsOnlySaveReadsWrong)

/-- 'zzlaws_root_b1.FnInfoWordAlphabet': WHATEVER THE INPUT: true; the input reads as it did. -/
def fnInfoWordAlphabetSpec : ChangeSpec := { name := "fnInfoWordAlphabet", fn := fun _ => fun
  | [d] => { results := [.lit (.bool true)], args := [d] }
  | _ => none }
def fnInfoWordAlphabetRow : OpenClaim := { program := "qxb6605205amods", sum := "2d875b3c8e4b06d6699caed56eccb8afc1737ebb6284826ba04ff50fbd6289e6", func := "example.com/acquaint/acquaint/zzlaws_root_b1.FnInfoWordAlphabet", spec := "fnInfoWordAlphabet", make := .lifted ["publicsums"], apart := false }
def FnInfoWordAlphabetSaid : Prop := fnInfoWordAlphabetRow.holds Trym.pinned (OpenSpec.ofChange fnInfoWordAlphabetSpec)

/-- ITS FALSE NEIGHBOUR: 'it returns false'. Refute it at one input. -/
def fnInfoWordAlphabetWrong : ChangeSpec := { name := "fnInfoWordAlphabet", fn := fun _ => fun
  | [d] => { results := [.lit (.bool false)], args := [d] }
  | _ => none }
def FnInfoWordAlphabetWrongFalsely : Prop := fnInfoWordAlphabetRow.holds Trym.pinned (OpenSpec.ofChange fnInfoWordAlphabetWrong)

/-- 'zzlaws_root_b1.FnPeekSplitsKindByte': WHATEVER THE INPUT: true; the input reads as it did. -/
def fnPeekSplitsKindByteSpec : ChangeSpec := { name := "fnPeekSplitsKindByte", fn := fun _ => fun
  | [d] => { results := [.lit (.bool true)], args := [d] }
  | _ => none }
def fnPeekSplitsKindByteRow : OpenClaim := { program := "qxb6605205amods", sum := "2d875b3c8e4b06d6699caed56eccb8afc1737ebb6284826ba04ff50fbd6289e6", func := "example.com/acquaint/acquaint/zzlaws_root_b1.FnPeekSplitsKindByte", spec := "fnPeekSplitsKindByte", make := .lifted ["publicsums"], apart := false }
def FnPeekSplitsKindByteSaid : Prop := fnPeekSplitsKindByteRow.holds Trym.pinned (OpenSpec.ofChange fnPeekSplitsKindByteSpec)

/-- ITS FALSE NEIGHBOUR: 'it returns false'. Refute it at one input. -/
def fnPeekSplitsKindByteWrong : ChangeSpec := { name := "fnPeekSplitsKindByte", fn := fun _ => fun
  | [d] => { results := [.lit (.bool false)], args := [d] }
  | _ => none }
def FnPeekSplitsKindByteWrongFalsely : Prop := fnPeekSplitsKindByteRow.holds Trym.pinned (OpenSpec.ofChange fnPeekSplitsKindByteWrong)

end Rows
end Go.Proofs.Qxb6605205aMods
