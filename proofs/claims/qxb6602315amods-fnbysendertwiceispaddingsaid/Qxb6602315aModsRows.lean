/-
  No cell of these rows narrows 'for every input' (looked for: loops, veiled, ifaces, maps, wideKeys, modest, calm, conditions, laid).
  DERIVED. THE GIVEN ROWS OF THIS SEAT. 4 by the template 'for every input the law returns true; each argument reads behind the call as it read before'; 0 by the template 'total and deterministic' (their statements: Qxb6602315aModsTotals.lean).
  GIVEN WITH THE SEED: the statements are not yours to turn. If you find one false, say at which input.
  Laid BY PROGRAM, IN A SANDBOX (cutbox-rows.mjs): the forced cells as the released guide's own fill.sh prints them over the translation 1b34fd4776ca6ff8… (all of the seat's roots in one cut). By AI agents, Wed Nov 11 2026. No macro, syntax, notation, axiom, sorry.
-/
import Derived.Test.Qxb6602315aModsChecked
import GoSem.Claim
import GoSem.ClaimJoined
import GoSem.ClaimMapViews
import Derived.JoinedTies
import Derived.KernelRfl
namespace Go.Proofs.Qxb6602315aMods
/- THE CELL 'sum', in the pinned program and in every row, IS THE sha256 OF THE DUMP (.gsa) THAT Qxb6602315aModsProg.lean LOADS. Nothing in Lean hashes anything: it is a label: what it is worth is what the hold of that sum in a sandbox is worth. -/
noncomputable def Trym.pinned : Pinned := { name := "qxb6602315amods", sum := "1b34fd4776ca6ff83d8bc9a8a968f71525f11c7148c3ac69895bdc2c0173ce74", checked := Trym.checked }
namespace Rows
def none {H : Type} : Left H := { results := [], args := [] }

/-- 'zzlaws_root_b1.FnNewNetworkMatchesLinkSets': WHATEVER THE INPUT: true; the input reads as it did. -/
def fnNewNetworkMatchesLinkSetsSpec : ChangeSpec := { name := "fnNewNetworkMatchesLinkSets", fn := fun _ => fun
  | [d] => { results := [.lit (.bool true)], args := [d] }
  | _ => none }
def fnNewNetworkMatchesLinkSetsRow : OpenClaim := { program := "qxb6602315amods", sum := "1b34fd4776ca6ff83d8bc9a8a968f71525f11c7148c3ac69895bdc2c0173ce74", func := "example.com/hullward/hullward/zzlaws_root_b1.FnNewNetworkMatchesLinkSets", spec := "fnNewNetworkMatchesLinkSets", recurses := true, make := .lifted ["publicsums"], apart := false }
def FnNewNetworkMatchesLinkSetsSaid : Prop := fnNewNetworkMatchesLinkSetsRow.holds Trym.pinned (OpenSpec.ofChange fnNewNetworkMatchesLinkSetsSpec)

/-- ITS FALSE NEIGHBOUR: 'it returns false'. Refute it at one input. -/
def fnNewNetworkMatchesLinkSetsWrong : ChangeSpec := { name := "fnNewNetworkMatchesLinkSets", fn := fun _ => fun
  | [d] => { results := [.lit (.bool false)], args := [d] }
  | _ => none }
def FnNewNetworkMatchesLinkSetsWrongFalsely : Prop := fnNewNetworkMatchesLinkSetsRow.holds Trym.pinned (OpenSpec.ofChange fnNewNetworkMatchesLinkSetsWrong)

/-- 'zzlaws_root_b1.FnNewNetworkIgnoresOrderAndRepeats': WHATEVER THE INPUT: true; the input reads as it did. -/
def fnNewNetworkIgnoresOrderAndRepeatsSpec : ChangeSpec := { name := "fnNewNetworkIgnoresOrderAndRepeats", fn := fun _ => fun
  | [d] => { results := [.lit (.bool true)], args := [d] }
  | _ => none }
def fnNewNetworkIgnoresOrderAndRepeatsRow : OpenClaim := { program := "qxb6602315amods", sum := "1b34fd4776ca6ff83d8bc9a8a968f71525f11c7148c3ac69895bdc2c0173ce74", func := "example.com/hullward/hullward/zzlaws_root_b1.FnNewNetworkIgnoresOrderAndRepeats", spec := "fnNewNetworkIgnoresOrderAndRepeats", recurses := true, make := .lifted ["publicsums"], apart := false }
def FnNewNetworkIgnoresOrderAndRepeatsSaid : Prop := fnNewNetworkIgnoresOrderAndRepeatsRow.holds Trym.pinned (OpenSpec.ofChange fnNewNetworkIgnoresOrderAndRepeatsSpec)

/-- ITS FALSE NEIGHBOUR: 'it returns false'. Refute it at one input. -/
def fnNewNetworkIgnoresOrderAndRepeatsWrong : ChangeSpec := { name := "fnNewNetworkIgnoresOrderAndRepeats", fn := fun _ => fun
  | [d] => { results := [.lit (.bool false)], args := [d] }
  | _ => none }
def FnNewNetworkIgnoresOrderAndRepeatsWrongFalsely : Prop := fnNewNetworkIgnoresOrderAndRepeatsRow.holds Trym.pinned (OpenSpec.ofChange fnNewNetworkIgnoresOrderAndRepeatsWrong)

/-- 'zzlaws_root_b1.FnBySenderTwiceIsPadding': WHATEVER THE INPUT: true; the input reads as it did. -/
def fnBySenderTwiceIsPaddingSpec : ChangeSpec := { name := "fnBySenderTwiceIsPadding", fn := fun _ => fun
  | [d] => { results := [.lit (.bool true)], args := [d] }
  | _ => none }
def fnBySenderTwiceIsPaddingRow : OpenClaim := { program := "qxb6602315amods", sum := "1b34fd4776ca6ff83d8bc9a8a968f71525f11c7148c3ac69895bdc2c0173ce74", func := "example.com/hullward/hullward/zzlaws_root_b1.FnBySenderTwiceIsPadding", spec := "fnBySenderTwiceIsPadding", make := .lifted ["publicsums"], apart := false }
def FnBySenderTwiceIsPaddingSaid : Prop := fnBySenderTwiceIsPaddingRow.holds Trym.pinned (OpenSpec.ofChange fnBySenderTwiceIsPaddingSpec)

/-- ITS FALSE NEIGHBOUR: 'it returns false'. Refute it at one input. -/
def fnBySenderTwiceIsPaddingWrong : ChangeSpec := { name := "fnBySenderTwiceIsPadding", fn := fun _ => fun
  | [d] => { results := [.lit (.bool false)], args := [d] }
  | _ => none }
def FnBySenderTwiceIsPaddingWrongFalsely : Prop := fnBySenderTwiceIsPaddingRow.holds Trym.pinned (OpenSpec.ofChange fnBySenderTwiceIsPaddingWrong)

/-- 'zzlaws_root_b1.FnTensorPartsSumToZero': WHATEVER THE INPUT: true; the input reads as it did. -/
def fnTensorPartsSumToZeroSpec : ChangeSpec := { name := "fnTensorPartsSumToZero", fn := fun _ => fun
  | [d1, d2] => { results := [.lit (.bool true)], args := [d1, d2] }
  | _ => none }
def fnTensorPartsSumToZeroRow : OpenClaim := { program := "qxb6602315amods", sum := "1b34fd4776ca6ff83d8bc9a8a968f71525f11c7148c3ac69895bdc2c0173ce74", func := "example.com/hullward/hullward/zzlaws_root_b1.FnTensorPartsSumToZero", spec := "fnTensorPartsSumToZero", make := .lifted ["publicsums"], apart := false }
def FnTensorPartsSumToZeroSaid : Prop := fnTensorPartsSumToZeroRow.holds Trym.pinned (OpenSpec.ofChange fnTensorPartsSumToZeroSpec)

/-- ITS FALSE NEIGHBOUR: 'it returns false'. Refute it at one input. -/
def fnTensorPartsSumToZeroWrong : ChangeSpec := { name := "fnTensorPartsSumToZero", fn := fun _ => fun
  | [d1, d2] => { results := [.lit (.bool false)], args := [d1, d2] }
  | _ => none }
def FnTensorPartsSumToZeroWrongFalsely : Prop := fnTensorPartsSumToZeroRow.holds Trym.pinned (OpenSpec.ofChange fnTensorPartsSumToZeroWrong)

end Rows
end Go.Proofs.Qxb6602315aMods
