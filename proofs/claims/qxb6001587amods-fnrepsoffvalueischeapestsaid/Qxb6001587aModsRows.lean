/-
  No cell of these rows narrows 'for every input' (looked for: loops, veiled, ifaces, maps, wideKeys, modest, calm, conditions, laid).
  DERIVED. THE GIVEN ROWS OF THIS SEAT. 5 by the template 'for every input the law returns true; each argument reads behind the call as it read before'; 0 by the template 'total and deterministic' (their statements: Qxb6001587aModsTotals.lean).
  GIVEN WITH THE SEED: the statements are not yours to turn. If you find one false, say at which input.
  Laid BY PROGRAM, IN A SANDBOX (cutbox-rows.mjs): the forced cells as the released guide's own fill.sh prints them over the translation d172395810abf1db… (all of the seat's roots in one cut). By AI agents, Wed Nov 11 2026. No macro, syntax, notation, axiom, sorry.
-/
import Derived.Test.Qxb6001587aModsChecked
import GoSem.Claim
import GoSem.ClaimJoined
import GoSem.ClaimMapViews
import Derived.JoinedTies
import Derived.KernelRfl
namespace Go.Proofs.Qxb6001587aMods
/- THE CELL 'sum', in the pinned program and in every row, IS THE sha256 OF THE DUMP (.gsa) THAT Qxb6001587aModsProg.lean LOADS. Nothing in Lean hashes anything: it is a label: what it is worth is what the hold of that sum in a sandbox is worth. -/
noncomputable def Trym.pinned : Pinned := { name := "qxb6001587amods", sum := "d172395810abf1db481df4748abe40227ee7e927cd4e143db1c949cf6421186d", checked := Trym.checked }
namespace Rows
def none {H : Type} : Left H := { results := [], args := [] }

/-- 'zzlaws_internal_zstdenc_b1.FnRepsOffValueThenNextPutsDistFirst': WHATEVER THE INPUT: true; the input reads as it did. -/
def fnRepsOffValueThenNextPutsDistFirstSpec : ChangeSpec := { name := "fnRepsOffValueThenNextPutsDistFirst", fn := fun _ => fun
  | [d1, d2, d3] => { results := [.lit (.bool true)], args := [d1, d2, d3] }
  | _ => none }
def fnRepsOffValueThenNextPutsDistFirstRow : OpenClaim := { program := "qxb6001587amods", sum := "d172395810abf1db481df4748abe40227ee7e927cd4e143db1c949cf6421186d", func := "example.com/ebbsync/ebbsync/zzlaws_internal_zstdenc_b1.FnRepsOffValueThenNextPutsDistFirst", spec := "fnRepsOffValueThenNextPutsDistFirst", make := .lifted ["publicsums"], apart := false }
def FnRepsOffValueThenNextPutsDistFirstSaid : Prop := fnRepsOffValueThenNextPutsDistFirstRow.holds Trym.pinned (OpenSpec.ofChange fnRepsOffValueThenNextPutsDistFirstSpec)

/-- ITS FALSE NEIGHBOUR: 'it returns false'. Refute it at one input. -/
def fnRepsOffValueThenNextPutsDistFirstWrong : ChangeSpec := { name := "fnRepsOffValueThenNextPutsDistFirst", fn := fun _ => fun
  | [d1, d2, d3] => { results := [.lit (.bool false)], args := [d1, d2, d3] }
  | _ => none }
def FnRepsOffValueThenNextPutsDistFirstWrongFalsely : Prop := fnRepsOffValueThenNextPutsDistFirstRow.holds Trym.pinned (OpenSpec.ofChange fnRepsOffValueThenNextPutsDistFirstWrong)

/-- 'zzlaws_internal_zstdenc_b1.FnRepsOffValueIsCheapest': WHATEVER THE INPUT: true; the input reads as it did. -/
def fnRepsOffValueIsCheapestSpec : ChangeSpec := { name := "fnRepsOffValueIsCheapest", fn := fun _ => fun
  | [d1, d2, d3] => { results := [.lit (.bool true)], args := [d1, d2, d3] }
  | _ => none }
def fnRepsOffValueIsCheapestRow : OpenClaim := { program := "qxb6001587amods", sum := "d172395810abf1db481df4748abe40227ee7e927cd4e143db1c949cf6421186d", func := "example.com/ebbsync/ebbsync/zzlaws_internal_zstdenc_b1.FnRepsOffValueIsCheapest", spec := "fnRepsOffValueIsCheapest", make := .lifted ["publicsums"], apart := false }
def FnRepsOffValueIsCheapestSaid : Prop := fnRepsOffValueIsCheapestRow.holds Trym.pinned (OpenSpec.ofChange fnRepsOffValueIsCheapestSpec)

/-- ITS FALSE NEIGHBOUR: 'it returns false'. Refute it at one input. -/
def fnRepsOffValueIsCheapestWrong : ChangeSpec := { name := "fnRepsOffValueIsCheapest", fn := fun _ => fun
  | [d1, d2, d3] => { results := [.lit (.bool false)], args := [d1, d2, d3] }
  | _ => none }
def FnRepsOffValueIsCheapestWrongFalsely : Prop := fnRepsOffValueIsCheapestRow.holds Trym.pinned (OpenSpec.ofChange fnRepsOffValueIsCheapestWrong)

/-- 'zzlaws_internal_zstdenc_b1.FnRepsNextKeepsOlderInOrder': WHATEVER THE INPUT: true; the input reads as it did. -/
def fnRepsNextKeepsOlderInOrderSpec : ChangeSpec := { name := "fnRepsNextKeepsOlderInOrder", fn := fun _ => fun
  | [d1, d2, d3] => { results := [.lit (.bool true)], args := [d1, d2, d3] }
  | _ => none }
def fnRepsNextKeepsOlderInOrderRow : OpenClaim := { program := "qxb6001587amods", sum := "d172395810abf1db481df4748abe40227ee7e927cd4e143db1c949cf6421186d", func := "example.com/ebbsync/ebbsync/zzlaws_internal_zstdenc_b1.FnRepsNextKeepsOlderInOrder", spec := "fnRepsNextKeepsOlderInOrder", make := .lifted ["publicsums"], apart := false }
def FnRepsNextKeepsOlderInOrderSaid : Prop := fnRepsNextKeepsOlderInOrderRow.holds Trym.pinned (OpenSpec.ofChange fnRepsNextKeepsOlderInOrderSpec)

/-- ITS FALSE NEIGHBOUR: 'it returns false'. Refute it at one input. -/
def fnRepsNextKeepsOlderInOrderWrong : ChangeSpec := { name := "fnRepsNextKeepsOlderInOrder", fn := fun _ => fun
  | [d1, d2, d3] => { results := [.lit (.bool false)], args := [d1, d2, d3] }
  | _ => none }
def FnRepsNextKeepsOlderInOrderWrongFalsely : Prop := fnRepsNextKeepsOlderInOrderRow.holds Trym.pinned (OpenSpec.ofChange fnRepsNextKeepsOlderInOrderWrong)

/-- 'zzlaws_internal_zstdenc_b1.FnDescriptionDecodesBack': WHATEVER THE INPUT: true; the input reads as it did. -/
def fnDescriptionDecodesBackSpec : ChangeSpec := { name := "fnDescriptionDecodesBack", fn := fun _ => fun
  | [d1, d2] => { results := [.lit (.bool true)], args := [d1, d2] }
  | _ => none }
def fnDescriptionDecodesBackRow : OpenClaim := { program := "qxb6001587amods", sum := "d172395810abf1db481df4748abe40227ee7e927cd4e143db1c949cf6421186d", func := "example.com/ebbsync/ebbsync/zzlaws_internal_zstdenc_b1.FnDescriptionDecodesBack", spec := "fnDescriptionDecodesBack", make := .lifted ["publicsums"], apart := false }
def FnDescriptionDecodesBackSaid : Prop := fnDescriptionDecodesBackRow.holds Trym.pinned (OpenSpec.ofChange fnDescriptionDecodesBackSpec)

/-- ITS FALSE NEIGHBOUR: 'it returns false'. Refute it at one input. -/
def fnDescriptionDecodesBackWrong : ChangeSpec := { name := "fnDescriptionDecodesBack", fn := fun _ => fun
  | [d1, d2] => { results := [.lit (.bool false)], args := [d1, d2] }
  | _ => none }
def FnDescriptionDecodesBackWrongFalsely : Prop := fnDescriptionDecodesBackRow.holds Trym.pinned (OpenSpec.ofChange fnDescriptionDecodesBackWrong)

/-- 'zzlaws_internal_zstdenc_b1.FnDescriptionAppendsAfterPrefix': WHATEVER THE INPUT: true; the input reads as it did. -/
def fnDescriptionAppendsAfterPrefixSpec : ChangeSpec := { name := "fnDescriptionAppendsAfterPrefix", fn := fun _ => fun
  | [d1, d2, d3] => { results := [.lit (.bool true)], args := [d1, d2, d3] }
  | _ => none }
def fnDescriptionAppendsAfterPrefixRow : OpenClaim := { program := "qxb6001587amods", sum := "d172395810abf1db481df4748abe40227ee7e927cd4e143db1c949cf6421186d", func := "example.com/ebbsync/ebbsync/zzlaws_internal_zstdenc_b1.FnDescriptionAppendsAfterPrefix", spec := "fnDescriptionAppendsAfterPrefix", make := .lifted ["publicsums"], apart := false }
def FnDescriptionAppendsAfterPrefixSaid : Prop := fnDescriptionAppendsAfterPrefixRow.holds Trym.pinned (OpenSpec.ofChange fnDescriptionAppendsAfterPrefixSpec)

/-- ITS FALSE NEIGHBOUR: 'it returns false'. Refute it at one input. -/
def fnDescriptionAppendsAfterPrefixWrong : ChangeSpec := { name := "fnDescriptionAppendsAfterPrefix", fn := fun _ => fun
  | [d1, d2, d3] => { results := [.lit (.bool false)], args := [d1, d2, d3] }
  | _ => none }
def FnDescriptionAppendsAfterPrefixWrongFalsely : Prop := fnDescriptionAppendsAfterPrefixRow.holds Trym.pinned (OpenSpec.ofChange fnDescriptionAppendsAfterPrefixWrong)

end Rows
end Go.Proofs.Qxb6001587aMods
