/-
  No cell of these rows narrows 'for every input' (looked for: loops, veiled, ifaces, maps, wideKeys, modest, calm, conditions, laid).
  DERIVED. THE GIVEN ROWS OF THIS SEAT. 5 by the template 'for every input the law returns true; each argument reads behind the call as it read before'; 0 by the template 'total and deterministic' (their statements: Qxb6600435aModsTotals.lean).
  GIVEN WITH THE SEED: the statements are not yours to turn. If you find one false, say at which input.
  Laid BY PROGRAM, IN A SANDBOX (cutbox-rows.mjs): the forced cells as the released guide's own fill.sh prints them over the translation d9b47e7c10938741… (all of the seat's roots in one cut). By AI agents, Wed Nov 11 2026. No macro, syntax, notation, axiom, sorry.
-/
import Derived.Test.Qxb6600435aModsChecked
import GoSem.Claim
import GoSem.ClaimJoined
import GoSem.ClaimMapViews
import Derived.JoinedTies
import Derived.KernelRfl
namespace Go.Proofs.Qxb6600435aMods
/- THE CELL 'sum', in the pinned program and in every row, IS THE sha256 OF THE DUMP (.gsa) THAT Qxb6600435aModsProg.lean LOADS. Nothing in Lean hashes anything: it is a label: what it is worth is what the hold of that sum in a sandbox is worth. -/
noncomputable def Trym.pinned : Pinned := { name := "qxb6600435amods", sum := "d9b47e7c10938741581a85933b2c058c2ce77c3838c8bf4a148e6652db9894fe", checked := Trym.checked }
namespace Rows
def none {H : Type} : Left H := { results := [], args := [] }

/-- 'zzlaws_pkg_registry_b1.FnEnrollmentLimitModel': WHATEVER THE INPUT: true; the input reads as it did. -/
def fnEnrollmentLimitModelSpec : ChangeSpec := { name := "fnEnrollmentLimitModel", fn := fun _ => fun
  | [d1, d2] => { results := [.lit (.bool true)], args := [d1, d2] }
  | _ => none }
def fnEnrollmentLimitModelRow : OpenClaim := { program := "qxb6600435amods", sum := "d9b47e7c10938741581a85933b2c058c2ce77c3838c8bf4a148e6652db9894fe", func := "example.com/nymforge/nymforge/zzlaws_pkg_registry_b1.FnEnrollmentLimitModel", spec := "fnEnrollmentLimitModel", make := .lifted ["publicsums"], apart := false }
def FnEnrollmentLimitModelSaid : Prop := fnEnrollmentLimitModelRow.holds Trym.pinned (OpenSpec.ofChange fnEnrollmentLimitModelSpec)

/-- ITS FALSE NEIGHBOUR: 'it returns false'. Refute it at one input. -/
def fnEnrollmentLimitModelWrong : ChangeSpec := { name := "fnEnrollmentLimitModel", fn := fun _ => fun
  | [d1, d2] => { results := [.lit (.bool false)], args := [d1, d2] }
  | _ => none }
def FnEnrollmentLimitModelWrongFalsely : Prop := fnEnrollmentLimitModelRow.holds Trym.pinned (OpenSpec.ofChange fnEnrollmentLimitModelWrong)

/-- 'zzlaws_pkg_registry_b1.FnEnrollmentLimitBoundsAndRefusal': WHATEVER THE INPUT: true; the input reads as it did. -/
def fnEnrollmentLimitBoundsAndRefusalSpec : ChangeSpec := { name := "fnEnrollmentLimitBoundsAndRefusal", fn := fun _ => fun
  | [d1, d2] => { results := [.lit (.bool true)], args := [d1, d2] }
  | _ => none }
def fnEnrollmentLimitBoundsAndRefusalRow : OpenClaim := { program := "qxb6600435amods", sum := "d9b47e7c10938741581a85933b2c058c2ce77c3838c8bf4a148e6652db9894fe", func := "example.com/nymforge/nymforge/zzlaws_pkg_registry_b1.FnEnrollmentLimitBoundsAndRefusal", spec := "fnEnrollmentLimitBoundsAndRefusal", make := .lifted ["publicsums"], apart := false }
def FnEnrollmentLimitBoundsAndRefusalSaid : Prop := fnEnrollmentLimitBoundsAndRefusalRow.holds Trym.pinned (OpenSpec.ofChange fnEnrollmentLimitBoundsAndRefusalSpec)

/-- ITS FALSE NEIGHBOUR: 'it returns false'. Refute it at one input. -/
def fnEnrollmentLimitBoundsAndRefusalWrong : ChangeSpec := { name := "fnEnrollmentLimitBoundsAndRefusal", fn := fun _ => fun
  | [d1, d2] => { results := [.lit (.bool false)], args := [d1, d2] }
  | _ => none }
def FnEnrollmentLimitBoundsAndRefusalWrongFalsely : Prop := fnEnrollmentLimitBoundsAndRefusalRow.holds Trym.pinned (OpenSpec.ofChange fnEnrollmentLimitBoundsAndRefusalWrong)

/-- 'zzlaws_pkg_registry_b1.FnEnrollmentLimitIdempotent': WHATEVER THE INPUT: true; the input reads as it did. -/
def fnEnrollmentLimitIdempotentSpec : ChangeSpec := { name := "fnEnrollmentLimitIdempotent", fn := fun _ => fun
  | [d1, d2] => { results := [.lit (.bool true)], args := [d1, d2] }
  | _ => none }
def fnEnrollmentLimitIdempotentRow : OpenClaim := { program := "qxb6600435amods", sum := "d9b47e7c10938741581a85933b2c058c2ce77c3838c8bf4a148e6652db9894fe", func := "example.com/nymforge/nymforge/zzlaws_pkg_registry_b1.FnEnrollmentLimitIdempotent", spec := "fnEnrollmentLimitIdempotent", make := .lifted ["publicsums"], apart := false }
def FnEnrollmentLimitIdempotentSaid : Prop := fnEnrollmentLimitIdempotentRow.holds Trym.pinned (OpenSpec.ofChange fnEnrollmentLimitIdempotentSpec)

/-- ITS FALSE NEIGHBOUR: 'it returns false'. Refute it at one input. -/
def fnEnrollmentLimitIdempotentWrong : ChangeSpec := { name := "fnEnrollmentLimitIdempotent", fn := fun _ => fun
  | [d1, d2] => { results := [.lit (.bool false)], args := [d1, d2] }
  | _ => none }
def FnEnrollmentLimitIdempotentWrongFalsely : Prop := fnEnrollmentLimitIdempotentRow.holds Trym.pinned (OpenSpec.ofChange fnEnrollmentLimitIdempotentWrong)

/-- 'zzlaws_pkg_registry_b1.FnBootstrapWhole': WHATEVER THE INPUT: true; the input reads as it did. -/
def fnBootstrapWholeSpec : ChangeSpec := { name := "fnBootstrapWhole", fn := fun _ => fun
  | [d1, d2, d3] => { results := [.lit (.bool true)], args := [d1, d2, d3] }
  | _ => none }
def fnBootstrapWholeRow : OpenClaim := { program := "qxb6600435amods", sum := "d9b47e7c10938741581a85933b2c058c2ce77c3838c8bf4a148e6652db9894fe", func := "example.com/nymforge/nymforge/zzlaws_pkg_registry_b1.FnBootstrapWhole", spec := "fnBootstrapWhole", make := .lifted ["publicsums"], apart := false }
def FnBootstrapWholeSaid : Prop := fnBootstrapWholeRow.holds Trym.pinned (OpenSpec.ofChange fnBootstrapWholeSpec)

/-- ITS FALSE NEIGHBOUR: 'it returns false'. Refute it at one input. -/
def fnBootstrapWholeWrong : ChangeSpec := { name := "fnBootstrapWhole", fn := fun _ => fun
  | [d1, d2, d3] => { results := [.lit (.bool false)], args := [d1, d2, d3] }
  | _ => none }
def FnBootstrapWholeWrongFalsely : Prop := fnBootstrapWholeRow.holds Trym.pinned (OpenSpec.ofChange fnBootstrapWholeWrong)

/-- 'zzlaws_pkg_registry_b1.FnBootstrapDominatesEveryIdentity': WHATEVER THE INPUT: true; the input reads as it did. -/
def fnBootstrapDominatesEveryIdentitySpec : ChangeSpec := { name := "fnBootstrapDominatesEveryIdentity", fn := fun _ => fun
  | [d1, d2, d3] => { results := [.lit (.bool true)], args := [d1, d2, d3] }
  | _ => none }
def fnBootstrapDominatesEveryIdentityRow : OpenClaim := { program := "qxb6600435amods", sum := "d9b47e7c10938741581a85933b2c058c2ce77c3838c8bf4a148e6652db9894fe", func := "example.com/nymforge/nymforge/zzlaws_pkg_registry_b1.FnBootstrapDominatesEveryIdentity", spec := "fnBootstrapDominatesEveryIdentity", make := .lifted ["publicsums"], apart := false }
def FnBootstrapDominatesEveryIdentitySaid : Prop := fnBootstrapDominatesEveryIdentityRow.holds Trym.pinned (OpenSpec.ofChange fnBootstrapDominatesEveryIdentitySpec)

/-- ITS FALSE NEIGHBOUR: 'it returns false'. Refute it at one input. -/
def fnBootstrapDominatesEveryIdentityWrong : ChangeSpec := { name := "fnBootstrapDominatesEveryIdentity", fn := fun _ => fun
  | [d1, d2, d3] => { results := [.lit (.bool false)], args := [d1, d2, d3] }
  | _ => none }
def FnBootstrapDominatesEveryIdentityWrongFalsely : Prop := fnBootstrapDominatesEveryIdentityRow.holds Trym.pinned (OpenSpec.ofChange fnBootstrapDominatesEveryIdentityWrong)

end Rows
end Go.Proofs.Qxb6600435aMods
