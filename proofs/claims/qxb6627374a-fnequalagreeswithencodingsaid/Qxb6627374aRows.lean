/-
  No cell of these rows narrows 'for every input' (looked for: loops, veiled, ifaces, maps, wideKeys, modest, calm, conditions, laid).
  DERIVED. THE GIVEN ROWS OF THIS SEAT. 2 by the template 'for every input the law returns true; each argument reads behind the call as it read before'; 0 by the template 'total and deterministic' (their statements: Qxb6627374aTotals.lean).
  GIVEN WITH THE SEED: the statements are not yours to turn. If you find one false, say at which input.
  Laid BY PROGRAM, IN A SANDBOX (cutbox-rows.mjs): the forced cells as the released guide's own fill.sh prints them over the translation 62ab7510a89bf840… (all of the seat's roots in one cut). By AI agents, Wed Nov 11 2026. No macro, syntax, notation, axiom, sorry.
-/
import Derived.Test.Qxb6627374aChecked
import GoSem.Claim
import GoSem.ClaimJoined
import GoSem.ClaimMapViews
import Derived.JoinedTies
import Derived.KernelRfl
namespace Go.Proofs.Qxb6627374a
/- THE CELL 'sum', in the pinned program and in every row, IS THE sha256 OF THE DUMP (.gsa) THAT Qxb6627374aProg.lean LOADS. Nothing in Lean hashes anything: it is a label: what it is worth is what the hold of that sum in a sandbox is worth. -/
noncomputable def Try.pinned : Pinned := { name := "qxb6627374a", sum := "62ab7510a89bf8402b1bbe51d731358d459330fa96c0b21f8ed8b6b2855f2cf3", checked := Try.checked }
namespace Rows
def none {H : Type} : Left H := { results := [], args := [] }

/-- 'zzlaws_internal_cluster_b1.FnEqualAgreesWithEncoding': WHATEVER THE INPUT: true; the input reads as it did. -/
def fnEqualAgreesWithEncodingSpec : ChangeSpec := { name := "fnEqualAgreesWithEncoding", fn := fun _ => fun
  | [d1, d2, d3, d4] => { results := [.lit (.bool true)], args := [d1, d2, d3, d4] }
  | _ => none }
def fnEqualAgreesWithEncodingRow : OpenClaim := { program := "qxb6627374a", sum := "62ab7510a89bf8402b1bbe51d731358d459330fa96c0b21f8ed8b6b2855f2cf3", func := "example.com/cohort-scheduler/cohort-scheduler/zzlaws_internal_cluster_b1.FnEqualAgreesWithEncoding", spec := "fnEqualAgreesWithEncoding", apart := false }
def FnEqualAgreesWithEncodingSaid : Prop := fnEqualAgreesWithEncodingRow.holds Try.pinned (OpenSpec.ofChange fnEqualAgreesWithEncodingSpec)

/-- ITS FALSE NEIGHBOUR: 'it returns false'. Refute it at one input. -/
def fnEqualAgreesWithEncodingWrong : ChangeSpec := { name := "fnEqualAgreesWithEncoding", fn := fun _ => fun
  | [d1, d2, d3, d4] => { results := [.lit (.bool false)], args := [d1, d2, d3, d4] }
  | _ => none }
def FnEqualAgreesWithEncodingWrongFalsely : Prop := fnEqualAgreesWithEncodingRow.holds Try.pinned (OpenSpec.ofChange fnEqualAgreesWithEncodingWrong)

/-- 'zzlaws_internal_cluster_b1.FnEqualReflexiveSymmetricAndSensitive': WHATEVER THE INPUT: true; the input reads as it did. -/
def fnEqualReflexiveSymmetricAndSensitiveSpec : ChangeSpec := { name := "fnEqualReflexiveSymmetricAndSensitive", fn := fun _ => fun
  | [d1, d2, d3, d4, d5] => { results := [.lit (.bool true)], args := [d1, d2, d3, d4, d5] }
  | _ => none }
def fnEqualReflexiveSymmetricAndSensitiveRow : OpenClaim := { program := "qxb6627374a", sum := "62ab7510a89bf8402b1bbe51d731358d459330fa96c0b21f8ed8b6b2855f2cf3", func := "example.com/cohort-scheduler/cohort-scheduler/zzlaws_internal_cluster_b1.FnEqualReflexiveSymmetricAndSensitive", spec := "fnEqualReflexiveSymmetricAndSensitive", apart := false }
def FnEqualReflexiveSymmetricAndSensitiveSaid : Prop := fnEqualReflexiveSymmetricAndSensitiveRow.holds Try.pinned (OpenSpec.ofChange fnEqualReflexiveSymmetricAndSensitiveSpec)

/-- ITS FALSE NEIGHBOUR: 'it returns false'. Refute it at one input. -/
def fnEqualReflexiveSymmetricAndSensitiveWrong : ChangeSpec := { name := "fnEqualReflexiveSymmetricAndSensitive", fn := fun _ => fun
  | [d1, d2, d3, d4, d5] => { results := [.lit (.bool false)], args := [d1, d2, d3, d4, d5] }
  | _ => none }
def FnEqualReflexiveSymmetricAndSensitiveWrongFalsely : Prop := fnEqualReflexiveSymmetricAndSensitiveRow.holds Try.pinned (OpenSpec.ofChange fnEqualReflexiveSymmetricAndSensitiveWrong)

end Rows
end Go.Proofs.Qxb6627374a
