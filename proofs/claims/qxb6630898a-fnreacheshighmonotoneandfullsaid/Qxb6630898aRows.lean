/-
  No cell of these rows narrows 'for every input' (looked for: loops, veiled, ifaces, maps, wideKeys, modest, calm, conditions, laid).
  DERIVED. THE GIVEN ROWS OF THIS SEAT. 2 by the template 'for every input the law returns true; each argument reads behind the call as it read before'; 0 by the template 'total and deterministic' (their statements: Qxb6630898aTotals.lean).
  GIVEN WITH THE SEED: the statements are not yours to turn. If you find one false, say at which input.
  Laid BY PROGRAM, IN A SANDBOX (cutbox-rows.mjs): the forced cells as the released guide's own fill.sh prints them over the translation 2b6a504f301540fd… (all of the seat's roots in one cut). By AI agents, Wed Nov 11 2026. No macro, syntax, notation, axiom, sorry.
-/
import Derived.Test.Qxb6630898aChecked
import GoSem.Claim
import GoSem.ClaimJoined
import GoSem.ClaimMapViews
import Derived.JoinedTies
import Derived.KernelRfl
namespace Go.Proofs.Qxb6630898a
/- THE CELL 'sum', in the pinned program and in every row, IS THE sha256 OF THE DUMP (.gsa) THAT Qxb6630898aProg.lean LOADS. Nothing in Lean hashes anything: it is a label: what it is worth is what the hold of that sum in a sandbox is worth. -/
noncomputable def Try.pinned : Pinned := { name := "qxb6630898a", sum := "2b6a504f301540fd6fcdf48c20b4ae77b3e36b3198dcf3cf00d93a72bcc9862d", checked := Try.checked }
namespace Rows
def none {H : Type} : Left H := { results := [], args := [] }

/-- 'zzlaws_policy_b1.FnReachesHighIsLeastThreshold': WHATEVER THE INPUT: true; the input reads as it did. -/
def fnReachesHighIsLeastThresholdSpec : ChangeSpec := { name := "fnReachesHighIsLeastThreshold", fn := fun _ => fun
  | [d1, d2, d3, d4] => { results := [.lit (.bool true)], args := [d1, d2, d3, d4] }
  | _ => none }
def fnReachesHighIsLeastThresholdRow : OpenClaim := { program := "qxb6630898a", sum := "2b6a504f301540fd6fcdf48c20b4ae77b3e36b3198dcf3cf00d93a72bcc9862d", func := "example.com/layersweep/layersweep/zzlaws_policy_b1.FnReachesHighIsLeastThreshold", spec := "fnReachesHighIsLeastThreshold", apart := false }
def FnReachesHighIsLeastThresholdSaid : Prop := fnReachesHighIsLeastThresholdRow.holds Try.pinned (OpenSpec.ofChange fnReachesHighIsLeastThresholdSpec)

/-- ITS FALSE NEIGHBOUR: 'it returns false'. Refute it at one input. -/
def fnReachesHighIsLeastThresholdWrong : ChangeSpec := { name := "fnReachesHighIsLeastThreshold", fn := fun _ => fun
  | [d1, d2, d3, d4] => { results := [.lit (.bool false)], args := [d1, d2, d3, d4] }
  | _ => none }
def FnReachesHighIsLeastThresholdWrongFalsely : Prop := fnReachesHighIsLeastThresholdRow.holds Try.pinned (OpenSpec.ofChange fnReachesHighIsLeastThresholdWrong)

/-- 'zzlaws_policy_b1.FnReachesHighMonotoneAndFull': WHATEVER THE INPUT: true; the input reads as it did. -/
def fnReachesHighMonotoneAndFullSpec : ChangeSpec := { name := "fnReachesHighMonotoneAndFull", fn := fun _ => fun
  | [d1, d2, d3, d4, d5, d6] => { results := [.lit (.bool true)], args := [d1, d2, d3, d4, d5, d6] }
  | _ => none }
def fnReachesHighMonotoneAndFullRow : OpenClaim := { program := "qxb6630898a", sum := "2b6a504f301540fd6fcdf48c20b4ae77b3e36b3198dcf3cf00d93a72bcc9862d", func := "example.com/layersweep/layersweep/zzlaws_policy_b1.FnReachesHighMonotoneAndFull", spec := "fnReachesHighMonotoneAndFull", apart := false }
def FnReachesHighMonotoneAndFullSaid : Prop := fnReachesHighMonotoneAndFullRow.holds Try.pinned (OpenSpec.ofChange fnReachesHighMonotoneAndFullSpec)

/-- ITS FALSE NEIGHBOUR: 'it returns false'. Refute it at one input. -/
def fnReachesHighMonotoneAndFullWrong : ChangeSpec := { name := "fnReachesHighMonotoneAndFull", fn := fun _ => fun
  | [d1, d2, d3, d4, d5, d6] => { results := [.lit (.bool false)], args := [d1, d2, d3, d4, d5, d6] }
  | _ => none }
def FnReachesHighMonotoneAndFullWrongFalsely : Prop := fnReachesHighMonotoneAndFullRow.holds Try.pinned (OpenSpec.ofChange fnReachesHighMonotoneAndFullWrong)

end Rows
end Go.Proofs.Qxb6630898a
