/-
  No cell of these rows narrows 'for every input' (looked for: loops, veiled, ifaces, maps, wideKeys, modest, calm, conditions, laid).
  DERIVED. THE GIVEN ROWS OF THIS SEAT. 2 by the template 'for every input the law returns true; each argument reads behind the call as it read before'; 0 by the template 'total and deterministic' (their statements: Qxb6627457aTotals.lean).
  GIVEN WITH THE SEED: the statements are not yours to turn. If you find one false, say at which input.
  Laid BY PROGRAM, IN A SANDBOX (cutbox-rows.mjs): the forced cells as the released guide's own fill.sh prints them over the translation ecd7589576210325… (all of the seat's roots in one cut). By AI agents, Wed Nov 11 2026. No macro, syntax, notation, axiom, sorry.
-/
import Derived.Test.Qxb6627457aChecked
import GoSem.Claim
import GoSem.ClaimJoined
import GoSem.ClaimMapViews
import Derived.JoinedTies
import Derived.KernelRfl
namespace Go.Proofs.Qxb6627457a
/- THE CELL 'sum', in the pinned program and in every row, IS THE sha256 OF THE DUMP (.gsa) THAT Qxb6627457aProg.lean LOADS. Nothing in Lean hashes anything: it is a label: what it is worth is what the hold of that sum in a sandbox is worth. -/
noncomputable def Try.pinned : Pinned := { name := "qxb6627457a", sum := "ecd75895762103252328681c49de0464893b9e4b04c809fe25a46dd0d15d54a7", checked := Try.checked }
namespace Rows
def none {H : Type} : Left H := { results := [], args := [] }

/-- 'zzlaws_pkg_hip_b1.FnSuitePreimage': WHATEVER THE INPUT: true; the input reads as it did. -/
def fnSuitePreimageSpec : ChangeSpec := { name := "fnSuitePreimage", fn := fun _ => fun
  | [d] => { results := [.lit (.bool true)], args := [d] }
  | _ => none }
def fnSuitePreimageRow : OpenClaim := { program := "qxb6627457a", sum := "ecd75895762103252328681c49de0464893b9e4b04c809fe25a46dd0d15d54a7", func := "example.com/keymoor/keymoor/zzlaws_pkg_hip_b1.FnSuitePreimage", spec := "fnSuitePreimage", apart := false }
def FnSuitePreimageSaid : Prop := fnSuitePreimageRow.holds Try.pinned (OpenSpec.ofChange fnSuitePreimageSpec)

/-- ITS FALSE NEIGHBOUR: 'it returns false'. Refute it at one input. -/
def fnSuitePreimageWrong : ChangeSpec := { name := "fnSuitePreimage", fn := fun _ => fun
  | [d] => { results := [.lit (.bool false)], args := [d] }
  | _ => none }
def FnSuitePreimageWrongFalsely : Prop := fnSuitePreimageRow.holds Try.pinned (OpenSpec.ofChange fnSuitePreimageWrong)

/-- 'zzlaws_pkg_hip_b1.FnSuiteIsRank': WHATEVER THE INPUT: true; the input reads as it did. -/
def fnSuiteIsRankSpec : ChangeSpec := { name := "fnSuiteIsRank", fn := fun _ => fun
  | [d1, d2] => { results := [.lit (.bool true)], args := [d1, d2] }
  | _ => none }
def fnSuiteIsRankRow : OpenClaim := { program := "qxb6627457a", sum := "ecd75895762103252328681c49de0464893b9e4b04c809fe25a46dd0d15d54a7", func := "example.com/keymoor/keymoor/zzlaws_pkg_hip_b1.FnSuiteIsRank", spec := "fnSuiteIsRank", apart := false }
def FnSuiteIsRankSaid : Prop := fnSuiteIsRankRow.holds Try.pinned (OpenSpec.ofChange fnSuiteIsRankSpec)

/-- ITS FALSE NEIGHBOUR: 'it returns false'. Refute it at one input. -/
def fnSuiteIsRankWrong : ChangeSpec := { name := "fnSuiteIsRank", fn := fun _ => fun
  | [d1, d2] => { results := [.lit (.bool false)], args := [d1, d2] }
  | _ => none }
def FnSuiteIsRankWrongFalsely : Prop := fnSuiteIsRankRow.holds Try.pinned (OpenSpec.ofChange fnSuiteIsRankWrong)

end Rows
end Go.Proofs.Qxb6627457a
