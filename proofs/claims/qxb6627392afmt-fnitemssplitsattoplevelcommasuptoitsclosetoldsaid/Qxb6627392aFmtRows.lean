/-
  No cell of these rows narrows 'for every input' (looked for: loops, veiled, ifaces, maps, wideKeys, modest, calm, conditions, laid).
  DERIVED. THE GIVEN ROWS OF THIS SEAT. 1 by the template 'for every input the law returns true; each argument reads behind the call as it read before'; 0 by the template 'total and deterministic' (their statements: Qxb6627392aFmtTotals.lean).
  GIVEN WITH THE SEED: the statements are not yours to turn. If you find one false, say at which input.
  Laid BY PROGRAM, IN A SANDBOX (cutbox-rows.mjs): the forced cells as the released guide's own fill.sh prints them over the translation ca384de3898e35df… (all of the seat's roots in one cut). By AI agents, Wed Nov 11 2026. No macro, syntax, notation, axiom, sorry.
-/
import Derived.Test.Qxb6627392aFmtChecked
import GoSem.Claim
import GoSem.ClaimJoined
import GoSem.ClaimMapViews
import Derived.JoinedTies
import Derived.KernelRfl
namespace Go.Proofs.Qxb6627392aFmt
/- THE CELL 'sum', in the pinned program and in every row, IS THE sha256 OF THE DUMP (.gsa) THAT Qxb6627392aFmtProg.lean LOADS. Nothing in Lean hashes anything: it is a label: what it is worth is what the hold of that sum in a sandbox is worth. -/
noncomputable def Tryf.pinned : Pinned := { name := "qxb6627392afmt", sum := "ca384de3898e35df5776914ae046f18d0b26a0e9e49eab888926d6fd5482a528", checked := Tryf.checked }
namespace Rows
def none {H : Type} : Left H := { results := [], args := [] }

/-- 'zzlaws_internal_sqlscan_b1.FnItemsSplitsAtTopLevelCommasUpToItsClose': WHATEVER THE INPUT: true; the input reads as it did. -/
def fnItemsSplitsAtTopLevelCommasUpToItsCloseSpec : ChangeSpec := { name := "fnItemsSplitsAtTopLevelCommasUpToItsClose", fn := fun _ => fun
  | [d1, d2] => { results := [.lit (.bool true)], args := [d1, d2] }
  | _ => none }
def fnItemsSplitsAtTopLevelCommasUpToItsCloseRow : OpenClaim := { program := "qxb6627392afmt", sum := "ca384de3898e35df5776914ae046f18d0b26a0e9e49eab888926d6fd5482a528", func := "example.com/ebbline/ebbline/zzlaws_internal_sqlscan_b1.FnItemsSplitsAtTopLevelCommasUpToItsClose", spec := "fnItemsSplitsAtTopLevelCommasUpToItsClose", stops := ["fmt.errorf"], inPlace := ["fmt.errorf"], apart := false }
/-- NO THEOREM (fmt's text is open here; it may be false): for the released tool's asking of the row's closed facts alone. THE STATEMENT IS 'FnItemsSplitsAtTopLevelCommasUpToItsCloseToldSaid' (Qxb6627392aFmtCards.lean). -/
def FnItemsSplitsAtTopLevelCommasUpToItsCloseFormAsk : Prop := fnItemsSplitsAtTopLevelCommasUpToItsCloseRow.holds Tryf.pinned (OpenSpec.ofChange fnItemsSplitsAtTopLevelCommasUpToItsCloseSpec)

/-- ITS FALSE NEIGHBOUR: 'it returns false'. Refute it at one input. -/
def fnItemsSplitsAtTopLevelCommasUpToItsCloseWrong : ChangeSpec := { name := "fnItemsSplitsAtTopLevelCommasUpToItsClose", fn := fun _ => fun
  | [d1, d2] => { results := [.lit (.bool false)], args := [d1, d2] }
  | _ => none }
def FnItemsSplitsAtTopLevelCommasUpToItsCloseWrongFormAsk : Prop := fnItemsSplitsAtTopLevelCommasUpToItsCloseRow.holds Tryf.pinned (OpenSpec.ofChange fnItemsSplitsAtTopLevelCommasUpToItsCloseWrong)

end Rows
end Go.Proofs.Qxb6627392aFmt
