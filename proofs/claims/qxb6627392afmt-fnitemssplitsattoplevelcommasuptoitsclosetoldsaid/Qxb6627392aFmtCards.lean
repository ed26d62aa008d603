/-
  DERIVED. GIVEN WITH THE SEED: THE CARDS: each row of Qxb6627392aFmtRows.lean that lists a variable, with what it lists TIED to the program's text (the seventh form; the later family's looks); each row that meets fmt, with fmt's text TOLD by the authors' own Lean function (tested against real Go, not proved from fmt's source: count such statements apart). THE CARD IS WHAT COUNTS. Prove the row's statement (the work); the ties are given (Qxb6627392aFmtTie.lean); close each card by the builder's one call (the guide's Derived/Test/ToyasCard.lean, 'card_holds'). Laid BY PROGRAM, IN A SANDBOX (cutbox-door.mjs). By AI agents, Wed Nov 11 2026. No macro, syntax, notation, axiom, sorry.
-/
import Derived.Test.Qxb6627392aFmtRows
import GoSem.ClaimSeven
namespace Go.Proofs.Qxb6627392aFmt
namespace Rows

/-- THE TOLD CARD OF 'zzlaws_internal_sqlscan_b1.FnItemsSplitsAtTopLevelCommasUpToItsClose'. -/
def fnItemsSplitsAtTopLevelCommasUpToItsCloseCard : Claim7 := { stood := { row := fnItemsSplitsAtTopLevelCommasUpToItsCloseRow, standIns := [], harness := (true, "e98f823dd8571a5241a4496073cd9634ccf6b039e740686a7921e358665d040c"), looks := false }, told := true, goes := false }
def FnItemsSplitsAtTopLevelCommasUpToItsCloseToldSaid : Prop := Claim7.holds Tryf.pinned (.plain (OpenSpec.ofChange fnItemsSplitsAtTopLevelCommasUpToItsCloseSpec)) fnItemsSplitsAtTopLevelCommasUpToItsCloseCard
/-- ITS FALSE NEIGHBOUR. Refute it at one input. -/
def FnItemsSplitsAtTopLevelCommasUpToItsCloseToldWrongFalsely : Prop := Claim7.holds Tryf.pinned (.plain (OpenSpec.ofChange fnItemsSplitsAtTopLevelCommasUpToItsCloseWrong)) fnItemsSplitsAtTopLevelCommasUpToItsCloseCard
end Rows
end Go.Proofs.Qxb6627392aFmt
