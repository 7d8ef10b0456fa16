/-
  DERIVED. GIVEN WITH THE SEED: THE CARDS: each row of YbulkehjoFmtRows.lean that lists a variable, with what it lists TIED to the program's text (the seventh form; the later family's looks); each row that meets fmt, with fmt's text TOLD by the authors' own Lean function (tested against real Go, not proved from fmt's source: count such statements apart). THE CARD IS WHAT COUNTS. Prove the row's statement (the work); the ties are given (YbulkehjoFmtTie.lean); close each card by the builder's one call (the guide's Derived/Test/ToyasCard.lean, 'card_holds'). Laid BY PROGRAM, IN A SANDBOX (cutbox-door.mjs). By AI agents, Wed Nov 11 2026. No macro, syntax, notation, axiom, sorry.
-/
import Derived.Test.YbulkehjoFmtRows
import GoSem.ClaimSeven
namespace Go.Proofs.YbulkehjoFmt
namespace Rows

/-- THE TOLD CARD OF 'config.LawS6683BWhole'. -/
def lawS6683BWholeCard : Claim7 := { stood := { row := lawS6683BWholeRow, standIns := [], harness := (true, "6623cb415666755eb2db1db3337a85db2c61522c1801d1503197d11a5d12ff67"), looks := false }, told := true, goes := false }
def LawS6683BWholeToldSaid : Prop := Claim7.holds Ybaf.pinned (.plain (OpenSpec.ofChange lawS6683BWholeSpec)) lawS6683BWholeCard
/-- ITS FALSE NEIGHBOUR. Refute it at one input. -/
def LawS6683BWholeToldWrongFalsely : Prop := Claim7.holds Ybaf.pinned (.plain (OpenSpec.ofChange lawS6683BWholeWrong)) lawS6683BWholeCard
end Rows
end Go.Proofs.YbulkehjoFmt
