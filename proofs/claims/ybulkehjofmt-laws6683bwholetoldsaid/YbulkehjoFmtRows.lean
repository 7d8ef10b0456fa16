/-
  No cell of these rows narrows 'for every input' (looked for: loops, veiled, ifaces, maps, wideKeys, modest, calm, conditions, laid).
  DERIVED. THE GIVEN ROWS OF THIS SEAT. 1 by the template 'for every input the law returns true; each argument reads behind the call as it read before'; 0 by the template 'total and deterministic' (their statements: YbulkehjoFmtTotals.lean).
  GIVEN WITH THE SEED: the statements are not yours to turn. If you find one false, say at which input.
  Laid BY PROGRAM, IN A SANDBOX (cutbox-rows.mjs): the forced cells as the released guide's own fill.sh prints them over the translation 0b6bfb24e36844ce… (all of the seat's roots in one cut). By AI agents, Wed Nov 11 2026. No macro, syntax, notation, axiom, sorry.
-/
import Derived.Test.YbulkehjoFmtChecked
import GoSem.Claim
import GoSem.ClaimJoined
import GoSem.ClaimMapViews
import Derived.JoinedTies
import Derived.KernelRfl
namespace Go.Proofs.YbulkehjoFmt
/- THE CELL 'sum', in the pinned program and in every row, IS THE sha256 OF THE DUMP (.gsa) THAT YbulkehjoFmtProg.lean LOADS. Nothing in Lean hashes anything: it is a label: what it is worth is what the hold of that sum in a sandbox is worth. -/
noncomputable def Ybaf.pinned : Pinned := { name := "ybulkehjofmt", sum := "0b6bfb24e36844ce259bddc18d3672510d1974656fe941c7c4526cbb72186a63", checked := Ybaf.checked }
namespace Rows
def none {H : Type} : Left H := { results := [], args := [] }

/-- 'config.LawS6683BWhole': WHATEVER THE INPUT: true; the input reads as it did. -/
def lawS6683BWholeSpec : ChangeSpec := { name := "lawS6683BWhole", fn := fun _ => fun
  | [d1, d2, d3, d4, d5, d6, d7] => { results := [.lit (.bool true)], args := [d1, d2, d3, d4, d5, d6, d7] }
  | _ => none }
def lawS6683BWholeRow : OpenClaim := { program := "ybulkehjofmt", sum := "0b6bfb24e36844ce259bddc18d3672510d1974656fe941c7c4526cbb72186a63", func := "example.com/linnet/linnet/internal/config.LawS6683BWhole", spec := "lawS6683BWhole", stops := ["fmt.errorf"], inPlace := ["fmt.errorf"], plainKeys := false, apart := false }
/-- NO THEOREM (fmt's text is open here; it may be false): for the released tool's asking of the row's closed facts alone. THE STATEMENT IS 'LawS6683BWholeToldSaid' (YbulkehjoFmtCards.lean). -/
def LawS6683BWholeFormAsk : Prop := lawS6683BWholeRow.holds Ybaf.pinned (OpenSpec.ofChange lawS6683BWholeSpec)

/-- ITS FALSE NEIGHBOUR: 'it returns false'. Refute it at one input. -/
def lawS6683BWholeWrong : ChangeSpec := { name := "lawS6683BWhole", fn := fun _ => fun
  | [d1, d2, d3, d4, d5, d6, d7] => { results := [.lit (.bool false)], args := [d1, d2, d3, d4, d5, d6, d7] }
  | _ => none }
def LawS6683BWholeWrongFormAsk : Prop := lawS6683BWholeRow.holds Ybaf.pinned (OpenSpec.ofChange lawS6683BWholeWrong)

end Rows
end Go.Proofs.YbulkehjoFmt
