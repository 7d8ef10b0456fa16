/-
  No cell of these rows narrows 'for every input' (looked for: loops, veiled, ifaces, maps, wideKeys, modest, calm, conditions, laid).
  DERIVED. THE GIVEN ROWS OF THIS SEAT. 1 by the template 'for every input the law returns true; each argument reads behind the call as it read before'; 0 by the template 'total and deterministic' (their statements: YbulkehhyTotals.lean).
  GIVEN WITH THE SEED: the statements are not yours to turn. If you find one false, say at which input.
  Laid BY PROGRAM, IN A SANDBOX (cutbox-rows.mjs): the forced cells as the released guide's own fill.sh prints them over the translation 924b63e949ec3fcb… (all of the seat's roots in one cut). By AI agents, Wed Nov 11 2026. No macro, syntax, notation, axiom, sorry.
-/
import Derived.Test.YbulkehhyChecked
import GoSem.Claim
import GoSem.ClaimJoined
import GoSem.ClaimMapViews
import Derived.JoinedTies
import Derived.KernelRfl
namespace Go.Proofs.Ybulkehhy
/- THE CELL 'sum', in the pinned program and in every row, IS THE sha256 OF THE DUMP (.gsa) THAT YbulkehhyProg.lean LOADS. Nothing in Lean hashes anything: it is a label: what it is worth is what the hold of that sum in a sandbox is worth. -/
noncomputable def Yba.pinned : Pinned := { name := "ybulkehhy", sum := "924b63e949ec3fcb2b5c449aaf9636faa91e5bd99a874a04f009d1fba617a0a9", checked := Yba.checked }
namespace Rows
def none {H : Type} : Left H := { results := [], args := [] }

/-- 'commit.LawS6680CWhole': WHATEVER THE INPUT: true; the input reads as it did. -/
def lawS6680CWholeSpec : ChangeSpec := { name := "lawS6680CWhole", fn := fun _ => fun
  | [d1, d2, d3] => { results := [.lit (.bool true)], args := [d1, d2, d3] }
  | _ => none }
def lawS6680CWholeRow : OpenClaim := { program := "ybulkehhy", sum := "924b63e949ec3fcb2b5c449aaf9636faa91e5bd99a874a04f009d1fba617a0a9", func := "example.com/unanim/unanim/internal/commit.LawS6680CWhole", spec := "lawS6680CWhole", apart := false }
def LawS6680CWholeSaid : Prop := lawS6680CWholeRow.holds Yba.pinned (OpenSpec.ofChange lawS6680CWholeSpec)

/-- ITS FALSE NEIGHBOUR: 'it returns false'. Refute it at one input. -/
def lawS6680CWholeWrong : ChangeSpec := { name := "lawS6680CWhole", fn := fun _ => fun
  | [d1, d2, d3] => { results := [.lit (.bool false)], args := [d1, d2, d3] }
  | _ => none }
def LawS6680CWholeWrongFalsely : Prop := lawS6680CWholeRow.holds Yba.pinned (OpenSpec.ofChange lawS6680CWholeWrong)

end Rows
end Go.Proofs.Ybulkehhy
