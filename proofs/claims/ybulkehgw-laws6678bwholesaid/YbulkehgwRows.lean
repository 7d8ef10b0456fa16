/-
  No cell of these rows narrows 'for every input' (looked for: loops, veiled, ifaces, maps, wideKeys, modest, calm, conditions, laid).
  DERIVED. THE GIVEN ROWS OF THIS SEAT. 2 by the template 'for every input the law returns true; each argument reads behind the call as it read before'; 0 by the template 'total and deterministic' (their statements: YbulkehgwTotals.lean).
  GIVEN WITH THE SEED: the statements are not yours to turn. If you find one false, say at which input.
  Laid BY PROGRAM, IN A SANDBOX (cutbox-rows.mjs): the forced cells as the released guide's own fill.sh prints them over the translation 11c5f7b87264f861… (all of the seat's roots in one cut). By AI agents, Wed Nov 11 2026. No macro, syntax, notation, axiom, sorry.
-/
import Derived.Test.YbulkehgwChecked
import GoSem.Claim
import GoSem.ClaimJoined
import GoSem.ClaimMapViews
import Derived.JoinedTies
import Derived.KernelRfl
namespace Go.Proofs.Ybulkehgw
/- THE CELL 'sum', in the pinned program and in every row, IS THE sha256 OF THE DUMP (.gsa) THAT YbulkehgwProg.lean LOADS. Nothing in Lean hashes anything: it is a label: what it is worth is what the hold of that sum in a sandbox is worth. -/
noncomputable def Yba.pinned : Pinned := { name := "ybulkehgw", sum := "11c5f7b87264f861c25398ee418fd701c6182c9c2d4d1df1d6f77f5eca846878", checked := Yba.checked }
namespace Rows
def none {H : Type} : Left H := { results := [], args := [] }

/-- 'bell-rock.LawS6678BWhole': WHATEVER THE INPUT: true; the input reads as it did. -/
def lawS6678BWholeSpec : ChangeSpec := { name := "lawS6678BWhole", fn := fun _ => fun
  | [d1, d2, d3, d4, d5, d6, d7] => { results := [.lit (.bool true)], args := [d1, d2, d3, d4, d5, d6, d7] }
  | _ => none }
def lawS6678BWholeRow : OpenClaim := { program := "ybulkehgw", sum := "11c5f7b87264f861c25398ee418fd701c6182c9c2d4d1df1d6f77f5eca846878", func := "example.com/bell-rock/bell-rock.LawS6678BWhole", spec := "lawS6678BWhole", inPlace := ["internal/bytealg.Compare"], unfollowed := true, recurses := true, apart := false }
def LawS6678BWholeSaid : Prop := lawS6678BWholeRow.holds Yba.pinned (OpenSpec.ofChange lawS6678BWholeSpec)

/-- ITS FALSE NEIGHBOUR: 'it returns false'. Refute it at one input. -/
def lawS6678BWholeWrong : ChangeSpec := { name := "lawS6678BWhole", fn := fun _ => fun
  | [d1, d2, d3, d4, d5, d6, d7] => { results := [.lit (.bool false)], args := [d1, d2, d3, d4, d5, d6, d7] }
  | _ => none }
def LawS6678BWholeWrongFalsely : Prop := lawS6678BWholeRow.holds Yba.pinned (OpenSpec.ofChange lawS6678BWholeWrong)

/-- 'bell-rock.LawS6678CWhole': WHATEVER THE INPUT: true; the input reads as it did. -/
def lawS6678CWholeSpec : ChangeSpec := { name := "lawS6678CWhole", fn := fun _ => fun
  | [d1, d2] => { results := [.lit (.bool true)], args := [d1, d2] }
  | _ => none }
def lawS6678CWholeRow : OpenClaim := { program := "ybulkehgw", sum := "11c5f7b87264f861c25398ee418fd701c6182c9c2d4d1df1d6f77f5eca846878", func := "example.com/bell-rock/bell-rock.LawS6678CWhole", spec := "lawS6678CWhole", apart := false }
def LawS6678CWholeSaid : Prop := lawS6678CWholeRow.holds Yba.pinned (OpenSpec.ofChange lawS6678CWholeSpec)

/-- ITS FALSE NEIGHBOUR: 'it returns false'. Refute it at one input. -/
def lawS6678CWholeWrong : ChangeSpec := { name := "lawS6678CWhole", fn := fun _ => fun
  | [d1, d2] => { results := [.lit (.bool false)], args := [d1, d2] }
  | _ => none }
def LawS6678CWholeWrongFalsely : Prop := lawS6678CWholeRow.holds Yba.pinned (OpenSpec.ofChange lawS6678CWholeWrong)

end Rows
end Go.Proofs.Ybulkehgw
