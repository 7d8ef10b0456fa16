/-
  No cell of these rows narrows 'for every input' (looked for: loops, veiled, ifaces, maps, wideKeys, modest, calm, conditions, laid).
  DERIVED. THE GIVEN ROWS OF THIS SEAT. 4 by the template 'for every input the law returns true; each argument reads behind the call as it read before'; 0 by the template 'total and deterministic' (their statements: YbulkehgiTotals.lean).
  GIVEN WITH THE SEED: the statements are not yours to turn. If you find one false, say at which input.
  Laid BY PROGRAM, IN A SANDBOX (cutbox-rows.mjs): the forced cells as the released guide's own fill.sh prints them over the translation c61867ebe470c403… (all of the seat's roots in one cut). By AI agents, Wed Nov 11 2026. No macro, syntax, notation, axiom, sorry.
-/
import Derived.Test.YbulkehgiChecked
import GoSem.Claim
import GoSem.ClaimJoined
import GoSem.ClaimMapViews
import Derived.JoinedTies
import Derived.KernelRfl
namespace Go.Proofs.Ybulkehgi
/- THE CELL 'sum', in the pinned program and in every row, IS THE sha256 OF THE DUMP (.gsa) THAT YbulkehgiProg.lean LOADS. Nothing in Lean hashes anything: it is a label: what it is worth is what the hold of that sum in a sandbox is worth. -/
noncomputable def Yba.pinned : Pinned := { name := "ybulkehgi", sum := "c61867ebe470c40362f8c757d54d42b153414229a5dbb1484ca43510f948edfb", checked := Yba.checked }
namespace Rows
def none {H : Type} : Left H := { results := [], args := [] }

/-- 'tracewire.LawS6677AWhole': WHATEVER THE INPUT: true; the input reads as it did. -/
def lawS6677AWholeSpec : ChangeSpec := { name := "lawS6677AWhole", fn := fun _ => fun
  | [d1, d2, d3, d4] => { results := [.lit (.bool true)], args := [d1, d2, d3, d4] }
  | _ => none }
def lawS6677AWholeRow : OpenClaim := { program := "ybulkehgi", sum := "c61867ebe470c40362f8c757d54d42b153414229a5dbb1484ca43510f948edfb", func := "example.com/tracewire/tracewire.LawS6677AWhole", spec := "lawS6677AWhole", unfollowed := true, recurses := true, apart := false }
def LawS6677AWholeSaid : Prop := lawS6677AWholeRow.holds Yba.pinned (OpenSpec.ofChange lawS6677AWholeSpec)

/-- ITS FALSE NEIGHBOUR: 'it returns false'. Refute it at one input. -/
def lawS6677AWholeWrong : ChangeSpec := { name := "lawS6677AWhole", fn := fun _ => fun
  | [d1, d2, d3, d4] => { results := [.lit (.bool false)], args := [d1, d2, d3, d4] }
  | _ => none }
def LawS6677AWholeWrongFalsely : Prop := lawS6677AWholeRow.holds Yba.pinned (OpenSpec.ofChange lawS6677AWholeWrong)

/-- 'tracewire.LawS6677BWhole': WHATEVER THE INPUT: true; the input reads as it did. -/
def lawS6677BWholeSpec : ChangeSpec := { name := "lawS6677BWhole", fn := fun _ => fun
  | [d] => { results := [.lit (.bool true)], args := [d] }
  | _ => none }
def lawS6677BWholeRow : OpenClaim := { program := "ybulkehgi", sum := "c61867ebe470c40362f8c757d54d42b153414229a5dbb1484ca43510f948edfb", func := "example.com/tracewire/tracewire.LawS6677BWhole", spec := "lawS6677BWhole", unfollowed := true, recurses := true, apart := false }
def LawS6677BWholeSaid : Prop := lawS6677BWholeRow.holds Yba.pinned (OpenSpec.ofChange lawS6677BWholeSpec)

/-- ITS FALSE NEIGHBOUR: 'it returns false'. Refute it at one input. -/
def lawS6677BWholeWrong : ChangeSpec := { name := "lawS6677BWhole", fn := fun _ => fun
  | [d] => { results := [.lit (.bool false)], args := [d] }
  | _ => none }
def LawS6677BWholeWrongFalsely : Prop := lawS6677BWholeRow.holds Yba.pinned (OpenSpec.ofChange lawS6677BWholeWrong)

/-- 'tracewire.LawS6677CWhole': WHATEVER THE INPUT: true; the input reads as it did. -/
def lawS6677CWholeSpec : ChangeSpec := { name := "lawS6677CWhole", fn := fun _ => fun
  | [d] => { results := [.lit (.bool true)], args := [d] }
  | _ => none }
def lawS6677CWholeRow : OpenClaim := { program := "ybulkehgi", sum := "c61867ebe470c40362f8c757d54d42b153414229a5dbb1484ca43510f948edfb", func := "example.com/tracewire/tracewire.LawS6677CWhole", spec := "lawS6677CWhole", apart := false }
def LawS6677CWholeSaid : Prop := lawS6677CWholeRow.holds Yba.pinned (OpenSpec.ofChange lawS6677CWholeSpec)

/-- ITS FALSE NEIGHBOUR: 'it returns false'. Refute it at one input. -/
def lawS6677CWholeWrong : ChangeSpec := { name := "lawS6677CWhole", fn := fun _ => fun
  | [d] => { results := [.lit (.bool false)], args := [d] }
  | _ => none }
def LawS6677CWholeWrongFalsely : Prop := lawS6677CWholeRow.holds Yba.pinned (OpenSpec.ofChange lawS6677CWholeWrong)

/-- 'tracewire.LawS6677CBuilt': WHATEVER THE INPUT: true; the input reads as it did. -/
def lawS6677CBuiltSpec : ChangeSpec := { name := "lawS6677CBuilt", fn := fun _ => fun
  | [d1, d2, d3] => { results := [.lit (.bool true)], args := [d1, d2, d3] }
  | _ => none }
def lawS6677CBuiltRow : OpenClaim := { program := "ybulkehgi", sum := "c61867ebe470c40362f8c757d54d42b153414229a5dbb1484ca43510f948edfb", func := "example.com/tracewire/tracewire.LawS6677CBuilt", spec := "lawS6677CBuilt", apart := false }
def LawS6677CBuiltSaid : Prop := lawS6677CBuiltRow.holds Yba.pinned (OpenSpec.ofChange lawS6677CBuiltSpec)

/-- ITS FALSE NEIGHBOUR: 'it returns false'. Refute it at one input. -/
def lawS6677CBuiltWrong : ChangeSpec := { name := "lawS6677CBuilt", fn := fun _ => fun
  | [d1, d2, d3] => { results := [.lit (.bool false)], args := [d1, d2, d3] }
  | _ => none }
def LawS6677CBuiltWrongFalsely : Prop := lawS6677CBuiltRow.holds Yba.pinned (OpenSpec.ofChange lawS6677CBuiltWrong)

end Rows
end Go.Proofs.Ybulkehgi
