/-
  No cell of these rows narrows 'for every input' (looked for: loops, veiled, ifaces, maps, wideKeys, modest, calm, conditions, laid).
  DERIVED. THE GIVEN ROWS OF THIS SEAT. 2 by the template 'for every input the law returns true; each argument reads behind the call as it read before'; 0 by the template 'total and deterministic' (their statements: YbulkabocTotals.lean).
  GIVEN WITH THE SEED: the statements are not yours to turn. If you find one false, say at which input.
  Laid BY PROGRAM, IN A SANDBOX (cutbox-rows.mjs): the forced cells as the released guide's own fill.sh prints them over the translation bbc2ac038aa95ea2… (all of the seat's roots in one cut). By AI agents, Wed Nov 11 2026. No macro, syntax, notation, axiom, sorry.
-/
import Derived.Test.YbulkabocChecked
import GoSem.Claim
import GoSem.ClaimJoined
import GoSem.ClaimMapViews
import Derived.JoinedTies
import Derived.KernelRfl
namespace Go.Proofs.Ybulkaboc
/- THE CELL 'sum', in the pinned program and in every row, IS THE sha256 OF THE DUMP (.gsa) THAT YbulkabocProg.lean LOADS. Nothing in Lean hashes anything: it is a label: what it is worth is what the hold of that sum in a sandbox is worth. -/
noncomputable def Yba.pinned : Pinned := { name := "ybulkaboc", sum := "bbc2ac038aa95ea2cb104d59dde11ca7ad0220c34dd06b574ece415a5a0f0db6", checked := Yba.checked }
namespace Rows
def none {H : Type} : Left H := { results := [], args := [] }

/-- 'broker.LawS1380ATable': WHATEVER THE INPUT: true; the input reads as it did. -/
def lawS1380ATableSpec : ChangeSpec := { name := "lawS1380ATable", fn := fun _ => fun
  | [d] => { results := [.lit (.bool true)], args := [d] }
  | _ => none }
def lawS1380ATableRow : OpenClaim := { program := "ybulkaboc", sum := "bbc2ac038aa95ea2cb104d59dde11ca7ad0220c34dd06b574ece415a5a0f0db6", func := "example.com/ferryline/ferryline/internal/broker.LawS1380ATable", spec := "lawS1380ATable", apart := false }
def LawS1380ATableSaid : Prop := lawS1380ATableRow.holds Yba.pinned (OpenSpec.ofChange lawS1380ATableSpec)

/-- ITS FALSE NEIGHBOUR: 'it returns false'. Refute it at one input. -/
def lawS1380ATableWrong : ChangeSpec := { name := "lawS1380ATable", fn := fun _ => fun
  | [d] => { results := [.lit (.bool false)], args := [d] }
  | _ => none }
def LawS1380ATableWrongFalsely : Prop := lawS1380ATableRow.holds Yba.pinned (OpenSpec.ofChange lawS1380ATableWrong)

/-- 'broker.LawS1380AFollow': WHATEVER THE INPUT: true; the input reads as it did. -/
def lawS1380AFollowSpec : ChangeSpec := { name := "lawS1380AFollow", fn := fun _ => fun
  | [d] => { results := [.lit (.bool true)], args := [d] }
  | _ => none }
def lawS1380AFollowRow : OpenClaim := { program := "ybulkaboc", sum := "bbc2ac038aa95ea2cb104d59dde11ca7ad0220c34dd06b574ece415a5a0f0db6", func := "example.com/ferryline/ferryline/internal/broker.LawS1380AFollow", spec := "lawS1380AFollow", unfollowed := true, recurses := true, apart := false }
def LawS1380AFollowSaid : Prop := lawS1380AFollowRow.holds Yba.pinned (OpenSpec.ofChange lawS1380AFollowSpec)

/-- ITS FALSE NEIGHBOUR: 'it returns false'. Refute it at one input. -/
def lawS1380AFollowWrong : ChangeSpec := { name := "lawS1380AFollow", fn := fun _ => fun
  | [d] => { results := [.lit (.bool false)], args := [d] }
  | _ => none }
def LawS1380AFollowWrongFalsely : Prop := lawS1380AFollowRow.holds Yba.pinned (OpenSpec.ofChange lawS1380AFollowWrong)

end Rows
end Go.Proofs.Ybulkaboc
