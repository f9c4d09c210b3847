/-
  No cell of these rows narrows 'for every input' (looked for: loops, veiled, ifaces, maps, wideKeys, modest, calm, conditions, laid).
  DERIVED. THE GIVEN ROWS OF THIS SEAT. 2 by the template 'for every input the law returns true; each argument reads behind the call as it read before'; 0 by the template 'total and deterministic' (their statements: YbulkabekTotals.lean).
  GIVEN WITH THE SEED: the statements are not yours to turn. If you find one false, say at which input.
  Laid BY PROGRAM, IN A SANDBOX (cutbox-rows.mjs): the forced cells as the released guide's own fill.sh prints them over the translation 5df578de98d22263… (all of the seat's roots in one cut). By AI agents, Wed Nov 11 2026. No macro, syntax, notation, axiom, sorry.
-/
import Derived.Test.YbulkabekChecked
import GoSem.Claim
import GoSem.ClaimJoined
import GoSem.ClaimMapViews
import Derived.JoinedTies
import Derived.KernelRfl
namespace Go.Proofs.Ybulkabek
/- THE CELL 'sum', in the pinned program and in every row, IS THE sha256 OF THE DUMP (.gsa) THAT YbulkabekProg.lean LOADS. Nothing in Lean hashes anything: it is a label: what it is worth is what the hold of that sum in a sandbox is worth. -/
noncomputable def Yba.pinned : Pinned := { name := "ybulkabek", sum := "5df578de98d2226372df9e0b31491a006c2b8b6e472a40c423cf663ff40742a4", checked := Yba.checked }
namespace Rows
def none {H : Type} : Left H := { results := [], args := [] }

/-- 'check.LawS1362CExact': WHATEVER THE INPUT: true; the input reads as it did. -/
def lawS1362CExactSpec : ChangeSpec := { name := "lawS1362CExact", fn := fun _ => fun
  | [d1, d2, d3, d4, d5, d6, d7, d8, d9, d10, d11] => { results := [.lit (.bool true)], args := [d1, d2, d3, d4, d5, d6, d7, d8, d9, d10, d11] }
  | _ => none }
def lawS1362CExactRow : OpenClaim := { program := "ybulkabek", sum := "5df578de98d2226372df9e0b31491a006c2b8b6e472a40c423cf663ff40742a4", func := "example.com/quorumproof/quorumproof/pkg/check.LawS1362CExact", spec := "lawS1362CExact", apart := false }
def LawS1362CExactSaid : Prop := lawS1362CExactRow.holds Yba.pinned (OpenSpec.ofChange lawS1362CExactSpec)

/-- ITS FALSE NEIGHBOUR: 'it returns false'. Refute it at one input. -/
def lawS1362CExactWrong : ChangeSpec := { name := "lawS1362CExact", fn := fun _ => fun
  | [d1, d2, d3, d4, d5, d6, d7, d8, d9, d10, d11] => { results := [.lit (.bool false)], args := [d1, d2, d3, d4, d5, d6, d7, d8, d9, d10, d11] }
  | _ => none }
def LawS1362CExactWrongFalsely : Prop := lawS1362CExactRow.holds Yba.pinned (OpenSpec.ofChange lawS1362CExactWrong)

/-- 'check.LawS1362CCommute': WHATEVER THE INPUT: true; the input reads as it did. -/
def lawS1362CCommuteSpec : ChangeSpec := { name := "lawS1362CCommute", fn := fun _ => fun
  | [d1, d2, d3, d4, d5, d6] => { results := [.lit (.bool true)], args := [d1, d2, d3, d4, d5, d6] }
  | _ => none }
def lawS1362CCommuteRow : OpenClaim := { program := "ybulkabek", sum := "5df578de98d2226372df9e0b31491a006c2b8b6e472a40c423cf663ff40742a4", func := "example.com/quorumproof/quorumproof/pkg/check.LawS1362CCommute", spec := "lawS1362CCommute", apart := false }
def LawS1362CCommuteSaid : Prop := lawS1362CCommuteRow.holds Yba.pinned (OpenSpec.ofChange lawS1362CCommuteSpec)

/-- ITS FALSE NEIGHBOUR: 'it returns false'. Refute it at one input. -/
def lawS1362CCommuteWrong : ChangeSpec := { name := "lawS1362CCommute", fn := fun _ => fun
  | [d1, d2, d3, d4, d5, d6] => { results := [.lit (.bool false)], args := [d1, d2, d3, d4, d5, d6] }
  | _ => none }
def LawS1362CCommuteWrongFalsely : Prop := lawS1362CCommuteRow.holds Yba.pinned (OpenSpec.ofChange lawS1362CCommuteWrong)

end Rows
end Go.Proofs.Ybulkabek
