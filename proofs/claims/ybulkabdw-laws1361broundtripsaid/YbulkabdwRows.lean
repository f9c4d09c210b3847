/-
  No cell of these rows narrows 'for every input' (looked for: loops, veiled, ifaces, maps, wideKeys, modest, calm, conditions, laid).
  DERIVED. THE GIVEN ROWS OF THIS SEAT. 2 by the template 'for every input the law returns true; each argument reads behind the call as it read before'; 0 by the template 'total and deterministic' (their statements: YbulkabdwTotals.lean).
  GIVEN WITH THE SEED: the statements are not yours to turn. If you find one false, say at which input.
  Laid BY PROGRAM, IN A SANDBOX (cutbox-rows.mjs): the forced cells as the released guide's own fill.sh prints them over the translation d1d44af52a49db1b… (all of the seat's roots in one cut). By AI agents, Wed Nov 11 2026. No macro, syntax, notation, axiom, sorry.
-/
import Derived.Test.YbulkabdwChecked
import GoSem.Claim
import GoSem.ClaimJoined
import GoSem.ClaimMapViews
import Derived.JoinedTies
import Derived.KernelRfl
namespace Go.Proofs.Ybulkabdw
/- THE CELL 'sum', in the pinned program and in every row, IS THE sha256 OF THE DUMP (.gsa) THAT YbulkabdwProg.lean LOADS. Nothing in Lean hashes anything: it is a label: what it is worth is what the hold of that sum in a sandbox is worth. -/
noncomputable def Yba.pinned : Pinned := { name := "ybulkabdw", sum := "d1d44af52a49db1bc52895ec6f77ea22119b94fe76eea3d52360abd841d324ac", checked := Yba.checked }
namespace Rows
def none {H : Type} : Left H := { results := [], args := [] }

/-- 'diameter.LawS1361BRoundTrip': WHATEVER THE INPUT: true; the input reads as it did. -/
def lawS1361BRoundTripSpec : ChangeSpec := { name := "lawS1361BRoundTrip", fn := fun _ => fun
  | [d1, d2] => { results := [.lit (.bool true)], args := [d1, d2] }
  | _ => none }
def lawS1361BRoundTripRow : OpenClaim := { program := "ybulkabdw", sum := "d1d44af52a49db1bc52895ec6f77ea22119b94fe76eea3d52360abd841d324ac", func := "example.com/anchorhold/anchorhold/internal/diameter.LawS1361BRoundTrip", spec := "lawS1361BRoundTrip", named := ["encoding/binary.BigEndian"], apart := false }
def LawS1361BRoundTripSaid : Prop := lawS1361BRoundTripRow.holds Yba.pinned (OpenSpec.ofChange lawS1361BRoundTripSpec)

/-- ITS FALSE NEIGHBOUR: 'it returns false'. Refute it at one input. -/
def lawS1361BRoundTripWrong : ChangeSpec := { name := "lawS1361BRoundTrip", fn := fun _ => fun
  | [d1, d2] => { results := [.lit (.bool false)], args := [d1, d2] }
  | _ => none }
def LawS1361BRoundTripWrongFalsely : Prop := lawS1361BRoundTripRow.holds Yba.pinned (OpenSpec.ofChange lawS1361BRoundTripWrong)

/-- 'diameter.LawS1361BRaw': WHATEVER THE INPUT: true; the input reads as it did. -/
def lawS1361BRawSpec : ChangeSpec := { name := "lawS1361BRaw", fn := fun _ => fun
  | [d1, d2] => { results := [.lit (.bool true)], args := [d1, d2] }
  | _ => none }
def lawS1361BRawRow : OpenClaim := { program := "ybulkabdw", sum := "d1d44af52a49db1bc52895ec6f77ea22119b94fe76eea3d52360abd841d324ac", func := "example.com/anchorhold/anchorhold/internal/diameter.LawS1361BRaw", spec := "lawS1361BRaw", named := ["encoding/binary.BigEndian"], apart := false }
def LawS1361BRawSaid : Prop := lawS1361BRawRow.holds Yba.pinned (OpenSpec.ofChange lawS1361BRawSpec)

/-- ITS FALSE NEIGHBOUR: 'it returns false'. Refute it at one input. -/
def lawS1361BRawWrong : ChangeSpec := { name := "lawS1361BRaw", fn := fun _ => fun
  | [d1, d2] => { results := [.lit (.bool false)], args := [d1, d2] }
  | _ => none }
def LawS1361BRawWrongFalsely : Prop := lawS1361BRawRow.holds Yba.pinned (OpenSpec.ofChange lawS1361BRawWrong)

end Rows
end Go.Proofs.Ybulkabdw
