/-
  NARROWER THAN 'FOR EVERY INPUT', by the rows' own cells (each row's printed sentence says how): LawS1362AKnown: laid · LawS1362AAny: laid · LawS1362AMangled: laid.
  DERIVED. THE GIVEN ROWS OF THIS SEAT. 3 by the template 'for every input the law returns true; each argument reads behind the call as it read before'; 0 by the template 'total and deterministic' (their statements: YbulkabekFmtTotals.lean).
  GIVEN WITH THE SEED: the statements are not yours to turn. If you find one false, say at which input.
  Laid BY PROGRAM, IN A SANDBOX (cutbox-rows.mjs): the forced cells as the released guide's own fill.sh prints them over the translation ecb3862d171cb8a5… (all of the seat's roots in one cut). By AI agents, Wed Nov 11 2026. No macro, syntax, notation, axiom, sorry.
-/
import Derived.Test.YbulkabekFmtChecked
import GoSem.Claim
import GoSem.ClaimJoined
import GoSem.ClaimMapViews
import Derived.JoinedTies
import Derived.KernelRfl
namespace Go.Proofs.YbulkabekFmt
/- THE CELL 'sum', in the pinned program and in every row, IS THE sha256 OF THE DUMP (.gsa) THAT YbulkabekFmtProg.lean LOADS. Nothing in Lean hashes anything: it is a label: what it is worth is what the hold of that sum in a sandbox is worth. -/
noncomputable def Ybaf.pinned : Pinned := { name := "ybulkabekfmt", sum := "ecb3862d171cb8a50e48d163905587b5e61b788a5d1ad9d1a53edcd34f92fc38", checked := Ybaf.checked }
namespace Rows
def none {H : Type} : Left H := { results := [], args := [] }

/- WHAT THE LISTED PACKAGE-LEVEL VARIABLES READ AS WHEN THE CALL BEGINS. Each datum BY PROGRAM (the guide's laid-datum.mjs) off the statement by which the dump's own 'gosem.cut.vars' lays the variable. In a bare row this is a premise. The card (YbulkabekFmtCards.lean) ties it to the program's text. -/
def laid_example_com_quorumproof_quorumproof_pkg_consensus_faultNames {H : Type} : DataW H := .agg [.lit (.string [110, 111, 110, 101]), .lit (.string [99, 111, 109, 109, 105, 116, 45, 97, 110, 121, 45, 116, 101, 114, 109]), .lit (.string [98, 108, 105, 110, 100, 45, 102, 111, 108, 108, 111, 119, 101, 114]), .lit (.string [102, 111, 114, 103, 101, 116, 45, 118, 111, 116, 101]), .lit (.string [108, 101, 97, 100, 101, 114, 45, 99, 104, 101, 99, 107, 112, 111, 105, 110, 116, 115])]

/-- 'consensus.LawS1362AKnown': WHATEVER THE INPUT: true; the input reads as it did. -/
def lawS1362AKnownSpec : ChangeSpec := { name := "lawS1362AKnown", vars := ["example.com/quorumproof/quorumproof/pkg/consensus.faultNames"], fn := fun _ => fun
  | [d, g1] => { results := [.lit (.bool true)], args := [d], vars := [g1] }
  | _ => none }
def lawS1362AKnownRow : OpenClaim := { program := "ybulkabekfmt", sum := "ecb3862d171cb8a50e48d163905587b5e61b788a5d1ad9d1a53edcd34f92fc38", func := "example.com/quorumproof/quorumproof/pkg/consensus.LawS1362AKnown", spec := "lawS1362AKnown", stops := ["fmt.errorf"], inPlace := ["fmt.errorf"], named := ["example.com/quorumproof/quorumproof/pkg/consensus.faultNames"], apart := false, laid := [("example.com/quorumproof/quorumproof/pkg/consensus.faultNames", laid_example_com_quorumproof_quorumproof_pkg_consensus_faultNames)] }
/-- NO THEOREM (fmt's text is open here; it may be false): for the released tool's asking of the row's closed facts alone. THE STATEMENT IS 'LawS1362AKnownToldSaid' (YbulkabekFmtCards.lean). -/
def LawS1362AKnownFormAsk : Prop := lawS1362AKnownRow.holds Ybaf.pinned (OpenSpec.ofChange lawS1362AKnownSpec)

/-- ITS FALSE NEIGHBOUR: 'it returns false'. Refute it at one input. -/
def lawS1362AKnownWrong : ChangeSpec := { name := "lawS1362AKnown", vars := ["example.com/quorumproof/quorumproof/pkg/consensus.faultNames"], fn := fun _ => fun
  | [d, g1] => { results := [.lit (.bool false)], args := [d], vars := [g1] }
  | _ => none }
def LawS1362AKnownWrongFormAsk : Prop := lawS1362AKnownRow.holds Ybaf.pinned (OpenSpec.ofChange lawS1362AKnownWrong)

/-- 'consensus.LawS1362AAny': WHATEVER THE INPUT: true; the input reads as it did. -/
def lawS1362AAnySpec : ChangeSpec := { name := "lawS1362AAny", vars := ["example.com/quorumproof/quorumproof/pkg/consensus.faultNames"], fn := fun _ => fun
  | [d, g1] => { results := [.lit (.bool true)], args := [d], vars := [g1] }
  | _ => none }
def lawS1362AAnyRow : OpenClaim := { program := "ybulkabekfmt", sum := "ecb3862d171cb8a50e48d163905587b5e61b788a5d1ad9d1a53edcd34f92fc38", func := "example.com/quorumproof/quorumproof/pkg/consensus.LawS1362AAny", spec := "lawS1362AAny", stops := ["fmt.errorf"], inPlace := ["fmt.errorf"], named := ["example.com/quorumproof/quorumproof/pkg/consensus.faultNames"], apart := false, laid := [("example.com/quorumproof/quorumproof/pkg/consensus.faultNames", laid_example_com_quorumproof_quorumproof_pkg_consensus_faultNames)] }
/-- NO THEOREM (fmt's text is open here; it may be false): for the released tool's asking of the row's closed facts alone. THE STATEMENT IS 'LawS1362AAnyToldSaid' (YbulkabekFmtCards.lean). -/
def LawS1362AAnyFormAsk : Prop := lawS1362AAnyRow.holds Ybaf.pinned (OpenSpec.ofChange lawS1362AAnySpec)

/-- ITS FALSE NEIGHBOUR: 'it returns false'. Refute it at one input. -/
def lawS1362AAnyWrong : ChangeSpec := { name := "lawS1362AAny", vars := ["example.com/quorumproof/quorumproof/pkg/consensus.faultNames"], fn := fun _ => fun
  | [d, g1] => { results := [.lit (.bool false)], args := [d], vars := [g1] }
  | _ => none }
def LawS1362AAnyWrongFormAsk : Prop := lawS1362AAnyRow.holds Ybaf.pinned (OpenSpec.ofChange lawS1362AAnyWrong)

/-- 'consensus.LawS1362AMangled': WHATEVER THE INPUT: true; the input reads as it did. -/
def lawS1362AMangledSpec : ChangeSpec := { name := "lawS1362AMangled", vars := ["example.com/quorumproof/quorumproof/pkg/consensus.faultNames"], fn := fun _ => fun
  | [d1, d2, d3, g1] => { results := [.lit (.bool true)], args := [d1, d2, d3], vars := [g1] }
  | _ => none }
def lawS1362AMangledRow : OpenClaim := { program := "ybulkabekfmt", sum := "ecb3862d171cb8a50e48d163905587b5e61b788a5d1ad9d1a53edcd34f92fc38", func := "example.com/quorumproof/quorumproof/pkg/consensus.LawS1362AMangled", spec := "lawS1362AMangled", stops := ["fmt.errorf"], inPlace := ["fmt.errorf"], named := ["example.com/quorumproof/quorumproof/pkg/consensus.faultNames"], apart := false, laid := [("example.com/quorumproof/quorumproof/pkg/consensus.faultNames", laid_example_com_quorumproof_quorumproof_pkg_consensus_faultNames)] }
/-- NO THEOREM (fmt's text is open here; it may be false): for the released tool's asking of the row's closed facts alone. THE STATEMENT IS 'LawS1362AMangledToldSaid' (YbulkabekFmtCards.lean). -/
def LawS1362AMangledFormAsk : Prop := lawS1362AMangledRow.holds Ybaf.pinned (OpenSpec.ofChange lawS1362AMangledSpec)

/-- ITS FALSE NEIGHBOUR: 'it returns false'. Refute it at one input. -/
def lawS1362AMangledWrong : ChangeSpec := { name := "lawS1362AMangled", vars := ["example.com/quorumproof/quorumproof/pkg/consensus.faultNames"], fn := fun _ => fun
  | [d1, d2, d3, g1] => { results := [.lit (.bool false)], args := [d1, d2, d3], vars := [g1] }
  | _ => none }
def LawS1362AMangledWrongFormAsk : Prop := lawS1362AMangledRow.holds Ybaf.pinned (OpenSpec.ofChange lawS1362AMangledWrong)

end Rows
end Go.Proofs.YbulkabekFmt
