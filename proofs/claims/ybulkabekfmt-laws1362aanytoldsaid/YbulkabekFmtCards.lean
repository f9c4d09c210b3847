/-
  DERIVED. GIVEN WITH THE SEED: THE CARDS: each row of YbulkabekFmtRows.lean that lists a variable, with what it lists TIED to the program's text (the seventh form; the later family's looks); each row that meets fmt, with fmt's text TOLD by the authors' own Lean function (tested against real Go, not proved from fmt's source: count such statements apart). THE CARD IS WHAT COUNTS. Prove the row's statement (the work); the ties are given (YbulkabekFmtTie.lean); close each card by the builder's one call (the guide's Derived/Test/ToyasCard.lean, 'card_holds'). Laid BY PROGRAM, IN A SANDBOX (cutbox-door.mjs). By AI agents, Wed Nov 11 2026. No macro, syntax, notation, axiom, sorry.
-/
import Derived.Test.YbulkabekFmtRows
import GoSem.ClaimSeven
namespace Go.Proofs.YbulkabekFmt
namespace Rows

/-- THE TOLD AND TIED CARD OF 'consensus.LawS1362AKnown'. -/
def lawS1362AKnownCard : Claim7 := { stood := { row := lawS1362AKnownRow, standIns := [], harness := (true, "42cc13cee8a82813cb1a159c6f0402593d4907e59986bb03d40b5dc0fa26d8ee"), looks := false }, told := true, laidByText := true, laidKinds := [.data], laidTests := true, laidLooks := .later, goes := false }
def LawS1362AKnownToldSaid : Prop := Claim7.holds Ybaf.pinned (.plain (OpenSpec.ofChange lawS1362AKnownSpec)) lawS1362AKnownCard
/-- ITS FALSE NEIGHBOUR. Refute it at one input. -/
def LawS1362AKnownToldWrongFalsely : Prop := Claim7.holds Ybaf.pinned (.plain (OpenSpec.ofChange lawS1362AKnownWrong)) lawS1362AKnownCard

/-- THE TOLD AND TIED CARD OF 'consensus.LawS1362AAny'. -/
def lawS1362AAnyCard : Claim7 := { stood := { row := lawS1362AAnyRow, standIns := [], harness := (true, "42cc13cee8a82813cb1a159c6f0402593d4907e59986bb03d40b5dc0fa26d8ee"), looks := false }, told := true, laidByText := true, laidKinds := [.data], laidTests := true, laidLooks := .later, goes := false }
def LawS1362AAnyToldSaid : Prop := Claim7.holds Ybaf.pinned (.plain (OpenSpec.ofChange lawS1362AAnySpec)) lawS1362AAnyCard
/-- ITS FALSE NEIGHBOUR. Refute it at one input. -/
def LawS1362AAnyToldWrongFalsely : Prop := Claim7.holds Ybaf.pinned (.plain (OpenSpec.ofChange lawS1362AAnyWrong)) lawS1362AAnyCard

/-- THE TOLD AND TIED CARD OF 'consensus.LawS1362AMangled'. -/
def lawS1362AMangledCard : Claim7 := { stood := { row := lawS1362AMangledRow, standIns := [], harness := (true, "42cc13cee8a82813cb1a159c6f0402593d4907e59986bb03d40b5dc0fa26d8ee"), looks := false }, told := true, laidByText := true, laidKinds := [.data], laidTests := true, laidLooks := .later, goes := false }
def LawS1362AMangledToldSaid : Prop := Claim7.holds Ybaf.pinned (.plain (OpenSpec.ofChange lawS1362AMangledSpec)) lawS1362AMangledCard
/-- ITS FALSE NEIGHBOUR. Refute it at one input. -/
def LawS1362AMangledToldWrongFalsely : Prop := Claim7.holds Ybaf.pinned (.plain (OpenSpec.ofChange lawS1362AMangledWrong)) lawS1362AMangledCard
end Rows
end Go.Proofs.YbulkabekFmt
