import Derived.Test.YbulkabekFmtCards
import Derived.Test.YbulkabekFmtTie
import Derived.Test.YbulkabekFmtMangled
import Derived.ProofKit
import Derived.LaidMore
import Derived.Stop.Joined
import Derived.Stop.JoinedAt
import Derived.Stop.JoinedTold
import Derived.SevenTiedAt
import Derived.ShutString
import Derived.OpenShut
namespace Go.Proofs.YbulkabekFmt
open Go.ChangeShapes Go.WideShapes Go.ChangeAt Go.RowKit
open Go.ChangeMaps (open_string shut_string)
open Go.Extern.Stop Go.Stop Go.Extern
set_option linter.unusedVariables false

theorem own : ownKnob Ybaf.prog.godebug = none := by kernel_rfl
theorem laidOut : laidOutB Ybaf.prog = true := by kernel_rfl
theorem laidOutP : laidOutB Ybaf.pinned.checked.prog = true := by kernel_rfl
theorem stopsP : Ybaf.pinned.checked.prog.stops = ["fmt.errorf"] := by kernel_rfl
theorem knobsP : Ybaf.pinned.checked.prog.stopKnobs = [] := by kernel_rfl
theorem quietP (os : Os) : Stop.quiet Ybaf.pinned.checked.prog os := by
  intro k hk
  rw [knobsP] at hk
  cases hk
/-- the table's full name, as the given row has it -/
def gname : String := match Rows.lawS1362AMangledSpec.vars with
  | [g] => g
  | _ => "none"
theorem gN : Ybaf.prog.globalNamed gname = some 0 := by kernel_rfl
theorem gT : (Ybaf.prog.globals[0]?).map (·.type) = some 32 := by kernel_rfl
theorem cells32 : Ybaf.prog.cellsOf 32 = 5 := by kernel_rfl
theorem cells9 : Ybaf.prog.cellsOf 9 = 1 := by kernel_rfl

/-- the listed variable and its datum -/
def laid1 : List (String × DataW Unit) := [(gname, Rows.laid_example_com_quorumproof_quorumproof_pkg_consensus_faultNames)]

/-- the heap that the initialisers leave meets the condition -/
theorem door_met (os : Os) (args : Array Value) : laidMetH Ybaf.prog laid1 ((World.doorLaid Ybaf.prog 14 os).forCall (fun _ _ => 0) ⟨#[], args, []⟩).memory :=
  laidMetH_of_parts3 (fuel := 8) (laidMet_of_run' 8 (by kernel_rfl) (by kernel_rfl)) (by kernel_rfl) (by kernel_rfl)

theorem str_of_trod {H : Type} {enc : TypeId × Value → H} {w : World} {base : Nat} {sp : Nat → Bool} {held : Bool} {fuel : Nat} {c : Value} {y : DataW H × List MemPlace}
    (h : DataW.trod enc Ybaf.prog w base sp held fuel 9 [c] = some y) : ∃ s : ByteArray, c = .string s ∧ y = (.lit (.string s.data.toList), []) := by
  obtain ⟨s, hc, hy, _⟩ := DataW.trod_string Ybaf.underlying9 h
  simp only [List.cons.injEq, and_true] at hc
  exact ⟨s, hc, hy⟩
theorem ba_of_list {s : ByteArray} {l : List UInt8} (h : s.data.toList = l) : s = ⟨l.toArray⟩ := by
  subst h; cases s; simp

theorem list5 {α : Type} {l : List α} (h : l.length = 5) : ∃ a b c d e, l = [a, b, c, d, e] := by
  match l, h with
  | [a, b, c, d, e], _ => exact ⟨a, b, c, d, e, rfl⟩

/-- what the condition gives the walks: the table's cells -/
theorem of_laid {W : World} (h : laidMetH Ybaf.prog laid1 W) : W.var? Ybaf.prog gname = some tabA := by
  rw [MakeChecks.laidMetH_plain _ _ _ (by kernel_rfl)] at h
  obtain ⟨ps, ⟨g, t, cs, fuel, p, q, hg, ht, hvar, hd, _, _⟩, _⟩ := h
  obtain rfl := Option.some.inj (gN.symm.trans hg)
  obtain rfl := Option.some.inj (gT.symm.trans ht)
  rw [hvar]
  congr 1
  obtain ⟨l⟩ := cs
  obtain ⟨xs, m, _, hx, hl, hxl, hel⟩ := DataW.trod_array Ybaf.underlying32 hd
  rw [cells32] at hl
  obtain ⟨c0, c1, c2, c3, c4, rfl⟩ := list5 hl
  obtain ⟨x0, x1, x2, x3, x4, rfl⟩ := list5 hxl
  have h0 := hel 0 (by decide)
  have h1 := hel 1 (by decide)
  have h2 := hel 2 (by decide)
  have h3 := hel 3 (by decide)
  have h4 := hel 4 (by decide)
  simp [cells9] at h0 h1 h2 h3 h4
  obtain ⟨n0, rfl, rfl⟩ := str_of_trod h0
  obtain ⟨n1, rfl, rfl⟩ := str_of_trod h1
  obtain ⟨n2, rfl, rfl⟩ := str_of_trod h2
  obtain ⟨n3, rfl, rfl⟩ := str_of_trod h3
  obtain ⟨n4, rfl, rfl⟩ := str_of_trod h4
  simp [Rows.laid_example_com_quorumproof_quorumproof_pkg_consensus_faultNames] at hx
  obtain ⟨⟨e0, e1, e2, e3, e4⟩, _⟩ := hx
  rw [ba_of_list e0.symm, ba_of_list e1.symm, ba_of_list e2.symm, ba_of_list e3.symm, ba_of_list e4.symm]
  rfl

theorem tab_of {W : World} (h : W.var? Ybaf.prog gname = some tabA) : Tab W := by
  refine ⟨?_, ?_, ?_, ?_, ?_⟩
  · simpa [tabA] using World.var?_cell gN h 0
  · simpa [tabA] using World.var?_cell gN h 1
  · simpa [tabA] using World.var?_cell gN h 2
  · simpa [tabA] using World.var?_cell gN h 3
  · simpa [tabA] using World.var?_cell gN h 4
end Go.Proofs.YbulkabekFmt
