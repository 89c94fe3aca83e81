/-
  DERIVED. GIVEN WITH THE SEED: THE CARDS: each row of YbulkaryoFmtRows.lean that lists a variable, with what it lists TIED to the program's text (the seventh form; the later family's looks); each row that meets fmt, with fmt's text TOLD by the authors' own Lean function (tested against real Go, not proved from fmt's source: count such statements apart). THE CARD IS WHAT COUNTS. Prove the row's statement (the work); the ties are given (YbulkaryoFmtTie.lean); close each card by the builder's one call (the guide's Derived/Test/ToyasCard.lean, 'card_holds'). Laid BY PROGRAM, IN A SANDBOX (cutbox-door.mjs). By AI agents, Wed Nov 11 2026. No macro, syntax, notation, axiom, sorry.
-/
import Derived.Test.YbulkaryoFmtRows
import GoSem.ClaimSeven
namespace Go.Proofs.YbulkaryoFmt
namespace Rows

/-- THE TOLD AND TIED CARD OF 'procession.LawS2172BDrain'. -/
def lawS2172BDrainCard : Claim7 := { stood := { row := lawS2172BDrainRow, standIns := [], harness := (true, "4105b77ee010ddfed4d83a3debc4ce5d46164350ff37fcb93666ca849942175e"), looks := false }, told := true, laidByText := true, laidKinds := [.data], laidTests := true, laidLooks := .later, goes := false }
def LawS2172BDrainToldSaid : Prop := Claim7.holds Ybaf.pinned (.plain (OpenSpec.ofChange lawS2172BDrainSpec)) lawS2172BDrainCard
/-- ITS FALSE NEIGHBOUR. Refute it at one input. -/
def LawS2172BDrainToldWrongFalsely : Prop := Claim7.holds Ybaf.pinned (.plain (OpenSpec.ofChange lawS2172BDrainWrong)) lawS2172BDrainCard

/-- THE TOLD AND TIED CARD OF 'procession.LawS2172BSchedule'. -/
def lawS2172BScheduleCard : Claim7 := { stood := { row := lawS2172BScheduleRow, standIns := [], harness := (true, "4105b77ee010ddfed4d83a3debc4ce5d46164350ff37fcb93666ca849942175e"), looks := false }, told := true, laidByText := true, laidKinds := [.data], laidTests := true, laidLooks := .later, goes := false }
def LawS2172BScheduleToldSaid : Prop := Claim7.holds Ybaf.pinned (.plain (OpenSpec.ofChange lawS2172BScheduleSpec)) lawS2172BScheduleCard
/-- ITS FALSE NEIGHBOUR. Refute it at one input. -/
def LawS2172BScheduleToldWrongFalsely : Prop := Claim7.holds Ybaf.pinned (.plain (OpenSpec.ofChange lawS2172BScheduleWrong)) lawS2172BScheduleCard
end Rows
end Go.Proofs.YbulkaryoFmt
