/-
  DERIVED. GIVEN WITH THE SEED: THE CARDS: each row of YbulkasjiDoorRows.lean that lists a variable, with what it lists TIED to the program's text (the seventh form; the later family's looks); each row that meets fmt, with fmt's text TOLD by the authors' own Lean function (tested against real Go, not proved from fmt's source: count such statements apart). THE CARD IS WHAT COUNTS. Prove the row's statement (the work); the ties are given (YbulkasjiDoorTie.lean); close each card by the builder's one call (the guide's Derived/Test/ToyasCard.lean, 'card_holds'). Laid BY PROGRAM, IN A SANDBOX (cutbox-door.mjs). By AI agents, Wed Nov 11 2026. No macro, syntax, notation, axiom, sorry.
-/
import Derived.Test.YbulkasjiDoorRows
import GoSem.ClaimSeven
namespace Go.Proofs.YbulkasjiDoor
namespace Rows

/-- THE TIED CARD OF 'workheist.LawS2192CRefuse'. -/
def lawS2192CRefuseCard : Claim7 := { stood := { row := lawS2192CRefuseRow, standIns := [], harness := (true, "941889efe1d0edd6ba58dd84087b2961550a84ea8441264bdb99a4124c7ee5c8"), looks := true }, kinds := [], alts := [], laidByText := true, laidKinds := [.sentinel], laidTests := true, laidLooks := .later }
def LawS2192CRefuseCardSaid : Prop := Claim7.holds Ybad.pinned (.plain (OpenSpec.ofChange lawS2192CRefuseSpec)) lawS2192CRefuseCard
end Rows
end Go.Proofs.YbulkasjiDoor
