/-
  No cell of these rows narrows 'for every input' (looked for: loops, veiled, ifaces, maps, wideKeys, modest, calm, conditions, laid).
  DERIVED. THE GIVEN ROWS OF THIS SEAT. 3 by the template 'for every input the law returns true; each argument reads behind the call as it read before'; 0 by the template 'total and deterministic' (their statements: YbulkarxmTotals.lean).
  GIVEN WITH THE SEED: the statements are not yours to turn. If you find one false, say at which input.
  Laid BY PROGRAM, IN A SANDBOX (cutbox-rows.mjs): the forced cells as the released guide's own fill.sh prints them over the translation d6a5725b8429c69a… (all of the seat's roots in one cut). By AI agents, Wed Nov 11 2026. No macro, syntax, notation, axiom, sorry.
-/
import Derived.Test.YbulkarxmChecked
import GoSem.Claim
import GoSem.ClaimJoined
import GoSem.ClaimMapViews
import Derived.JoinedTies
import Derived.KernelRfl
namespace Go.Proofs.Ybulkarxm
/- THE CELL 'sum', in the pinned program and in every row, IS THE sha256 OF THE DUMP (.gsa) THAT YbulkarxmProg.lean LOADS. Nothing in Lean hashes anything: it is a label: what it is worth is what the hold of that sum in a sandbox is worth. -/
noncomputable def Yba.pinned : Pinned := { name := "ybulkarxm", sum := "d6a5725b8429c69a2ee1cff1086dc931dd94ea972d15026a6e3e78fd906ce6bf", checked := Yba.checked }
namespace Rows
def none {H : Type} : Left H := { results := [], args := [] }

/-- 'wiretest.LawS2170AExact': WHATEVER THE INPUT: true; the input reads as it did. -/
def lawS2170AExactSpec : ChangeSpec := { name := "lawS2170AExact", fn := fun _ => fun
  | [] => { results := [.lit (.bool true)], args := [] }
  | _ => none }
def lawS2170AExactRow : OpenClaim := { program := "ybulkarxm", sum := "d6a5725b8429c69a2ee1cff1086dc931dd94ea972d15026a6e3e78fd906ce6bf", func := "example.com/moorline/moorline/internal/wiretest.LawS2170AExact", spec := "lawS2170AExact", apart := false }
def LawS2170AExactSaid : Prop := lawS2170AExactRow.holds Yba.pinned (OpenSpec.ofChange lawS2170AExactSpec)

/-- ITS FALSE NEIGHBOUR: 'it returns false'. Refute it at one input. -/
def lawS2170AExactWrong : ChangeSpec := { name := "lawS2170AExact", fn := fun _ => fun
  | [] => { results := [.lit (.bool false)], args := [] }
  | _ => none }
def LawS2170AExactWrongFalsely : Prop := lawS2170AExactRow.holds Yba.pinned (OpenSpec.ofChange lawS2170AExactWrong)

/-- 'wiretest.LawS2170AHello': WHATEVER THE INPUT: true; the input reads as it did. -/
def lawS2170AHelloSpec : ChangeSpec := { name := "lawS2170AHello", fn := fun _ => fun
  | [] => { results := [.lit (.bool true)], args := [] }
  | _ => none }
def lawS2170AHelloRow : OpenClaim := { program := "ybulkarxm", sum := "d6a5725b8429c69a2ee1cff1086dc931dd94ea972d15026a6e3e78fd906ce6bf", func := "example.com/moorline/moorline/internal/wiretest.LawS2170AHello", spec := "lawS2170AHello", apart := false }
def LawS2170AHelloSaid : Prop := lawS2170AHelloRow.holds Yba.pinned (OpenSpec.ofChange lawS2170AHelloSpec)

/-- ITS FALSE NEIGHBOUR: 'it returns false'. Refute it at one input. -/
def lawS2170AHelloWrong : ChangeSpec := { name := "lawS2170AHello", fn := fun _ => fun
  | [] => { results := [.lit (.bool false)], args := [] }
  | _ => none }
def LawS2170AHelloWrongFalsely : Prop := lawS2170AHelloRow.holds Yba.pinned (OpenSpec.ofChange lawS2170AHelloWrong)

/-- 'wiretest.LawS2170ALegacy': WHATEVER THE INPUT: true; the input reads as it did. -/
def lawS2170ALegacySpec : ChangeSpec := { name := "lawS2170ALegacy", fn := fun _ => fun
  | [] => { results := [.lit (.bool true)], args := [] }
  | _ => none }
def lawS2170ALegacyRow : OpenClaim := { program := "ybulkarxm", sum := "d6a5725b8429c69a2ee1cff1086dc931dd94ea972d15026a6e3e78fd906ce6bf", func := "example.com/moorline/moorline/internal/wiretest.LawS2170ALegacy", spec := "lawS2170ALegacy", apart := false }
def LawS2170ALegacySaid : Prop := lawS2170ALegacyRow.holds Yba.pinned (OpenSpec.ofChange lawS2170ALegacySpec)

/-- ITS FALSE NEIGHBOUR: 'it returns false'. Refute it at one input. -/
def lawS2170ALegacyWrong : ChangeSpec := { name := "lawS2170ALegacy", fn := fun _ => fun
  | [] => { results := [.lit (.bool false)], args := [] }
  | _ => none }
def LawS2170ALegacyWrongFalsely : Prop := lawS2170ALegacyRow.holds Yba.pinned (OpenSpec.ofChange lawS2170ALegacyWrong)

end Rows
end Go.Proofs.Ybulkarxm
