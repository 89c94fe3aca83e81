/-
  No cell of these rows narrows 'for every input' (looked for: loops, veiled, ifaces, maps, wideKeys, modest, calm, conditions, laid).
  DERIVED. THE GIVEN ROWS OF THIS SEAT. 2 by the template 'for every input the law returns true; each argument reads behind the call as it read before'; 0 by the template 'total and deterministic' (their statements: YbulkaryoTotals.lean).
  GIVEN WITH THE SEED: the statements are not yours to turn. If you find one false, say at which input.
  Laid BY PROGRAM, IN A SANDBOX (cutbox-rows.mjs): the forced cells as the released guide's own fill.sh prints them over the translation 3425078f0287cb89… (all of the seat's roots in one cut). By AI agents, Wed Nov 11 2026. No macro, syntax, notation, axiom, sorry.
-/
import Derived.Test.YbulkaryoChecked
import GoSem.Claim
import GoSem.ClaimJoined
import GoSem.ClaimMapViews
import Derived.JoinedTies
import Derived.KernelRfl
namespace Go.Proofs.Ybulkaryo
/- THE CELL 'sum', in the pinned program and in every row, IS THE sha256 OF THE DUMP (.gsa) THAT YbulkaryoProg.lean LOADS. Nothing in Lean hashes anything: it is a label: what it is worth is what the hold of that sum in a sandbox is worth. -/
noncomputable def Yba.pinned : Pinned := { name := "ybulkaryo", sum := "3425078f0287cb8900f429a2f2c3fd3e34be498e875735c80f6424a8cae890da", checked := Yba.checked }
namespace Rows
def none {H : Type} : Left H := { results := [], args := [] }

/-- 'protocol.LawS2172AMember': WHATEVER THE INPUT: true; the input reads as it did. -/
def lawS2172AMemberSpec : ChangeSpec := { name := "lawS2172AMember", fn := fun _ => fun
  | [d1, d2, d3, d4, d5, d6, d7, d8, d9] => { results := [.lit (.bool true)], args := [d1, d2, d3, d4, d5, d6, d7, d8, d9] }
  | _ => none }
def lawS2172AMemberRow : OpenClaim := { program := "ybulkaryo", sum := "3425078f0287cb8900f429a2f2c3fd3e34be498e875735c80f6424a8cae890da", func := "example.com/procession/procession/internal/protocol.LawS2172AMember", spec := "lawS2172AMember", unfollowed := true, recurses := true, apart := false }
def LawS2172AMemberSaid : Prop := lawS2172AMemberRow.holds Yba.pinned (OpenSpec.ofChange lawS2172AMemberSpec)

/-- ITS FALSE NEIGHBOUR: 'it returns false'. Refute it at one input. -/
def lawS2172AMemberWrong : ChangeSpec := { name := "lawS2172AMember", fn := fun _ => fun
  | [d1, d2, d3, d4, d5, d6, d7, d8, d9] => { results := [.lit (.bool false)], args := [d1, d2, d3, d4, d5, d6, d7, d8, d9] }
  | _ => none }
def LawS2172AMemberWrongFalsely : Prop := lawS2172AMemberRow.holds Yba.pinned (OpenSpec.ofChange lawS2172AMemberWrong)

/-- 'protocol.LawS2172ALeader': WHATEVER THE INPUT: true; the input reads as it did. -/
def lawS2172ALeaderSpec : ChangeSpec := { name := "lawS2172ALeader", fn := fun _ => fun
  | [d1, d2, d3, d4, d5, d6, d7] => { results := [.lit (.bool true)], args := [d1, d2, d3, d4, d5, d6, d7] }
  | _ => none }
def lawS2172ALeaderRow : OpenClaim := { program := "ybulkaryo", sum := "3425078f0287cb8900f429a2f2c3fd3e34be498e875735c80f6424a8cae890da", func := "example.com/procession/procession/internal/protocol.LawS2172ALeader", spec := "lawS2172ALeader", unfollowed := true, recurses := true, apart := false }
def LawS2172ALeaderSaid : Prop := lawS2172ALeaderRow.holds Yba.pinned (OpenSpec.ofChange lawS2172ALeaderSpec)

/-- ITS FALSE NEIGHBOUR: 'it returns false'. Refute it at one input. -/
def lawS2172ALeaderWrong : ChangeSpec := { name := "lawS2172ALeader", fn := fun _ => fun
  | [d1, d2, d3, d4, d5, d6, d7] => { results := [.lit (.bool false)], args := [d1, d2, d3, d4, d5, d6, d7] }
  | _ => none }
def LawS2172ALeaderWrongFalsely : Prop := lawS2172ALeaderRow.holds Yba.pinned (OpenSpec.ofChange lawS2172ALeaderWrong)

end Rows
end Go.Proofs.Ybulkaryo
